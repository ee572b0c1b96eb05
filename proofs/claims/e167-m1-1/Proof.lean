import JvmDerived
import JvmDerived.Pilot.@@N@@Statement
import JvmDerived.Pilot.@@N@@Code
set_option linter.unusedVariables false
set_option linter.unusedSimpArgs false
namespace Jvm.RoadKit
open Sem ClassFile Op Lib Jvm.Stand Jvm.Free Jvm.LawKit
section New
variable {p : Program} {l : Launch} {e : Env} {R : Room} {s : State} {m : MethodId} {args : Array Value} {below : List Frame} {meth : Method} {c : Code} {T : State} {locs : List Loc} {cells slots : Nat}
theorem retI (X : Stand p l e R s m args below meth c T locs cells slots) (hx : p.tables.exec = Jvm.exec) {pc : Nat} {Ls : Array Slot} {z : Int32} {rest : List Value} (hret : meth.sig.returnType = some .int) (hd : decode c.code pc = .ok (.ireturn, 1)) {fs : List Frame}
    (hl : ∀ (f : JFrame) (acts : List Action), f.method = m → f.locked = none → f.entered = [] → (doReturn e (T.setTop f) acts (some (.int z))).1 = T.setFrames fs) : Steps p.tables e below (T.setTop (mkF m pc Ls (.int z :: rest))) (T.setFrames fs) := by
  have hm' : T.vm.method? m = some meth := X.method'
  have hn : narrow .int (.int z) = .int z := rfl
  show Steps p.tables e below (T.setTop { method := m, pc := pc, locals := Ls, stack := _ :: rest, locked := none }) _
  jvm_step X.here [X.here.top, hx, hd, hm', hret, hn]
  first | (intro acts; rw [hl _ acts rfl rfl rfl]) | rw [hl _ _ rfl rfl rfl]
  exact Steps.refl _
end New
end Jvm.RoadKit
namespace Jvm.Pilot.@@N@@
open Jvm Jvm.ClassFile Sem Op Lib Jvm.Free Jvm.Stand Jvm.LawKit Jvm.RoadKit Bundle Jvm.Pilot.@@N@@.Jvm.D

theorem own_rem {x y : Int32} (hx : 0 ≤ x.toInt) (hy : 0 < y.toInt) : ¬ x % y < 0 ∧ x % y < y := by
  constructor
  · rw [Int32.lt_iff_toInt_lt, Int32.toInt_mod]; have := Int.tmod_nonneg y.toInt hx; simp; omega
  · rw [Int32.lt_iff_toInt_lt, Int32.toInt_mod]; exact Int.tmod_lt_of_pos _ hy
theorem own_mask31 (x : Int32) : 0 ≤ (x &&& (2147483647 : Int32)).toInt := by
  show 0 ≤ ((x &&& (2147483647 : Int32)).toBitVec).toInt
  rw [Int32.toBitVec_and, BitVec.toInt_eq_toNat_cond, BitVec.toNat_and]
  have : x.toBitVec.toNat &&& (2147483647 : Int32).toBitVec.toNat ≤ (2147483647 : Int32).toBitVec.toNat := Nat.and_le_right
  have e : (2147483647 : Int32).toBitVec.toNat = 2147483647 := rfl
  rw [e] at this ⊢
  split <;> omega
theorem own_aset {Z : State} {h h' : Heap} {a : Addr} {c : Cell} {k : ClassId} {ty : FieldType} {z j : Int32} {vs : List Value} {dv v : Value} {n : Nat} (A : Arr Z h a c ty) (q1 : c.cls = k) (S : c.slots.size = z.toNatClampNeg) (q3 : ¬ z < 0) (H : Has c vs dv) (G : ∀ i, i < c.slots.size → fits ty (vs.getD i dv) = true) (hv : fits ty v = true) (W : Wr h h' a j.toNatClampNeg v) (i : Nat) (hj : j.toNatClampNeg = i) (hl : vs.length = n) (hi : i < n) : ∃ vs' : List Value, vs'.length = n ∧ Arv Z h' a k ty z vs' dv :=
  ⟨vs.set i v, by rw [List.length_set]; exact hl, Arv.set A q1 S q3 H G hv W i hj (by rw [hl]; exact hi)⟩
theorem own_fitI {v : Value} (h : fits .int v = true) : ∃ w, v = .int w := by cases v <;> simp [fits] at h ⊢
theorem d1_0 : decode prog_112_method_3_code 0 = .ok (.iload_n 0, 1) := by decide +kernel
theorem d1_1 : decode prog_112_method_3_code 1 = .ok (.bipush 97, 2) := by decide +kernel
theorem d1_3 : decode prog_112_method_3_code 3 = .ok (.if_icmp .lt 9, 3) := by decide +kernel
theorem d1_6 : decode prog_112_method_3_code 6 = .ok (.iload_n 0, 1) := by decide +kernel
theorem d1_7 : decode prog_112_method_3_code 7 = .ok (.bipush 122, 2) := by decide +kernel
theorem d1_9 : decode prog_112_method_3_code 9 = .ok (.if_icmp .le 182, 3) := by decide +kernel
theorem d1_12 : decode prog_112_method_3_code 12 = .ok (.iload_n 0, 1) := by decide +kernel
theorem d1_13 : decode prog_112_method_3_code 13 = .ok (.bipush 65, 2) := by decide +kernel
theorem d1_15 : decode prog_112_method_3_code 15 = .ok (.if_icmp .lt 9, 3) := by decide +kernel
theorem d1_18 : decode prog_112_method_3_code 18 = .ok (.iload_n 0, 1) := by decide +kernel
theorem d1_19 : decode prog_112_method_3_code 19 = .ok (.bipush 90, 2) := by decide +kernel
theorem d1_21 : decode prog_112_method_3_code 21 = .ok (.if_icmp .le 170, 3) := by decide +kernel
theorem d1_24 : decode prog_112_method_3_code 24 = .ok (.iload_n 0, 1) := by decide +kernel
theorem d1_25 : decode prog_112_method_3_code 25 = .ok (.bipush 95, 2) := by decide +kernel
theorem d1_27 : decode prog_112_method_3_code 27 = .ok (.if_icmp .eq 164, 3) := by decide +kernel
theorem d1_30 : decode prog_112_method_3_code 30 = .ok (.iload_n 0, 1) := by decide +kernel
theorem d1_31 : decode prog_112_method_3_code 31 = .ok (.sipush 192, 3) := by decide +kernel
theorem d1_34 : decode prog_112_method_3_code 34 = .ok (.if_icmp .lt 10, 3) := by decide +kernel
theorem d1_37 : decode prog_112_method_3_code 37 = .ok (.iload_n 0, 1) := by decide +kernel
theorem d1_38 : decode prog_112_method_3_code 38 = .ok (.sipush 214, 3) := by decide +kernel
theorem d1_41 : decode prog_112_method_3_code 41 = .ok (.if_icmp .le 150, 3) := by decide +kernel
theorem d1_44 : decode prog_112_method_3_code 44 = .ok (.iload_n 0, 1) := by decide +kernel
theorem d1_45 : decode prog_112_method_3_code 45 = .ok (.sipush 216, 3) := by decide +kernel
theorem d1_48 : decode prog_112_method_3_code 48 = .ok (.if_icmp .lt 10, 3) := by decide +kernel
theorem d1_51 : decode prog_112_method_3_code 51 = .ok (.iload_n 0, 1) := by decide +kernel
theorem d1_52 : decode prog_112_method_3_code 52 = .ok (.sipush 246, 3) := by decide +kernel
theorem d1_55 : decode prog_112_method_3_code 55 = .ok (.if_icmp .le 136, 3) := by decide +kernel
theorem d1_58 : decode prog_112_method_3_code 58 = .ok (.iload_n 0, 1) := by decide +kernel
theorem d1_59 : decode prog_112_method_3_code 59 = .ok (.sipush 248, 3) := by decide +kernel
theorem d1_62 : decode prog_112_method_3_code 62 = .ok (.if_icmp .lt 10, 3) := by decide +kernel
theorem d1_65 : decode prog_112_method_3_code 65 = .ok (.iload_n 0, 1) := by decide +kernel
theorem d1_66 : decode prog_112_method_3_code 66 = .ok (.sipush 767, 3) := by decide +kernel
theorem d1_69 : decode prog_112_method_3_code 69 = .ok (.if_icmp .le 122, 3) := by decide +kernel
theorem d1_72 : decode prog_112_method_3_code 72 = .ok (.iload_n 0, 1) := by decide +kernel
theorem d1_73 : decode prog_112_method_3_code 73 = .ok (.sipush 880, 3) := by decide +kernel
theorem d1_76 : decode prog_112_method_3_code 76 = .ok (.if_icmp .lt 10, 3) := by decide +kernel
theorem d1_79 : decode prog_112_method_3_code 79 = .ok (.iload_n 0, 1) := by decide +kernel
theorem d1_80 : decode prog_112_method_3_code 80 = .ok (.sipush 893, 3) := by decide +kernel
theorem d1_83 : decode prog_112_method_3_code 83 = .ok (.if_icmp .le 108, 3) := by decide +kernel
theorem d1_86 : decode prog_112_method_3_code 86 = .ok (.iload_n 0, 1) := by decide +kernel
theorem d1_87 : decode prog_112_method_3_code 87 = .ok (.sipush 895, 3) := by decide +kernel
theorem d1_90 : decode prog_112_method_3_code 90 = .ok (.if_icmp .lt 10, 3) := by decide +kernel
theorem d1_93 : decode prog_112_method_3_code 93 = .ok (.iload_n 0, 1) := by decide +kernel
theorem d1_94 : decode prog_112_method_3_code 94 = .ok (.sipush 8191, 3) := by decide +kernel
theorem d1_97 : decode prog_112_method_3_code 97 = .ok (.if_icmp .le 94, 3) := by decide +kernel
theorem d1_100 : decode prog_112_method_3_code 100 = .ok (.iload_n 0, 1) := by decide +kernel
theorem d1_101 : decode prog_112_method_3_code 101 = .ok (.sipush 8204, 3) := by decide +kernel
theorem d1_104 : decode prog_112_method_3_code 104 = .ok (.if_icmp .lt 10, 3) := by decide +kernel
theorem d1_107 : decode prog_112_method_3_code 107 = .ok (.iload_n 0, 1) := by decide +kernel
theorem d1_108 : decode prog_112_method_3_code 108 = .ok (.sipush 8205, 3) := by decide +kernel
theorem d1_111 : decode prog_112_method_3_code 111 = .ok (.if_icmp .le 80, 3) := by decide +kernel
theorem d1_114 : decode prog_112_method_3_code 114 = .ok (.iload_n 0, 1) := by decide +kernel
theorem d1_115 : decode prog_112_method_3_code 115 = .ok (.sipush 8304, 3) := by decide +kernel
theorem d1_118 : decode prog_112_method_3_code 118 = .ok (.if_icmp .lt 10, 3) := by decide +kernel
theorem d1_121 : decode prog_112_method_3_code 121 = .ok (.iload_n 0, 1) := by decide +kernel
theorem d1_122 : decode prog_112_method_3_code 122 = .ok (.sipush 8591, 3) := by decide +kernel
theorem d1_125 : decode prog_112_method_3_code 125 = .ok (.if_icmp .le 66, 3) := by decide +kernel
theorem d1_128 : decode prog_112_method_3_code 128 = .ok (.iload_n 0, 1) := by decide +kernel
theorem d1_129 : decode prog_112_method_3_code 129 = .ok (.sipush 11264, 3) := by decide +kernel
theorem d1_132 : decode prog_112_method_3_code 132 = .ok (.if_icmp .lt 10, 3) := by decide +kernel
theorem d1_135 : decode prog_112_method_3_code 135 = .ok (.iload_n 0, 1) := by decide +kernel
theorem d1_136 : decode prog_112_method_3_code 136 = .ok (.sipush 12271, 3) := by decide +kernel
theorem d1_139 : decode prog_112_method_3_code 139 = .ok (.if_icmp .le 52, 3) := by decide +kernel
theorem d1_142 : decode prog_112_method_3_code 142 = .ok (.iload_n 0, 1) := by decide +kernel
theorem d1_143 : decode prog_112_method_3_code 143 = .ok (.sipush 12289, 3) := by decide +kernel
theorem d1_146 : decode prog_112_method_3_code 146 = .ok (.if_icmp .lt 9, 3) := by decide +kernel
theorem d1_149 : decode prog_112_method_3_code 149 = .ok (.iload_n 0, 1) := by decide +kernel
theorem d1_150 : decode prog_112_method_3_code 150 = .ok (.ldc 7, 2) := by decide +kernel
theorem d1_152 : decode prog_112_method_3_code 152 = .ok (.if_icmp .le 39, 3) := by decide +kernel
theorem d1_155 : decode prog_112_method_3_code 155 = .ok (.iload_n 0, 1) := by decide +kernel
theorem d1_156 : decode prog_112_method_3_code 156 = .ok (.ldc 8, 2) := by decide +kernel
theorem d1_158 : decode prog_112_method_3_code 158 = .ok (.if_icmp .lt 9, 3) := by decide +kernel
theorem d1_161 : decode prog_112_method_3_code 161 = .ok (.iload_n 0, 1) := by decide +kernel
theorem d1_162 : decode prog_112_method_3_code 162 = .ok (.ldc 9, 2) := by decide +kernel
theorem d1_164 : decode prog_112_method_3_code 164 = .ok (.if_icmp .le 27, 3) := by decide +kernel
theorem d1_167 : decode prog_112_method_3_code 167 = .ok (.iload_n 0, 1) := by decide +kernel
theorem d1_168 : decode prog_112_method_3_code 168 = .ok (.ldc 10, 2) := by decide +kernel
theorem d1_170 : decode prog_112_method_3_code 170 = .ok (.if_icmp .lt 9, 3) := by decide +kernel
theorem d1_173 : decode prog_112_method_3_code 173 = .ok (.iload_n 0, 1) := by decide +kernel
theorem d1_174 : decode prog_112_method_3_code 174 = .ok (.ldc 11, 2) := by decide +kernel
theorem d1_176 : decode prog_112_method_3_code 176 = .ok (.if_icmp .le 15, 3) := by decide +kernel
theorem d1_179 : decode prog_112_method_3_code 179 = .ok (.iload_n 0, 1) := by decide +kernel
theorem d1_180 : decode prog_112_method_3_code 180 = .ok (.ldc 12, 2) := by decide +kernel
theorem d1_182 : decode prog_112_method_3_code 182 = .ok (.if_icmp .lt 13, 3) := by decide +kernel
theorem d1_185 : decode prog_112_method_3_code 185 = .ok (.iload_n 0, 1) := by decide +kernel
theorem d1_186 : decode prog_112_method_3_code 186 = .ok (.ldc 13, 2) := by decide +kernel
theorem d1_188 : decode prog_112_method_3_code 188 = .ok (.if_icmp .gt 7, 3) := by decide +kernel
theorem d1_191 : decode prog_112_method_3_code 191 = .ok (.iconst 1, 1) := by decide +kernel
theorem d1_192 : decode prog_112_method_3_code 192 = .ok (.goto 4, 3) := by decide +kernel
theorem d1_195 : decode prog_112_method_3_code 195 = .ok (.iconst 0, 1) := by decide +kernel
theorem d1_196 : decode prog_112_method_3_code 196 = .ok (.ireturn, 1) := by decide +kernel
theorem pn_1 : plainName "com/example/keyref/keyref/model/XmlChars" = true := by first | (simp [plainName, overriddenIn]; done) | decide +kernel
theorem ef_1 (m : MethodId) (x0 : Int32) : entryFrame m #[(.int x0)] 1 = mkF m 0 #[.val (.int x0)] [] := by first | (simp [entryFrame, mkF, argsToLocals, Value.category]; done) | rfl
def own_1_195 (p1 : Int32) : Int32 := (0 : Int32)
def own_1_191 (p1 : Int32) : Int32 := (1 : Int32)
def own_1_185 (p1 : Int32) : Int32 := if (983039 : Int32) < p1 then own_1_195 p1 else own_1_191 p1
def own_1_179 (p1 : Int32) : Int32 := if p1 < (65536 : Int32) then own_1_195 p1 else own_1_185 p1
def own_1_173 (p1 : Int32) : Int32 := if (65533 : Int32) < p1 then own_1_179 p1 else own_1_191 p1
def own_1_167 (p1 : Int32) : Int32 := if p1 < (65008 : Int32) then own_1_179 p1 else own_1_173 p1
def own_1_161 (p1 : Int32) : Int32 := if (64975 : Int32) < p1 then own_1_167 p1 else own_1_191 p1
def own_1_155 (p1 : Int32) : Int32 := if p1 < (63744 : Int32) then own_1_167 p1 else own_1_161 p1
def own_1_149 (p1 : Int32) : Int32 := if (55295 : Int32) < p1 then own_1_155 p1 else own_1_191 p1
def own_1_142 (p1 : Int32) : Int32 := if p1 < (12289 : Int32) then own_1_155 p1 else own_1_149 p1
def own_1_135 (p1 : Int32) : Int32 := if (12271 : Int32) < p1 then own_1_142 p1 else own_1_191 p1
def own_1_128 (p1 : Int32) : Int32 := if p1 < (11264 : Int32) then own_1_142 p1 else own_1_135 p1
def own_1_121 (p1 : Int32) : Int32 := if (8591 : Int32) < p1 then own_1_128 p1 else own_1_191 p1
def own_1_114 (p1 : Int32) : Int32 := if p1 < (8304 : Int32) then own_1_128 p1 else own_1_121 p1
def own_1_107 (p1 : Int32) : Int32 := if (8205 : Int32) < p1 then own_1_114 p1 else own_1_191 p1
def own_1_100 (p1 : Int32) : Int32 := if p1 < (8204 : Int32) then own_1_114 p1 else own_1_107 p1
def own_1_93 (p1 : Int32) : Int32 := if (8191 : Int32) < p1 then own_1_100 p1 else own_1_191 p1
def own_1_86 (p1 : Int32) : Int32 := if p1 < (895 : Int32) then own_1_100 p1 else own_1_93 p1
def own_1_79 (p1 : Int32) : Int32 := if (893 : Int32) < p1 then own_1_86 p1 else own_1_191 p1
def own_1_72 (p1 : Int32) : Int32 := if p1 < (880 : Int32) then own_1_86 p1 else own_1_79 p1
def own_1_65 (p1 : Int32) : Int32 := if (767 : Int32) < p1 then own_1_72 p1 else own_1_191 p1
def own_1_58 (p1 : Int32) : Int32 := if p1 < (248 : Int32) then own_1_72 p1 else own_1_65 p1
def own_1_51 (p1 : Int32) : Int32 := if (246 : Int32) < p1 then own_1_58 p1 else own_1_191 p1
def own_1_44 (p1 : Int32) : Int32 := if p1 < (216 : Int32) then own_1_58 p1 else own_1_51 p1
def own_1_37 (p1 : Int32) : Int32 := if (214 : Int32) < p1 then own_1_44 p1 else own_1_191 p1
def own_1_30 (p1 : Int32) : Int32 := if p1 < (192 : Int32) then own_1_44 p1 else own_1_37 p1
def own_1_24 (p1 : Int32) : Int32 := if p1 = (95 : Int32) then own_1_191 p1 else own_1_30 p1
def own_1_18 (p1 : Int32) : Int32 := if (90 : Int32) < p1 then own_1_24 p1 else own_1_191 p1
def own_1_12 (p1 : Int32) : Int32 := if p1 < (65 : Int32) then own_1_24 p1 else own_1_18 p1
def own_1_6 (p1 : Int32) : Int32 := if (122 : Int32) < p1 then own_1_12 p1 else own_1_191 p1
def own_1_0 (p1 : Int32) : Int32 := if p1 < (97 : Int32) then own_1_12 p1 else own_1_6 p1
def Q1 (Z : State) (p1 : Int32) (h0 : Heap) (n0 : Nat) (v : Option Value) (h : Heap) (L : List Loc) : Prop := v = some (.int (own_1_0 p1)) ∧ Fr n0 L ∧ h = h0
set_option maxRecDepth 65536 in
set_option maxHeartbeats 40000000 in
theorem rm1 (l : Launch) (Z : State) (a0 : Array Value) (hw : ∀ d ∈ tables_1, d.before a0 Z = true) (ws : List Jvm.Cond) (p1 : Int32) (h0 : Heap) (n0 : Nat) (Z0 : n0 ≤ h0.size) :
    MetFree l (⟨"com/example/keyref/keyref/model/XmlChars", "isNameStartChar", "(I)Z"⟩ : MethodName) (head1 (Jvm.Cond.code (⟨"com/example/keyref/keyref/model/XmlChars", "isNameStartChar", "(I)Z"⟩ : MethodName) prog_112_method_3_code 1 (some .boolean) :: ws) ({ frames := 0, cells := 0, slots := 0, locals := 0 } : Room)) (fun a U => a = #[(.int p1)] ∧ Z.Warmed39 U.vm ∧ U.heap = h0) (fun _ _ _ _ _ => True) (fun _ U o U' => ∃ v L, o = .returned v ∧ Q1 Z p1 h0 n0 v U'.heap L ∧ FrameEnd U o U' L ({ frames := 0, cells := 0, slots := 0, locals := 0 } : Room).cells ({ frames := 0, cells := 0, slots := 0, locals := 0 } : Room).slots) := by
  refine MetFree.of_bodySF (plainFor_of_name pn_1) hisR ?_
  intro p e s m args below meth c s₁ Bd hml0 hP hK
  obtain ⟨rfl, hZ, hh⟩ := hP
  have hx := Bd.exec
  have hby := Bd.bytes
  have hml : c.maxLocals = 1 := hml0
  have hown : s.vm.findClass "com/example/keyref/keyref/model/XmlChars" = some m.cls := findClass_of_methodNamed Bd.named
  have hnm := (name_of_methodNamed Bd.named Bd.method).1
  have X0 : Stand p l e ({ frames := 0, cells := 0, slots := 0, locals := 0 } : Room) s m #[(.int p1)] below meth c s₁ [] 0 0 := Stand.of_body Bd
  have e0 : s₁.heap = h0 := by rw [← hh, Bd.state]; rfl
  have N0 := Fr.nil n0
  have pre0 : ∀ t, Steps p.tables e below (s₁.setTop (mkF m 0 #[.val (.int p1)] [])) t → Steps p.tables e below (s₁.setTop (entryFrame m #[(.int p1)] 1)) t := fun t k => castTop (ef_1 m p1) k
  obtain ⟨fs, hr, hrun, hended, hW, hsame⟩ := X0.leave (v := some (.int (own_1_0 p1))) (fun h => by rw [Bd.returns] at h; cases h)
  have B195 : own_1_0 p1 = own_1_195 p1 → Steps p.tables e below (s₁.setTop (mkF m 195 #[.val (.int p1)] [])) (s₁.setFrames fs) := fun h => by
    show Steps p.tables e below (s₁.setTop (mkF m 195 #[.val (.int p1)] [])) _
    refine XS.iconst X0.here hx rfl (hb hby d1_195) ?_
    show Steps p.tables e below (s₁.setTop (mkF m 196 #[.val (.int p1)] [(.int (0 : Int32))])) _
    have hk : own_1_0 p1 = (0 : Int32) := h
    rw [hk] at hr
    exact retN X0 hx (t := .boolean) Bd.returns (by simp) (hb hby d1_196) hr
  have B191 : own_1_0 p1 = own_1_191 p1 → Steps p.tables e below (s₁.setTop (mkF m 191 #[.val (.int p1)] [])) (s₁.setFrames fs) := fun h => by
    show Steps p.tables e below (s₁.setTop (mkF m 191 #[.val (.int p1)] [])) _
    refine XS.iconst X0.here hx rfl (hb hby d1_191) ?_
    show Steps p.tables e below (s₁.setTop (mkF m 192 #[.val (.int p1)] [(.int (1 : Int32))])) _
    refine XS.goto X0.here hx rfl (pc0 := 192) (pc' := 196) rfl (hb hby d1_192) (by decide) (by decide) ?_
    show Steps p.tables e below (s₁.setTop (mkF m 196 #[.val (.int p1)] [(.int (1 : Int32))])) _
    have hk : own_1_0 p1 = (1 : Int32) := h
    rw [hk] at hr
    exact retN X0 hx (t := .boolean) Bd.returns (by simp) (hb hby d1_196) hr
  have B185 : own_1_0 p1 = own_1_185 p1 → Steps p.tables e below (s₁.setTop (mkF m 185 #[.val (.int p1)] [])) (s₁.setFrames fs) := fun h => by
    show Steps p.tables e below (s₁.setTop (mkF m 185 #[.val (.int p1)] [])) _
    refine XS.iloadN X0.here hx rfl (hb hby d1_185) rfl ?_
    show Steps p.tables e below (s₁.setTop (mkF m 186 #[.val (.int p1)] [(.int p1)])) _
    refine X0.ldcI hx hown (mvT hZ (hw _ (List.mem_of_getElem? (i := 24) rfl))) rfl (hb hby d1_186) ?_
    show Steps p.tables e below (s₁.setTop (mkF m 188 #[.val (.int p1)] [(.int (983039 : Int32)), (.int p1)])) _
    by_cases hP : (983039 : Int32) < p1
    · refine XS.icmpYes X0.here hx rfl (pc0 := 188) (pc' := 195) rfl (hb hby d1_188) rfl (tlt hP).2.2.1 (by decide) (by decide) ?_
      exact B195 (h.trans (if_pos hP))
    · refine XS.icmpNo X0.here hx rfl (hb hby d1_188) rfl (flt hP).2.2.1 ?_
      exact B191 (h.trans (if_neg hP))
  have B179 : own_1_0 p1 = own_1_179 p1 → Steps p.tables e below (s₁.setTop (mkF m 179 #[.val (.int p1)] [])) (s₁.setFrames fs) := fun h => by
    show Steps p.tables e below (s₁.setTop (mkF m 179 #[.val (.int p1)] [])) _
    refine XS.iloadN X0.here hx rfl (hb hby d1_179) rfl ?_
    show Steps p.tables e below (s₁.setTop (mkF m 180 #[.val (.int p1)] [(.int p1)])) _
    refine X0.ldcI hx hown (mvT hZ (hw _ (List.mem_of_getElem? (i := 16) rfl))) rfl (hb hby d1_180) ?_
    show Steps p.tables e below (s₁.setTop (mkF m 182 #[.val (.int p1)] [(.int (65536 : Int32)), (.int p1)])) _
    by_cases hP : p1 < (65536 : Int32)
    · refine XS.icmpYes X0.here hx rfl (pc0 := 182) (pc' := 195) rfl (hb hby d1_182) rfl (tlt hP).1 (by decide) (by decide) ?_
      exact B195 (h.trans (if_pos hP))
    · refine XS.icmpNo X0.here hx rfl (hb hby d1_182) rfl (flt hP).1 ?_
      exact B185 (h.trans (if_neg hP))
  have B173 : own_1_0 p1 = own_1_173 p1 → Steps p.tables e below (s₁.setTop (mkF m 173 #[.val (.int p1)] [])) (s₁.setFrames fs) := fun h => by
    show Steps p.tables e below (s₁.setTop (mkF m 173 #[.val (.int p1)] [])) _
    refine XS.iloadN X0.here hx rfl (hb hby d1_173) rfl ?_
    show Steps p.tables e below (s₁.setTop (mkF m 174 #[.val (.int p1)] [(.int p1)])) _
    refine X0.ldcI hx hown (mvT hZ (hw _ (List.mem_of_getElem? (i := 23) rfl))) rfl (hb hby d1_174) ?_
    show Steps p.tables e below (s₁.setTop (mkF m 176 #[.val (.int p1)] [(.int (65533 : Int32)), (.int p1)])) _
    by_cases hP : (65533 : Int32) < p1
    · refine XS.icmpNo X0.here hx rfl (hb hby d1_176) rfl (tlt hP).2.2.2 ?_
      exact B179 (h.trans (if_pos hP))
    · refine XS.icmpYes X0.here hx rfl (pc0 := 176) (pc' := 191) rfl (hb hby d1_176) rfl (flt hP).2.2.2 (by decide) (by decide) ?_
      exact B191 (h.trans (if_neg hP))
  have B167 : own_1_0 p1 = own_1_167 p1 → Steps p.tables e below (s₁.setTop (mkF m 167 #[.val (.int p1)] [])) (s₁.setFrames fs) := fun h => by
    show Steps p.tables e below (s₁.setTop (mkF m 167 #[.val (.int p1)] [])) _
    refine XS.iloadN X0.here hx rfl (hb hby d1_167) rfl ?_
    show Steps p.tables e below (s₁.setTop (mkF m 168 #[.val (.int p1)] [(.int p1)])) _
    refine X0.ldcI hx hown (mvT hZ (hw _ (List.mem_of_getElem? (i := 15) rfl))) rfl (hb hby d1_168) ?_
    show Steps p.tables e below (s₁.setTop (mkF m 170 #[.val (.int p1)] [(.int (65008 : Int32)), (.int p1)])) _
    by_cases hP : p1 < (65008 : Int32)
    · refine XS.icmpYes X0.here hx rfl (pc0 := 170) (pc' := 179) rfl (hb hby d1_170) rfl (tlt hP).1 (by decide) (by decide) ?_
      exact B179 (h.trans (if_pos hP))
    · refine XS.icmpNo X0.here hx rfl (hb hby d1_170) rfl (flt hP).1 ?_
      exact B173 (h.trans (if_neg hP))
  have B161 : own_1_0 p1 = own_1_161 p1 → Steps p.tables e below (s₁.setTop (mkF m 161 #[.val (.int p1)] [])) (s₁.setFrames fs) := fun h => by
    show Steps p.tables e below (s₁.setTop (mkF m 161 #[.val (.int p1)] [])) _
    refine XS.iloadN X0.here hx rfl (hb hby d1_161) rfl ?_
    show Steps p.tables e below (s₁.setTop (mkF m 162 #[.val (.int p1)] [(.int p1)])) _
    refine X0.ldcI hx hown (mvT hZ (hw _ (List.mem_of_getElem? (i := 22) rfl))) rfl (hb hby d1_162) ?_
    show Steps p.tables e below (s₁.setTop (mkF m 164 #[.val (.int p1)] [(.int (64975 : Int32)), (.int p1)])) _
    by_cases hP : (64975 : Int32) < p1
    · refine XS.icmpNo X0.here hx rfl (hb hby d1_164) rfl (tlt hP).2.2.2 ?_
      exact B167 (h.trans (if_pos hP))
    · refine XS.icmpYes X0.here hx rfl (pc0 := 164) (pc' := 191) rfl (hb hby d1_164) rfl (flt hP).2.2.2 (by decide) (by decide) ?_
      exact B191 (h.trans (if_neg hP))
  have B155 : own_1_0 p1 = own_1_155 p1 → Steps p.tables e below (s₁.setTop (mkF m 155 #[.val (.int p1)] [])) (s₁.setFrames fs) := fun h => by
    show Steps p.tables e below (s₁.setTop (mkF m 155 #[.val (.int p1)] [])) _
    refine XS.iloadN X0.here hx rfl (hb hby d1_155) rfl ?_
    show Steps p.tables e below (s₁.setTop (mkF m 156 #[.val (.int p1)] [(.int p1)])) _
    refine X0.ldcI hx hown (mvT hZ (hw _ (List.mem_of_getElem? (i := 14) rfl))) rfl (hb hby d1_156) ?_
    show Steps p.tables e below (s₁.setTop (mkF m 158 #[.val (.int p1)] [(.int (63744 : Int32)), (.int p1)])) _
    by_cases hP : p1 < (63744 : Int32)
    · refine XS.icmpYes X0.here hx rfl (pc0 := 158) (pc' := 167) rfl (hb hby d1_158) rfl (tlt hP).1 (by decide) (by decide) ?_
      exact B167 (h.trans (if_pos hP))
    · refine XS.icmpNo X0.here hx rfl (hb hby d1_158) rfl (flt hP).1 ?_
      exact B161 (h.trans (if_neg hP))
  have B149 : own_1_0 p1 = own_1_149 p1 → Steps p.tables e below (s₁.setTop (mkF m 149 #[.val (.int p1)] [])) (s₁.setFrames fs) := fun h => by
    show Steps p.tables e below (s₁.setTop (mkF m 149 #[.val (.int p1)] [])) _
    refine XS.iloadN X0.here hx rfl (hb hby d1_149) rfl ?_
    show Steps p.tables e below (s₁.setTop (mkF m 150 #[.val (.int p1)] [(.int p1)])) _
    refine X0.ldcI hx hown (mvT hZ (hw _ (List.mem_of_getElem? (i := 21) rfl))) rfl (hb hby d1_150) ?_
    show Steps p.tables e below (s₁.setTop (mkF m 152 #[.val (.int p1)] [(.int (55295 : Int32)), (.int p1)])) _
    by_cases hP : (55295 : Int32) < p1
    · refine XS.icmpNo X0.here hx rfl (hb hby d1_152) rfl (tlt hP).2.2.2 ?_
      exact B155 (h.trans (if_pos hP))
    · refine XS.icmpYes X0.here hx rfl (pc0 := 152) (pc' := 191) rfl (hb hby d1_152) rfl (flt hP).2.2.2 (by decide) (by decide) ?_
      exact B191 (h.trans (if_neg hP))
  have B142 : own_1_0 p1 = own_1_142 p1 → Steps p.tables e below (s₁.setTop (mkF m 142 #[.val (.int p1)] [])) (s₁.setFrames fs) := fun h => by
    show Steps p.tables e below (s₁.setTop (mkF m 142 #[.val (.int p1)] [])) _
    refine XS.iloadN X0.here hx rfl (hb hby d1_142) rfl ?_
    show Steps p.tables e below (s₁.setTop (mkF m 143 #[.val (.int p1)] [(.int p1)])) _
    refine XS.sipush X0.here hx rfl (hb hby d1_143) ?_
    show Steps p.tables e below (s₁.setTop (mkF m 146 #[.val (.int p1)] [(.int (12289 : Int32)), (.int p1)])) _
    by_cases hP : p1 < (12289 : Int32)
    · refine XS.icmpYes X0.here hx rfl (pc0 := 146) (pc' := 155) rfl (hb hby d1_146) rfl (tlt hP).1 (by decide) (by decide) ?_
      exact B155 (h.trans (if_pos hP))
    · refine XS.icmpNo X0.here hx rfl (hb hby d1_146) rfl (flt hP).1 ?_
      exact B149 (h.trans (if_neg hP))
  have B135 : own_1_0 p1 = own_1_135 p1 → Steps p.tables e below (s₁.setTop (mkF m 135 #[.val (.int p1)] [])) (s₁.setFrames fs) := fun h => by
    show Steps p.tables e below (s₁.setTop (mkF m 135 #[.val (.int p1)] [])) _
    refine XS.iloadN X0.here hx rfl (hb hby d1_135) rfl ?_
    show Steps p.tables e below (s₁.setTop (mkF m 136 #[.val (.int p1)] [(.int p1)])) _
    refine XS.sipush X0.here hx rfl (hb hby d1_136) ?_
    show Steps p.tables e below (s₁.setTop (mkF m 139 #[.val (.int p1)] [(.int (12271 : Int32)), (.int p1)])) _
    by_cases hP : (12271 : Int32) < p1
    · refine XS.icmpNo X0.here hx rfl (hb hby d1_139) rfl (tlt hP).2.2.2 ?_
      exact B142 (h.trans (if_pos hP))
    · refine XS.icmpYes X0.here hx rfl (pc0 := 139) (pc' := 191) rfl (hb hby d1_139) rfl (flt hP).2.2.2 (by decide) (by decide) ?_
      exact B191 (h.trans (if_neg hP))
  have B128 : own_1_0 p1 = own_1_128 p1 → Steps p.tables e below (s₁.setTop (mkF m 128 #[.val (.int p1)] [])) (s₁.setFrames fs) := fun h => by
    show Steps p.tables e below (s₁.setTop (mkF m 128 #[.val (.int p1)] [])) _
    refine XS.iloadN X0.here hx rfl (hb hby d1_128) rfl ?_
    show Steps p.tables e below (s₁.setTop (mkF m 129 #[.val (.int p1)] [(.int p1)])) _
    refine XS.sipush X0.here hx rfl (hb hby d1_129) ?_
    show Steps p.tables e below (s₁.setTop (mkF m 132 #[.val (.int p1)] [(.int (11264 : Int32)), (.int p1)])) _
    by_cases hP : p1 < (11264 : Int32)
    · refine XS.icmpYes X0.here hx rfl (pc0 := 132) (pc' := 142) rfl (hb hby d1_132) rfl (tlt hP).1 (by decide) (by decide) ?_
      exact B142 (h.trans (if_pos hP))
    · refine XS.icmpNo X0.here hx rfl (hb hby d1_132) rfl (flt hP).1 ?_
      exact B135 (h.trans (if_neg hP))
  have B121 : own_1_0 p1 = own_1_121 p1 → Steps p.tables e below (s₁.setTop (mkF m 121 #[.val (.int p1)] [])) (s₁.setFrames fs) := fun h => by
    show Steps p.tables e below (s₁.setTop (mkF m 121 #[.val (.int p1)] [])) _
    refine XS.iloadN X0.here hx rfl (hb hby d1_121) rfl ?_
    show Steps p.tables e below (s₁.setTop (mkF m 122 #[.val (.int p1)] [(.int p1)])) _
    refine XS.sipush X0.here hx rfl (hb hby d1_122) ?_
    show Steps p.tables e below (s₁.setTop (mkF m 125 #[.val (.int p1)] [(.int (8591 : Int32)), (.int p1)])) _
    by_cases hP : (8591 : Int32) < p1
    · refine XS.icmpNo X0.here hx rfl (hb hby d1_125) rfl (tlt hP).2.2.2 ?_
      exact B128 (h.trans (if_pos hP))
    · refine XS.icmpYes X0.here hx rfl (pc0 := 125) (pc' := 191) rfl (hb hby d1_125) rfl (flt hP).2.2.2 (by decide) (by decide) ?_
      exact B191 (h.trans (if_neg hP))
  have B114 : own_1_0 p1 = own_1_114 p1 → Steps p.tables e below (s₁.setTop (mkF m 114 #[.val (.int p1)] [])) (s₁.setFrames fs) := fun h => by
    show Steps p.tables e below (s₁.setTop (mkF m 114 #[.val (.int p1)] [])) _
    refine XS.iloadN X0.here hx rfl (hb hby d1_114) rfl ?_
    show Steps p.tables e below (s₁.setTop (mkF m 115 #[.val (.int p1)] [(.int p1)])) _
    refine XS.sipush X0.here hx rfl (hb hby d1_115) ?_
    show Steps p.tables e below (s₁.setTop (mkF m 118 #[.val (.int p1)] [(.int (8304 : Int32)), (.int p1)])) _
    by_cases hP : p1 < (8304 : Int32)
    · refine XS.icmpYes X0.here hx rfl (pc0 := 118) (pc' := 128) rfl (hb hby d1_118) rfl (tlt hP).1 (by decide) (by decide) ?_
      exact B128 (h.trans (if_pos hP))
    · refine XS.icmpNo X0.here hx rfl (hb hby d1_118) rfl (flt hP).1 ?_
      exact B121 (h.trans (if_neg hP))
  have B107 : own_1_0 p1 = own_1_107 p1 → Steps p.tables e below (s₁.setTop (mkF m 107 #[.val (.int p1)] [])) (s₁.setFrames fs) := fun h => by
    show Steps p.tables e below (s₁.setTop (mkF m 107 #[.val (.int p1)] [])) _
    refine XS.iloadN X0.here hx rfl (hb hby d1_107) rfl ?_
    show Steps p.tables e below (s₁.setTop (mkF m 108 #[.val (.int p1)] [(.int p1)])) _
    refine XS.sipush X0.here hx rfl (hb hby d1_108) ?_
    show Steps p.tables e below (s₁.setTop (mkF m 111 #[.val (.int p1)] [(.int (8205 : Int32)), (.int p1)])) _
    by_cases hP : (8205 : Int32) < p1
    · refine XS.icmpNo X0.here hx rfl (hb hby d1_111) rfl (tlt hP).2.2.2 ?_
      exact B114 (h.trans (if_pos hP))
    · refine XS.icmpYes X0.here hx rfl (pc0 := 111) (pc' := 191) rfl (hb hby d1_111) rfl (flt hP).2.2.2 (by decide) (by decide) ?_
      exact B191 (h.trans (if_neg hP))
  have B100 : own_1_0 p1 = own_1_100 p1 → Steps p.tables e below (s₁.setTop (mkF m 100 #[.val (.int p1)] [])) (s₁.setFrames fs) := fun h => by
    show Steps p.tables e below (s₁.setTop (mkF m 100 #[.val (.int p1)] [])) _
    refine XS.iloadN X0.here hx rfl (hb hby d1_100) rfl ?_
    show Steps p.tables e below (s₁.setTop (mkF m 101 #[.val (.int p1)] [(.int p1)])) _
    refine XS.sipush X0.here hx rfl (hb hby d1_101) ?_
    show Steps p.tables e below (s₁.setTop (mkF m 104 #[.val (.int p1)] [(.int (8204 : Int32)), (.int p1)])) _
    by_cases hP : p1 < (8204 : Int32)
    · refine XS.icmpYes X0.here hx rfl (pc0 := 104) (pc' := 114) rfl (hb hby d1_104) rfl (tlt hP).1 (by decide) (by decide) ?_
      exact B114 (h.trans (if_pos hP))
    · refine XS.icmpNo X0.here hx rfl (hb hby d1_104) rfl (flt hP).1 ?_
      exact B107 (h.trans (if_neg hP))
  have B93 : own_1_0 p1 = own_1_93 p1 → Steps p.tables e below (s₁.setTop (mkF m 93 #[.val (.int p1)] [])) (s₁.setFrames fs) := fun h => by
    show Steps p.tables e below (s₁.setTop (mkF m 93 #[.val (.int p1)] [])) _
    refine XS.iloadN X0.here hx rfl (hb hby d1_93) rfl ?_
    show Steps p.tables e below (s₁.setTop (mkF m 94 #[.val (.int p1)] [(.int p1)])) _
    refine XS.sipush X0.here hx rfl (hb hby d1_94) ?_
    show Steps p.tables e below (s₁.setTop (mkF m 97 #[.val (.int p1)] [(.int (8191 : Int32)), (.int p1)])) _
    by_cases hP : (8191 : Int32) < p1
    · refine XS.icmpNo X0.here hx rfl (hb hby d1_97) rfl (tlt hP).2.2.2 ?_
      exact B100 (h.trans (if_pos hP))
    · refine XS.icmpYes X0.here hx rfl (pc0 := 97) (pc' := 191) rfl (hb hby d1_97) rfl (flt hP).2.2.2 (by decide) (by decide) ?_
      exact B191 (h.trans (if_neg hP))
  have B86 : own_1_0 p1 = own_1_86 p1 → Steps p.tables e below (s₁.setTop (mkF m 86 #[.val (.int p1)] [])) (s₁.setFrames fs) := fun h => by
    show Steps p.tables e below (s₁.setTop (mkF m 86 #[.val (.int p1)] [])) _
    refine XS.iloadN X0.here hx rfl (hb hby d1_86) rfl ?_
    show Steps p.tables e below (s₁.setTop (mkF m 87 #[.val (.int p1)] [(.int p1)])) _
    refine XS.sipush X0.here hx rfl (hb hby d1_87) ?_
    show Steps p.tables e below (s₁.setTop (mkF m 90 #[.val (.int p1)] [(.int (895 : Int32)), (.int p1)])) _
    by_cases hP : p1 < (895 : Int32)
    · refine XS.icmpYes X0.here hx rfl (pc0 := 90) (pc' := 100) rfl (hb hby d1_90) rfl (tlt hP).1 (by decide) (by decide) ?_
      exact B100 (h.trans (if_pos hP))
    · refine XS.icmpNo X0.here hx rfl (hb hby d1_90) rfl (flt hP).1 ?_
      exact B93 (h.trans (if_neg hP))
  have B79 : own_1_0 p1 = own_1_79 p1 → Steps p.tables e below (s₁.setTop (mkF m 79 #[.val (.int p1)] [])) (s₁.setFrames fs) := fun h => by
    show Steps p.tables e below (s₁.setTop (mkF m 79 #[.val (.int p1)] [])) _
    refine XS.iloadN X0.here hx rfl (hb hby d1_79) rfl ?_
    show Steps p.tables e below (s₁.setTop (mkF m 80 #[.val (.int p1)] [(.int p1)])) _
    refine XS.sipush X0.here hx rfl (hb hby d1_80) ?_
    show Steps p.tables e below (s₁.setTop (mkF m 83 #[.val (.int p1)] [(.int (893 : Int32)), (.int p1)])) _
    by_cases hP : (893 : Int32) < p1
    · refine XS.icmpNo X0.here hx rfl (hb hby d1_83) rfl (tlt hP).2.2.2 ?_
      exact B86 (h.trans (if_pos hP))
    · refine XS.icmpYes X0.here hx rfl (pc0 := 83) (pc' := 191) rfl (hb hby d1_83) rfl (flt hP).2.2.2 (by decide) (by decide) ?_
      exact B191 (h.trans (if_neg hP))
  have B72 : own_1_0 p1 = own_1_72 p1 → Steps p.tables e below (s₁.setTop (mkF m 72 #[.val (.int p1)] [])) (s₁.setFrames fs) := fun h => by
    show Steps p.tables e below (s₁.setTop (mkF m 72 #[.val (.int p1)] [])) _
    refine XS.iloadN X0.here hx rfl (hb hby d1_72) rfl ?_
    show Steps p.tables e below (s₁.setTop (mkF m 73 #[.val (.int p1)] [(.int p1)])) _
    refine XS.sipush X0.here hx rfl (hb hby d1_73) ?_
    show Steps p.tables e below (s₁.setTop (mkF m 76 #[.val (.int p1)] [(.int (880 : Int32)), (.int p1)])) _
    by_cases hP : p1 < (880 : Int32)
    · refine XS.icmpYes X0.here hx rfl (pc0 := 76) (pc' := 86) rfl (hb hby d1_76) rfl (tlt hP).1 (by decide) (by decide) ?_
      exact B86 (h.trans (if_pos hP))
    · refine XS.icmpNo X0.here hx rfl (hb hby d1_76) rfl (flt hP).1 ?_
      exact B79 (h.trans (if_neg hP))
  have B65 : own_1_0 p1 = own_1_65 p1 → Steps p.tables e below (s₁.setTop (mkF m 65 #[.val (.int p1)] [])) (s₁.setFrames fs) := fun h => by
    show Steps p.tables e below (s₁.setTop (mkF m 65 #[.val (.int p1)] [])) _
    refine XS.iloadN X0.here hx rfl (hb hby d1_65) rfl ?_
    show Steps p.tables e below (s₁.setTop (mkF m 66 #[.val (.int p1)] [(.int p1)])) _
    refine XS.sipush X0.here hx rfl (hb hby d1_66) ?_
    show Steps p.tables e below (s₁.setTop (mkF m 69 #[.val (.int p1)] [(.int (767 : Int32)), (.int p1)])) _
    by_cases hP : (767 : Int32) < p1
    · refine XS.icmpNo X0.here hx rfl (hb hby d1_69) rfl (tlt hP).2.2.2 ?_
      exact B72 (h.trans (if_pos hP))
    · refine XS.icmpYes X0.here hx rfl (pc0 := 69) (pc' := 191) rfl (hb hby d1_69) rfl (flt hP).2.2.2 (by decide) (by decide) ?_
      exact B191 (h.trans (if_neg hP))
  have B58 : own_1_0 p1 = own_1_58 p1 → Steps p.tables e below (s₁.setTop (mkF m 58 #[.val (.int p1)] [])) (s₁.setFrames fs) := fun h => by
    show Steps p.tables e below (s₁.setTop (mkF m 58 #[.val (.int p1)] [])) _
    refine XS.iloadN X0.here hx rfl (hb hby d1_58) rfl ?_
    show Steps p.tables e below (s₁.setTop (mkF m 59 #[.val (.int p1)] [(.int p1)])) _
    refine XS.sipush X0.here hx rfl (hb hby d1_59) ?_
    show Steps p.tables e below (s₁.setTop (mkF m 62 #[.val (.int p1)] [(.int (248 : Int32)), (.int p1)])) _
    by_cases hP : p1 < (248 : Int32)
    · refine XS.icmpYes X0.here hx rfl (pc0 := 62) (pc' := 72) rfl (hb hby d1_62) rfl (tlt hP).1 (by decide) (by decide) ?_
      exact B72 (h.trans (if_pos hP))
    · refine XS.icmpNo X0.here hx rfl (hb hby d1_62) rfl (flt hP).1 ?_
      exact B65 (h.trans (if_neg hP))
  have B51 : own_1_0 p1 = own_1_51 p1 → Steps p.tables e below (s₁.setTop (mkF m 51 #[.val (.int p1)] [])) (s₁.setFrames fs) := fun h => by
    show Steps p.tables e below (s₁.setTop (mkF m 51 #[.val (.int p1)] [])) _
    refine XS.iloadN X0.here hx rfl (hb hby d1_51) rfl ?_
    show Steps p.tables e below (s₁.setTop (mkF m 52 #[.val (.int p1)] [(.int p1)])) _
    refine XS.sipush X0.here hx rfl (hb hby d1_52) ?_
    show Steps p.tables e below (s₁.setTop (mkF m 55 #[.val (.int p1)] [(.int (246 : Int32)), (.int p1)])) _
    by_cases hP : (246 : Int32) < p1
    · refine XS.icmpNo X0.here hx rfl (hb hby d1_55) rfl (tlt hP).2.2.2 ?_
      exact B58 (h.trans (if_pos hP))
    · refine XS.icmpYes X0.here hx rfl (pc0 := 55) (pc' := 191) rfl (hb hby d1_55) rfl (flt hP).2.2.2 (by decide) (by decide) ?_
      exact B191 (h.trans (if_neg hP))
  have B44 : own_1_0 p1 = own_1_44 p1 → Steps p.tables e below (s₁.setTop (mkF m 44 #[.val (.int p1)] [])) (s₁.setFrames fs) := fun h => by
    show Steps p.tables e below (s₁.setTop (mkF m 44 #[.val (.int p1)] [])) _
    refine XS.iloadN X0.here hx rfl (hb hby d1_44) rfl ?_
    show Steps p.tables e below (s₁.setTop (mkF m 45 #[.val (.int p1)] [(.int p1)])) _
    refine XS.sipush X0.here hx rfl (hb hby d1_45) ?_
    show Steps p.tables e below (s₁.setTop (mkF m 48 #[.val (.int p1)] [(.int (216 : Int32)), (.int p1)])) _
    by_cases hP : p1 < (216 : Int32)
    · refine XS.icmpYes X0.here hx rfl (pc0 := 48) (pc' := 58) rfl (hb hby d1_48) rfl (tlt hP).1 (by decide) (by decide) ?_
      exact B58 (h.trans (if_pos hP))
    · refine XS.icmpNo X0.here hx rfl (hb hby d1_48) rfl (flt hP).1 ?_
      exact B51 (h.trans (if_neg hP))
  have B37 : own_1_0 p1 = own_1_37 p1 → Steps p.tables e below (s₁.setTop (mkF m 37 #[.val (.int p1)] [])) (s₁.setFrames fs) := fun h => by
    show Steps p.tables e below (s₁.setTop (mkF m 37 #[.val (.int p1)] [])) _
    refine XS.iloadN X0.here hx rfl (hb hby d1_37) rfl ?_
    show Steps p.tables e below (s₁.setTop (mkF m 38 #[.val (.int p1)] [(.int p1)])) _
    refine XS.sipush X0.here hx rfl (hb hby d1_38) ?_
    show Steps p.tables e below (s₁.setTop (mkF m 41 #[.val (.int p1)] [(.int (214 : Int32)), (.int p1)])) _
    by_cases hP : (214 : Int32) < p1
    · refine XS.icmpNo X0.here hx rfl (hb hby d1_41) rfl (tlt hP).2.2.2 ?_
      exact B44 (h.trans (if_pos hP))
    · refine XS.icmpYes X0.here hx rfl (pc0 := 41) (pc' := 191) rfl (hb hby d1_41) rfl (flt hP).2.2.2 (by decide) (by decide) ?_
      exact B191 (h.trans (if_neg hP))
  have B30 : own_1_0 p1 = own_1_30 p1 → Steps p.tables e below (s₁.setTop (mkF m 30 #[.val (.int p1)] [])) (s₁.setFrames fs) := fun h => by
    show Steps p.tables e below (s₁.setTop (mkF m 30 #[.val (.int p1)] [])) _
    refine XS.iloadN X0.here hx rfl (hb hby d1_30) rfl ?_
    show Steps p.tables e below (s₁.setTop (mkF m 31 #[.val (.int p1)] [(.int p1)])) _
    refine XS.sipush X0.here hx rfl (hb hby d1_31) ?_
    show Steps p.tables e below (s₁.setTop (mkF m 34 #[.val (.int p1)] [(.int (192 : Int32)), (.int p1)])) _
    by_cases hP : p1 < (192 : Int32)
    · refine XS.icmpYes X0.here hx rfl (pc0 := 34) (pc' := 44) rfl (hb hby d1_34) rfl (tlt hP).1 (by decide) (by decide) ?_
      exact B44 (h.trans (if_pos hP))
    · refine XS.icmpNo X0.here hx rfl (hb hby d1_34) rfl (flt hP).1 ?_
      exact B37 (h.trans (if_neg hP))
  have B24 : own_1_0 p1 = own_1_24 p1 → Steps p.tables e below (s₁.setTop (mkF m 24 #[.val (.int p1)] [])) (s₁.setFrames fs) := fun h => by
    show Steps p.tables e below (s₁.setTop (mkF m 24 #[.val (.int p1)] [])) _
    refine XS.iloadN X0.here hx rfl (hb hby d1_24) rfl ?_
    show Steps p.tables e below (s₁.setTop (mkF m 25 #[.val (.int p1)] [(.int p1)])) _
    refine XS.bipush X0.here hx rfl (hb hby d1_25) ?_
    show Steps p.tables e below (s₁.setTop (mkF m 27 #[.val (.int p1)] [(.int (95 : Int32)), (.int p1)])) _
    by_cases hP : p1 = (95 : Int32)
    · refine XS.icmpYes X0.here hx rfl (pc0 := 27) (pc' := 191) rfl (hb hby d1_27) rfl (teq hP).1 (by decide) (by decide) ?_
      exact B191 (h.trans (if_pos hP))
    · refine XS.icmpNo X0.here hx rfl (hb hby d1_27) rfl (feq hP).1 ?_
      exact B30 (h.trans (if_neg hP))
  have B18 : own_1_0 p1 = own_1_18 p1 → Steps p.tables e below (s₁.setTop (mkF m 18 #[.val (.int p1)] [])) (s₁.setFrames fs) := fun h => by
    show Steps p.tables e below (s₁.setTop (mkF m 18 #[.val (.int p1)] [])) _
    refine XS.iloadN X0.here hx rfl (hb hby d1_18) rfl ?_
    show Steps p.tables e below (s₁.setTop (mkF m 19 #[.val (.int p1)] [(.int p1)])) _
    refine XS.bipush X0.here hx rfl (hb hby d1_19) ?_
    show Steps p.tables e below (s₁.setTop (mkF m 21 #[.val (.int p1)] [(.int (90 : Int32)), (.int p1)])) _
    by_cases hP : (90 : Int32) < p1
    · refine XS.icmpNo X0.here hx rfl (hb hby d1_21) rfl (tlt hP).2.2.2 ?_
      exact B24 (h.trans (if_pos hP))
    · refine XS.icmpYes X0.here hx rfl (pc0 := 21) (pc' := 191) rfl (hb hby d1_21) rfl (flt hP).2.2.2 (by decide) (by decide) ?_
      exact B191 (h.trans (if_neg hP))
  have B12 : own_1_0 p1 = own_1_12 p1 → Steps p.tables e below (s₁.setTop (mkF m 12 #[.val (.int p1)] [])) (s₁.setFrames fs) := fun h => by
    show Steps p.tables e below (s₁.setTop (mkF m 12 #[.val (.int p1)] [])) _
    refine XS.iloadN X0.here hx rfl (hb hby d1_12) rfl ?_
    show Steps p.tables e below (s₁.setTop (mkF m 13 #[.val (.int p1)] [(.int p1)])) _
    refine XS.bipush X0.here hx rfl (hb hby d1_13) ?_
    show Steps p.tables e below (s₁.setTop (mkF m 15 #[.val (.int p1)] [(.int (65 : Int32)), (.int p1)])) _
    by_cases hP : p1 < (65 : Int32)
    · refine XS.icmpYes X0.here hx rfl (pc0 := 15) (pc' := 24) rfl (hb hby d1_15) rfl (tlt hP).1 (by decide) (by decide) ?_
      exact B24 (h.trans (if_pos hP))
    · refine XS.icmpNo X0.here hx rfl (hb hby d1_15) rfl (flt hP).1 ?_
      exact B18 (h.trans (if_neg hP))
  have B6 : own_1_0 p1 = own_1_6 p1 → Steps p.tables e below (s₁.setTop (mkF m 6 #[.val (.int p1)] [])) (s₁.setFrames fs) := fun h => by
    show Steps p.tables e below (s₁.setTop (mkF m 6 #[.val (.int p1)] [])) _
    refine XS.iloadN X0.here hx rfl (hb hby d1_6) rfl ?_
    show Steps p.tables e below (s₁.setTop (mkF m 7 #[.val (.int p1)] [(.int p1)])) _
    refine XS.bipush X0.here hx rfl (hb hby d1_7) ?_
    show Steps p.tables e below (s₁.setTop (mkF m 9 #[.val (.int p1)] [(.int (122 : Int32)), (.int p1)])) _
    by_cases hP : (122 : Int32) < p1
    · refine XS.icmpNo X0.here hx rfl (hb hby d1_9) rfl (tlt hP).2.2.2 ?_
      exact B12 (h.trans (if_pos hP))
    · refine XS.icmpYes X0.here hx rfl (pc0 := 9) (pc' := 191) rfl (hb hby d1_9) rfl (flt hP).2.2.2 (by decide) (by decide) ?_
      exact B191 (h.trans (if_neg hP))
  have B0 : own_1_0 p1 = own_1_0 p1 → Steps p.tables e below (s₁.setTop (mkF m 0 #[.val (.int p1)] [])) (s₁.setFrames fs) := fun h => by
    show Steps p.tables e below (s₁.setTop (mkF m 0 #[.val (.int p1)] [])) _
    refine XS.iloadN X0.here hx rfl (hb hby d1_0) rfl ?_
    show Steps p.tables e below (s₁.setTop (mkF m 1 #[.val (.int p1)] [(.int p1)])) _
    refine XS.bipush X0.here hx rfl (hb hby d1_1) ?_
    show Steps p.tables e below (s₁.setTop (mkF m 3 #[.val (.int p1)] [(.int (97 : Int32)), (.int p1)])) _
    by_cases hP : p1 < (97 : Int32)
    · refine XS.icmpYes X0.here hx rfl (pc0 := 3) (pc' := 12) rfl (hb hby d1_3) rfl (tlt hP).1 (by decide) (by decide) ?_
      exact B12 (h.trans (if_pos hP))
    · refine XS.icmpNo X0.here hx rfl (hb hby d1_3) rfl (flt hP).1 ?_
      exact B6 (h.trans (if_neg hP))
  refine ⟨_, _, pre0 _ (B0 rfl), hrun, hended, _, _, rfl, ?_, ⟨_, rfl⟩, hW, hsame.mono (by decide) (by decide)⟩
  show Q1 Z p1 h0 n0 _ s₁.heap _
  rw [e0]
  exact ⟨rfl, N0, rfl⟩
theorem d2_0 : decode method_2_code 0 = .ok (.iload_n 0, 1) := by decide +kernel
theorem d2_1 : decode method_2_code 1 = .ok (.bipush 65, 2) := by decide +kernel
theorem d2_3 : decode method_2_code 3 = .ok (.if_icmp .ge 5, 3) := by decide +kernel
theorem d2_6 : decode method_2_code 6 = .ok (.iconst 0, 1) := by decide +kernel
theorem d2_7 : decode method_2_code 7 = .ok (.ireturn, 1) := by decide +kernel
theorem d2_8 : decode method_2_code 8 = .ok (.iload_n 0, 1) := by decide +kernel
theorem d2_9 : decode method_2_code 9 = .ok (.bipush 91, 2) := by decide +kernel
theorem d2_11 : decode method_2_code 11 = .ok (.if_icmp .ge 5, 3) := by decide +kernel
theorem d2_14 : decode method_2_code 14 = .ok (.iconst 1, 1) := by decide +kernel
theorem d2_15 : decode method_2_code 15 = .ok (.ireturn, 1) := by decide +kernel
theorem d2_16 : decode method_2_code 16 = .ok (.iload_n 0, 1) := by decide +kernel
theorem d2_17 : decode method_2_code 17 = .ok (.bipush 95, 2) := by decide +kernel
theorem d2_19 : decode method_2_code 19 = .ok (.if_icmp .ge 5, 3) := by decide +kernel
theorem d2_22 : decode method_2_code 22 = .ok (.iconst 0, 1) := by decide +kernel
theorem d2_23 : decode method_2_code 23 = .ok (.ireturn, 1) := by decide +kernel
theorem d2_24 : decode method_2_code 24 = .ok (.iload_n 0, 1) := by decide +kernel
theorem d2_25 : decode method_2_code 25 = .ok (.bipush 96, 2) := by decide +kernel
theorem d2_27 : decode method_2_code 27 = .ok (.if_icmp .ge 5, 3) := by decide +kernel
theorem d2_30 : decode method_2_code 30 = .ok (.iconst 1, 1) := by decide +kernel
theorem d2_31 : decode method_2_code 31 = .ok (.ireturn, 1) := by decide +kernel
theorem d2_32 : decode method_2_code 32 = .ok (.iload_n 0, 1) := by decide +kernel
theorem d2_33 : decode method_2_code 33 = .ok (.bipush 97, 2) := by decide +kernel
theorem d2_35 : decode method_2_code 35 = .ok (.if_icmp .ge 5, 3) := by decide +kernel
theorem d2_38 : decode method_2_code 38 = .ok (.iconst 0, 1) := by decide +kernel
theorem d2_39 : decode method_2_code 39 = .ok (.ireturn, 1) := by decide +kernel
theorem d2_40 : decode method_2_code 40 = .ok (.iload_n 0, 1) := by decide +kernel
theorem d2_41 : decode method_2_code 41 = .ok (.bipush 123, 2) := by decide +kernel
theorem d2_43 : decode method_2_code 43 = .ok (.if_icmp .ge 5, 3) := by decide +kernel
theorem d2_46 : decode method_2_code 46 = .ok (.iconst 1, 1) := by decide +kernel
theorem d2_47 : decode method_2_code 47 = .ok (.ireturn, 1) := by decide +kernel
theorem d2_48 : decode method_2_code 48 = .ok (.iload_n 0, 1) := by decide +kernel
theorem d2_49 : decode method_2_code 49 = .ok (.sipush 192, 3) := by decide +kernel
theorem d2_52 : decode method_2_code 52 = .ok (.if_icmp .ge 5, 3) := by decide +kernel
theorem d2_55 : decode method_2_code 55 = .ok (.iconst 0, 1) := by decide +kernel
theorem d2_56 : decode method_2_code 56 = .ok (.ireturn, 1) := by decide +kernel
theorem d2_57 : decode method_2_code 57 = .ok (.iload_n 0, 1) := by decide +kernel
theorem d2_58 : decode method_2_code 58 = .ok (.sipush 215, 3) := by decide +kernel
theorem d2_61 : decode method_2_code 61 = .ok (.if_icmp .ge 5, 3) := by decide +kernel
theorem d2_64 : decode method_2_code 64 = .ok (.iconst 1, 1) := by decide +kernel
theorem d2_65 : decode method_2_code 65 = .ok (.ireturn, 1) := by decide +kernel
theorem d2_66 : decode method_2_code 66 = .ok (.iload_n 0, 1) := by decide +kernel
theorem d2_67 : decode method_2_code 67 = .ok (.sipush 216, 3) := by decide +kernel
theorem d2_70 : decode method_2_code 70 = .ok (.if_icmp .ge 5, 3) := by decide +kernel
theorem d2_73 : decode method_2_code 73 = .ok (.iconst 0, 1) := by decide +kernel
theorem d2_74 : decode method_2_code 74 = .ok (.ireturn, 1) := by decide +kernel
theorem d2_75 : decode method_2_code 75 = .ok (.iload_n 0, 1) := by decide +kernel
theorem d2_76 : decode method_2_code 76 = .ok (.sipush 247, 3) := by decide +kernel
theorem d2_79 : decode method_2_code 79 = .ok (.if_icmp .ge 5, 3) := by decide +kernel
theorem d2_82 : decode method_2_code 82 = .ok (.iconst 1, 1) := by decide +kernel
theorem d2_83 : decode method_2_code 83 = .ok (.ireturn, 1) := by decide +kernel
theorem d2_84 : decode method_2_code 84 = .ok (.iload_n 0, 1) := by decide +kernel
theorem d2_85 : decode method_2_code 85 = .ok (.sipush 248, 3) := by decide +kernel
theorem d2_88 : decode method_2_code 88 = .ok (.if_icmp .ge 5, 3) := by decide +kernel
theorem d2_91 : decode method_2_code 91 = .ok (.iconst 0, 1) := by decide +kernel
theorem d2_92 : decode method_2_code 92 = .ok (.ireturn, 1) := by decide +kernel
theorem d2_93 : decode method_2_code 93 = .ok (.iload_n 0, 1) := by decide +kernel
theorem d2_94 : decode method_2_code 94 = .ok (.sipush 768, 3) := by decide +kernel
theorem d2_97 : decode method_2_code 97 = .ok (.if_icmp .ge 5, 3) := by decide +kernel
theorem d2_100 : decode method_2_code 100 = .ok (.iconst 1, 1) := by decide +kernel
theorem d2_101 : decode method_2_code 101 = .ok (.ireturn, 1) := by decide +kernel
theorem d2_102 : decode method_2_code 102 = .ok (.iload_n 0, 1) := by decide +kernel
theorem d2_103 : decode method_2_code 103 = .ok (.sipush 880, 3) := by decide +kernel
theorem d2_106 : decode method_2_code 106 = .ok (.if_icmp .ge 5, 3) := by decide +kernel
theorem d2_109 : decode method_2_code 109 = .ok (.iconst 0, 1) := by decide +kernel
theorem d2_110 : decode method_2_code 110 = .ok (.ireturn, 1) := by decide +kernel
theorem d2_111 : decode method_2_code 111 = .ok (.iload_n 0, 1) := by decide +kernel
theorem d2_112 : decode method_2_code 112 = .ok (.sipush 894, 3) := by decide +kernel
theorem d2_115 : decode method_2_code 115 = .ok (.if_icmp .ge 5, 3) := by decide +kernel
theorem d2_118 : decode method_2_code 118 = .ok (.iconst 1, 1) := by decide +kernel
theorem d2_119 : decode method_2_code 119 = .ok (.ireturn, 1) := by decide +kernel
theorem d2_120 : decode method_2_code 120 = .ok (.iload_n 0, 1) := by decide +kernel
theorem d2_121 : decode method_2_code 121 = .ok (.sipush 895, 3) := by decide +kernel
theorem d2_124 : decode method_2_code 124 = .ok (.if_icmp .ge 5, 3) := by decide +kernel
theorem d2_127 : decode method_2_code 127 = .ok (.iconst 0, 1) := by decide +kernel
theorem d2_128 : decode method_2_code 128 = .ok (.ireturn, 1) := by decide +kernel
theorem d2_129 : decode method_2_code 129 = .ok (.iload_n 0, 1) := by decide +kernel
theorem d2_130 : decode method_2_code 130 = .ok (.sipush 8192, 3) := by decide +kernel
theorem d2_133 : decode method_2_code 133 = .ok (.if_icmp .ge 5, 3) := by decide +kernel
theorem d2_136 : decode method_2_code 136 = .ok (.iconst 1, 1) := by decide +kernel
theorem d2_137 : decode method_2_code 137 = .ok (.ireturn, 1) := by decide +kernel
theorem d2_138 : decode method_2_code 138 = .ok (.iload_n 0, 1) := by decide +kernel
theorem d2_139 : decode method_2_code 139 = .ok (.sipush 8204, 3) := by decide +kernel
theorem d2_142 : decode method_2_code 142 = .ok (.if_icmp .ge 5, 3) := by decide +kernel
theorem d2_145 : decode method_2_code 145 = .ok (.iconst 0, 1) := by decide +kernel
theorem d2_146 : decode method_2_code 146 = .ok (.ireturn, 1) := by decide +kernel
theorem d2_147 : decode method_2_code 147 = .ok (.iload_n 0, 1) := by decide +kernel
theorem d2_148 : decode method_2_code 148 = .ok (.sipush 8206, 3) := by decide +kernel
theorem d2_151 : decode method_2_code 151 = .ok (.if_icmp .ge 5, 3) := by decide +kernel
theorem d2_154 : decode method_2_code 154 = .ok (.iconst 1, 1) := by decide +kernel
theorem d2_155 : decode method_2_code 155 = .ok (.ireturn, 1) := by decide +kernel
theorem d2_156 : decode method_2_code 156 = .ok (.iload_n 0, 1) := by decide +kernel
theorem d2_157 : decode method_2_code 157 = .ok (.sipush 8304, 3) := by decide +kernel
theorem d2_160 : decode method_2_code 160 = .ok (.if_icmp .ge 5, 3) := by decide +kernel
theorem d2_163 : decode method_2_code 163 = .ok (.iconst 0, 1) := by decide +kernel
theorem d2_164 : decode method_2_code 164 = .ok (.ireturn, 1) := by decide +kernel
theorem d2_165 : decode method_2_code 165 = .ok (.iload_n 0, 1) := by decide +kernel
theorem d2_166 : decode method_2_code 166 = .ok (.sipush 8592, 3) := by decide +kernel
theorem d2_169 : decode method_2_code 169 = .ok (.if_icmp .ge 5, 3) := by decide +kernel
theorem d2_172 : decode method_2_code 172 = .ok (.iconst 1, 1) := by decide +kernel
theorem d2_173 : decode method_2_code 173 = .ok (.ireturn, 1) := by decide +kernel
theorem d2_174 : decode method_2_code 174 = .ok (.iload_n 0, 1) := by decide +kernel
theorem d2_175 : decode method_2_code 175 = .ok (.sipush 11264, 3) := by decide +kernel
theorem d2_178 : decode method_2_code 178 = .ok (.if_icmp .ge 5, 3) := by decide +kernel
theorem d2_181 : decode method_2_code 181 = .ok (.iconst 0, 1) := by decide +kernel
theorem d2_182 : decode method_2_code 182 = .ok (.ireturn, 1) := by decide +kernel
theorem d2_183 : decode method_2_code 183 = .ok (.iload_n 0, 1) := by decide +kernel
theorem d2_184 : decode method_2_code 184 = .ok (.sipush 12272, 3) := by decide +kernel
theorem d2_187 : decode method_2_code 187 = .ok (.if_icmp .ge 5, 3) := by decide +kernel
theorem d2_190 : decode method_2_code 190 = .ok (.iconst 1, 1) := by decide +kernel
theorem d2_191 : decode method_2_code 191 = .ok (.ireturn, 1) := by decide +kernel
theorem d2_192 : decode method_2_code 192 = .ok (.iload_n 0, 1) := by decide +kernel
theorem d2_193 : decode method_2_code 193 = .ok (.sipush 12289, 3) := by decide +kernel
theorem d2_196 : decode method_2_code 196 = .ok (.if_icmp .ge 5, 3) := by decide +kernel
theorem d2_199 : decode method_2_code 199 = .ok (.iconst 0, 1) := by decide +kernel
theorem d2_200 : decode method_2_code 200 = .ok (.ireturn, 1) := by decide +kernel
theorem d2_201 : decode method_2_code 201 = .ok (.iload_n 0, 1) := by decide +kernel
theorem d2_202 : decode method_2_code 202 = .ok (.ldc 7, 2) := by decide +kernel
theorem d2_204 : decode method_2_code 204 = .ok (.if_icmp .ge 5, 3) := by decide +kernel
theorem d2_207 : decode method_2_code 207 = .ok (.iconst 1, 1) := by decide +kernel
theorem d2_208 : decode method_2_code 208 = .ok (.ireturn, 1) := by decide +kernel
theorem d2_209 : decode method_2_code 209 = .ok (.iload_n 0, 1) := by decide +kernel
theorem d2_210 : decode method_2_code 210 = .ok (.ldc 8, 2) := by decide +kernel
theorem d2_212 : decode method_2_code 212 = .ok (.if_icmp .ge 5, 3) := by decide +kernel
theorem d2_215 : decode method_2_code 215 = .ok (.iconst 0, 1) := by decide +kernel
theorem d2_216 : decode method_2_code 216 = .ok (.ireturn, 1) := by decide +kernel
theorem d2_217 : decode method_2_code 217 = .ok (.iload_n 0, 1) := by decide +kernel
theorem d2_218 : decode method_2_code 218 = .ok (.ldc 9, 2) := by decide +kernel
theorem d2_220 : decode method_2_code 220 = .ok (.if_icmp .ge 5, 3) := by decide +kernel
theorem d2_223 : decode method_2_code 223 = .ok (.iconst 1, 1) := by decide +kernel
theorem d2_224 : decode method_2_code 224 = .ok (.ireturn, 1) := by decide +kernel
theorem d2_225 : decode method_2_code 225 = .ok (.iload_n 0, 1) := by decide +kernel
theorem d2_226 : decode method_2_code 226 = .ok (.ldc 10, 2) := by decide +kernel
theorem d2_228 : decode method_2_code 228 = .ok (.if_icmp .ge 5, 3) := by decide +kernel
theorem d2_231 : decode method_2_code 231 = .ok (.iconst 0, 1) := by decide +kernel
theorem d2_232 : decode method_2_code 232 = .ok (.ireturn, 1) := by decide +kernel
theorem d2_233 : decode method_2_code 233 = .ok (.iload_n 0, 1) := by decide +kernel
theorem d2_234 : decode method_2_code 234 = .ok (.ldc 11, 2) := by decide +kernel
theorem d2_236 : decode method_2_code 236 = .ok (.if_icmp .ge 5, 3) := by decide +kernel
theorem d2_239 : decode method_2_code 239 = .ok (.iconst 1, 1) := by decide +kernel
theorem d2_240 : decode method_2_code 240 = .ok (.ireturn, 1) := by decide +kernel
theorem d2_241 : decode method_2_code 241 = .ok (.iload_n 0, 1) := by decide +kernel
theorem d2_242 : decode method_2_code 242 = .ok (.ldc 12, 2) := by decide +kernel
theorem d2_244 : decode method_2_code 244 = .ok (.if_icmp .ge 5, 3) := by decide +kernel
theorem d2_247 : decode method_2_code 247 = .ok (.iconst 0, 1) := by decide +kernel
theorem d2_248 : decode method_2_code 248 = .ok (.ireturn, 1) := by decide +kernel
theorem d2_249 : decode method_2_code 249 = .ok (.iload_n 0, 1) := by decide +kernel
theorem d2_250 : decode method_2_code 250 = .ok (.ldc 13, 2) := by decide +kernel
theorem d2_252 : decode method_2_code 252 = .ok (.if_icmp .ge 7, 3) := by decide +kernel
theorem d2_255 : decode method_2_code 255 = .ok (.iconst 1, 1) := by decide +kernel
theorem d2_256 : decode method_2_code 256 = .ok (.goto 4, 3) := by decide +kernel
theorem d2_259 : decode method_2_code 259 = .ok (.iconst 0, 1) := by decide +kernel
theorem d2_260 : decode method_2_code 260 = .ok (.ireturn, 1) := by decide +kernel
theorem pn_2 : plainName "com/example/keyref/keyref/model/XmlCharsIsNameStartCharPinLaw" = true := by first | (simp [plainName, overriddenIn]; done) | decide +kernel
theorem ef_2 (m : MethodId) (x0 : Int32) : entryFrame m #[(.int x0)] 1 = mkF m 0 #[.val (.int x0)] [] := by first | (simp [entryFrame, mkF, argsToLocals, Value.category]; done) | rfl
def own_2_259 (p1 : Int32) : Int32 := (0 : Int32)
def own_2_255 (p1 : Int32) : Int32 := (1 : Int32)
def own_2_249 (p1 : Int32) : Int32 := if p1 < (983040 : Int32) then own_2_255 p1 else own_2_259 p1
def own_2_247 (p1 : Int32) : Int32 := (0 : Int32)
def own_2_241 (p1 : Int32) : Int32 := if p1 < (65536 : Int32) then own_2_247 p1 else own_2_249 p1
def own_2_239 (p1 : Int32) : Int32 := (1 : Int32)
def own_2_233 (p1 : Int32) : Int32 := if p1 < (65534 : Int32) then own_2_239 p1 else own_2_241 p1
def own_2_231 (p1 : Int32) : Int32 := (0 : Int32)
def own_2_225 (p1 : Int32) : Int32 := if p1 < (65008 : Int32) then own_2_231 p1 else own_2_233 p1
def own_2_223 (p1 : Int32) : Int32 := (1 : Int32)
def own_2_217 (p1 : Int32) : Int32 := if p1 < (64976 : Int32) then own_2_223 p1 else own_2_225 p1
def own_2_215 (p1 : Int32) : Int32 := (0 : Int32)
def own_2_209 (p1 : Int32) : Int32 := if p1 < (63744 : Int32) then own_2_215 p1 else own_2_217 p1
def own_2_207 (p1 : Int32) : Int32 := (1 : Int32)
def own_2_201 (p1 : Int32) : Int32 := if p1 < (55296 : Int32) then own_2_207 p1 else own_2_209 p1
def own_2_199 (p1 : Int32) : Int32 := (0 : Int32)
def own_2_192 (p1 : Int32) : Int32 := if p1 < (12289 : Int32) then own_2_199 p1 else own_2_201 p1
def own_2_190 (p1 : Int32) : Int32 := (1 : Int32)
def own_2_183 (p1 : Int32) : Int32 := if p1 < (12272 : Int32) then own_2_190 p1 else own_2_192 p1
def own_2_181 (p1 : Int32) : Int32 := (0 : Int32)
def own_2_174 (p1 : Int32) : Int32 := if p1 < (11264 : Int32) then own_2_181 p1 else own_2_183 p1
def own_2_172 (p1 : Int32) : Int32 := (1 : Int32)
def own_2_165 (p1 : Int32) : Int32 := if p1 < (8592 : Int32) then own_2_172 p1 else own_2_174 p1
def own_2_163 (p1 : Int32) : Int32 := (0 : Int32)
def own_2_156 (p1 : Int32) : Int32 := if p1 < (8304 : Int32) then own_2_163 p1 else own_2_165 p1
def own_2_154 (p1 : Int32) : Int32 := (1 : Int32)
def own_2_147 (p1 : Int32) : Int32 := if p1 < (8206 : Int32) then own_2_154 p1 else own_2_156 p1
def own_2_145 (p1 : Int32) : Int32 := (0 : Int32)
def own_2_138 (p1 : Int32) : Int32 := if p1 < (8204 : Int32) then own_2_145 p1 else own_2_147 p1
def own_2_136 (p1 : Int32) : Int32 := (1 : Int32)
def own_2_129 (p1 : Int32) : Int32 := if p1 < (8192 : Int32) then own_2_136 p1 else own_2_138 p1
def own_2_127 (p1 : Int32) : Int32 := (0 : Int32)
def own_2_120 (p1 : Int32) : Int32 := if p1 < (895 : Int32) then own_2_127 p1 else own_2_129 p1
def own_2_118 (p1 : Int32) : Int32 := (1 : Int32)
def own_2_111 (p1 : Int32) : Int32 := if p1 < (894 : Int32) then own_2_118 p1 else own_2_120 p1
def own_2_109 (p1 : Int32) : Int32 := (0 : Int32)
def own_2_102 (p1 : Int32) : Int32 := if p1 < (880 : Int32) then own_2_109 p1 else own_2_111 p1
def own_2_100 (p1 : Int32) : Int32 := (1 : Int32)
def own_2_93 (p1 : Int32) : Int32 := if p1 < (768 : Int32) then own_2_100 p1 else own_2_102 p1
def own_2_91 (p1 : Int32) : Int32 := (0 : Int32)
def own_2_84 (p1 : Int32) : Int32 := if p1 < (248 : Int32) then own_2_91 p1 else own_2_93 p1
def own_2_82 (p1 : Int32) : Int32 := (1 : Int32)
def own_2_75 (p1 : Int32) : Int32 := if p1 < (247 : Int32) then own_2_82 p1 else own_2_84 p1
def own_2_73 (p1 : Int32) : Int32 := (0 : Int32)
def own_2_66 (p1 : Int32) : Int32 := if p1 < (216 : Int32) then own_2_73 p1 else own_2_75 p1
def own_2_64 (p1 : Int32) : Int32 := (1 : Int32)
def own_2_57 (p1 : Int32) : Int32 := if p1 < (215 : Int32) then own_2_64 p1 else own_2_66 p1
def own_2_55 (p1 : Int32) : Int32 := (0 : Int32)
def own_2_48 (p1 : Int32) : Int32 := if p1 < (192 : Int32) then own_2_55 p1 else own_2_57 p1
def own_2_46 (p1 : Int32) : Int32 := (1 : Int32)
def own_2_40 (p1 : Int32) : Int32 := if p1 < (123 : Int32) then own_2_46 p1 else own_2_48 p1
def own_2_38 (p1 : Int32) : Int32 := (0 : Int32)
def own_2_32 (p1 : Int32) : Int32 := if p1 < (97 : Int32) then own_2_38 p1 else own_2_40 p1
def own_2_30 (p1 : Int32) : Int32 := (1 : Int32)
def own_2_24 (p1 : Int32) : Int32 := if p1 < (96 : Int32) then own_2_30 p1 else own_2_32 p1
def own_2_22 (p1 : Int32) : Int32 := (0 : Int32)
def own_2_16 (p1 : Int32) : Int32 := if p1 < (95 : Int32) then own_2_22 p1 else own_2_24 p1
def own_2_14 (p1 : Int32) : Int32 := (1 : Int32)
def own_2_8 (p1 : Int32) : Int32 := if p1 < (91 : Int32) then own_2_14 p1 else own_2_16 p1
def own_2_6 (p1 : Int32) : Int32 := (0 : Int32)
def own_2_0 (p1 : Int32) : Int32 := if p1 < (65 : Int32) then own_2_6 p1 else own_2_8 p1
def Q2 (Z : State) (p1 : Int32) (h0 : Heap) (n0 : Nat) (v : Option Value) (h : Heap) (L : List Loc) : Prop := v = some (.int (own_2_0 p1)) ∧ Fr n0 L ∧ h = h0
set_option maxRecDepth 65536 in
set_option maxHeartbeats 40000000 in
theorem rm2 (l : Launch) (Z : State) (a0 : Array Value) (hw : ∀ d ∈ tables_1, d.before a0 Z = true) (ws : List Jvm.Cond) (p1 : Int32) (h0 : Heap) (n0 : Nat) (Z0 : n0 ≤ h0.size) :
    MetFree l (⟨"com/example/keyref/keyref/model/XmlCharsIsNameStartCharPinLaw", "ref", "(I)Z"⟩ : MethodName) (head1 (Jvm.Cond.code (⟨"com/example/keyref/keyref/model/XmlCharsIsNameStartCharPinLaw", "ref", "(I)Z"⟩ : MethodName) method_2_code 1 (some .boolean) :: ws) ({ frames := 0, cells := 0, slots := 0, locals := 0 } : Room)) (fun a U => a = #[(.int p1)] ∧ Z.Warmed39 U.vm ∧ U.heap = h0) (fun _ _ _ _ _ => True) (fun _ U o U' => ∃ v L, o = .returned v ∧ Q2 Z p1 h0 n0 v U'.heap L ∧ FrameEnd U o U' L ({ frames := 0, cells := 0, slots := 0, locals := 0 } : Room).cells ({ frames := 0, cells := 0, slots := 0, locals := 0 } : Room).slots) := by
  refine MetFree.of_bodySF (plainFor_of_name pn_2) hisR ?_
  intro p e s m args below meth c s₁ Bd hml0 hP hK
  obtain ⟨rfl, hZ, hh⟩ := hP
  have hx := Bd.exec
  have hby := Bd.bytes
  have hml : c.maxLocals = 1 := hml0
  have hown : s.vm.findClass "com/example/keyref/keyref/model/XmlCharsIsNameStartCharPinLaw" = some m.cls := findClass_of_methodNamed Bd.named
  have hnm := (name_of_methodNamed Bd.named Bd.method).1
  have X0 : Stand p l e ({ frames := 0, cells := 0, slots := 0, locals := 0 } : Room) s m #[(.int p1)] below meth c s₁ [] 0 0 := Stand.of_body Bd
  have e0 : s₁.heap = h0 := by rw [← hh, Bd.state]; rfl
  have N0 := Fr.nil n0
  have pre0 : ∀ t, Steps p.tables e below (s₁.setTop (mkF m 0 #[.val (.int p1)] [])) t → Steps p.tables e below (s₁.setTop (entryFrame m #[(.int p1)] 1)) t := fun t k => castTop (ef_2 m p1) k
  obtain ⟨fs, hr, hrun, hended, hW, hsame⟩ := X0.leave (v := some (.int (own_2_0 p1))) (fun h => by rw [Bd.returns] at h; cases h)
  have B259 : own_2_0 p1 = own_2_259 p1 → Steps p.tables e below (s₁.setTop (mkF m 259 #[.val (.int p1)] [])) (s₁.setFrames fs) := fun h => by
    show Steps p.tables e below (s₁.setTop (mkF m 259 #[.val (.int p1)] [])) _
    refine XS.iconst X0.here hx rfl (hb hby d2_259) ?_
    show Steps p.tables e below (s₁.setTop (mkF m 260 #[.val (.int p1)] [(.int (0 : Int32))])) _
    have hk : own_2_0 p1 = (0 : Int32) := h
    rw [hk] at hr
    exact retN X0 hx (t := .boolean) Bd.returns (by simp) (hb hby d2_260) hr
  have B255 : own_2_0 p1 = own_2_255 p1 → Steps p.tables e below (s₁.setTop (mkF m 255 #[.val (.int p1)] [])) (s₁.setFrames fs) := fun h => by
    show Steps p.tables e below (s₁.setTop (mkF m 255 #[.val (.int p1)] [])) _
    refine XS.iconst X0.here hx rfl (hb hby d2_255) ?_
    show Steps p.tables e below (s₁.setTop (mkF m 256 #[.val (.int p1)] [(.int (1 : Int32))])) _
    refine XS.goto X0.here hx rfl (pc0 := 256) (pc' := 260) rfl (hb hby d2_256) (by decide) (by decide) ?_
    show Steps p.tables e below (s₁.setTop (mkF m 260 #[.val (.int p1)] [(.int (1 : Int32))])) _
    have hk : own_2_0 p1 = (1 : Int32) := h
    rw [hk] at hr
    exact retN X0 hx (t := .boolean) Bd.returns (by simp) (hb hby d2_260) hr
  have B249 : own_2_0 p1 = own_2_249 p1 → Steps p.tables e below (s₁.setTop (mkF m 249 #[.val (.int p1)] [])) (s₁.setFrames fs) := fun h => by
    show Steps p.tables e below (s₁.setTop (mkF m 249 #[.val (.int p1)] [])) _
    refine XS.iloadN X0.here hx rfl (hb hby d2_249) rfl ?_
    show Steps p.tables e below (s₁.setTop (mkF m 250 #[.val (.int p1)] [(.int p1)])) _
    refine X0.ldcI hx hown (mvT hZ (hw _ (List.mem_of_getElem? (i := 7) rfl))) rfl (hb hby d2_250) ?_
    show Steps p.tables e below (s₁.setTop (mkF m 252 #[.val (.int p1)] [(.int (983040 : Int32)), (.int p1)])) _
    by_cases hP : p1 < (983040 : Int32)
    · refine XS.icmpNo X0.here hx rfl (hb hby d2_252) rfl (tlt hP).2.1 ?_
      exact B255 (h.trans (if_pos hP))
    · refine XS.icmpYes X0.here hx rfl (pc0 := 252) (pc' := 259) rfl (hb hby d2_252) rfl (flt hP).2.1 (by decide) (by decide) ?_
      exact B259 (h.trans (if_neg hP))
  have B247 : own_2_0 p1 = own_2_247 p1 → Steps p.tables e below (s₁.setTop (mkF m 247 #[.val (.int p1)] [])) (s₁.setFrames fs) := fun h => by
    show Steps p.tables e below (s₁.setTop (mkF m 247 #[.val (.int p1)] [])) _
    refine XS.iconst X0.here hx rfl (hb hby d2_247) ?_
    show Steps p.tables e below (s₁.setTop (mkF m 248 #[.val (.int p1)] [(.int (0 : Int32))])) _
    have hk : own_2_0 p1 = (0 : Int32) := h
    rw [hk] at hr
    exact retN X0 hx (t := .boolean) Bd.returns (by simp) (hb hby d2_248) hr
  have B241 : own_2_0 p1 = own_2_241 p1 → Steps p.tables e below (s₁.setTop (mkF m 241 #[.val (.int p1)] [])) (s₁.setFrames fs) := fun h => by
    show Steps p.tables e below (s₁.setTop (mkF m 241 #[.val (.int p1)] [])) _
    refine XS.iloadN X0.here hx rfl (hb hby d2_241) rfl ?_
    show Steps p.tables e below (s₁.setTop (mkF m 242 #[.val (.int p1)] [(.int p1)])) _
    refine X0.ldcI hx hown (mvT hZ (hw _ (List.mem_of_getElem? (i := 6) rfl))) rfl (hb hby d2_242) ?_
    show Steps p.tables e below (s₁.setTop (mkF m 244 #[.val (.int p1)] [(.int (65536 : Int32)), (.int p1)])) _
    by_cases hP : p1 < (65536 : Int32)
    · refine XS.icmpNo X0.here hx rfl (hb hby d2_244) rfl (tlt hP).2.1 ?_
      exact B247 (h.trans (if_pos hP))
    · refine XS.icmpYes X0.here hx rfl (pc0 := 244) (pc' := 249) rfl (hb hby d2_244) rfl (flt hP).2.1 (by decide) (by decide) ?_
      exact B249 (h.trans (if_neg hP))
  have B239 : own_2_0 p1 = own_2_239 p1 → Steps p.tables e below (s₁.setTop (mkF m 239 #[.val (.int p1)] [])) (s₁.setFrames fs) := fun h => by
    show Steps p.tables e below (s₁.setTop (mkF m 239 #[.val (.int p1)] [])) _
    refine XS.iconst X0.here hx rfl (hb hby d2_239) ?_
    show Steps p.tables e below (s₁.setTop (mkF m 240 #[.val (.int p1)] [(.int (1 : Int32))])) _
    have hk : own_2_0 p1 = (1 : Int32) := h
    rw [hk] at hr
    exact retN X0 hx (t := .boolean) Bd.returns (by simp) (hb hby d2_240) hr
  have B233 : own_2_0 p1 = own_2_233 p1 → Steps p.tables e below (s₁.setTop (mkF m 233 #[.val (.int p1)] [])) (s₁.setFrames fs) := fun h => by
    show Steps p.tables e below (s₁.setTop (mkF m 233 #[.val (.int p1)] [])) _
    refine XS.iloadN X0.here hx rfl (hb hby d2_233) rfl ?_
    show Steps p.tables e below (s₁.setTop (mkF m 234 #[.val (.int p1)] [(.int p1)])) _
    refine X0.ldcI hx hown (mvT hZ (hw _ (List.mem_of_getElem? (i := 5) rfl))) rfl (hb hby d2_234) ?_
    show Steps p.tables e below (s₁.setTop (mkF m 236 #[.val (.int p1)] [(.int (65534 : Int32)), (.int p1)])) _
    by_cases hP : p1 < (65534 : Int32)
    · refine XS.icmpNo X0.here hx rfl (hb hby d2_236) rfl (tlt hP).2.1 ?_
      exact B239 (h.trans (if_pos hP))
    · refine XS.icmpYes X0.here hx rfl (pc0 := 236) (pc' := 241) rfl (hb hby d2_236) rfl (flt hP).2.1 (by decide) (by decide) ?_
      exact B241 (h.trans (if_neg hP))
  have B231 : own_2_0 p1 = own_2_231 p1 → Steps p.tables e below (s₁.setTop (mkF m 231 #[.val (.int p1)] [])) (s₁.setFrames fs) := fun h => by
    show Steps p.tables e below (s₁.setTop (mkF m 231 #[.val (.int p1)] [])) _
    refine XS.iconst X0.here hx rfl (hb hby d2_231) ?_
    show Steps p.tables e below (s₁.setTop (mkF m 232 #[.val (.int p1)] [(.int (0 : Int32))])) _
    have hk : own_2_0 p1 = (0 : Int32) := h
    rw [hk] at hr
    exact retN X0 hx (t := .boolean) Bd.returns (by simp) (hb hby d2_232) hr
  have B225 : own_2_0 p1 = own_2_225 p1 → Steps p.tables e below (s₁.setTop (mkF m 225 #[.val (.int p1)] [])) (s₁.setFrames fs) := fun h => by
    show Steps p.tables e below (s₁.setTop (mkF m 225 #[.val (.int p1)] [])) _
    refine XS.iloadN X0.here hx rfl (hb hby d2_225) rfl ?_
    show Steps p.tables e below (s₁.setTop (mkF m 226 #[.val (.int p1)] [(.int p1)])) _
    refine X0.ldcI hx hown (mvT hZ (hw _ (List.mem_of_getElem? (i := 4) rfl))) rfl (hb hby d2_226) ?_
    show Steps p.tables e below (s₁.setTop (mkF m 228 #[.val (.int p1)] [(.int (65008 : Int32)), (.int p1)])) _
    by_cases hP : p1 < (65008 : Int32)
    · refine XS.icmpNo X0.here hx rfl (hb hby d2_228) rfl (tlt hP).2.1 ?_
      exact B231 (h.trans (if_pos hP))
    · refine XS.icmpYes X0.here hx rfl (pc0 := 228) (pc' := 233) rfl (hb hby d2_228) rfl (flt hP).2.1 (by decide) (by decide) ?_
      exact B233 (h.trans (if_neg hP))
  have B223 : own_2_0 p1 = own_2_223 p1 → Steps p.tables e below (s₁.setTop (mkF m 223 #[.val (.int p1)] [])) (s₁.setFrames fs) := fun h => by
    show Steps p.tables e below (s₁.setTop (mkF m 223 #[.val (.int p1)] [])) _
    refine XS.iconst X0.here hx rfl (hb hby d2_223) ?_
    show Steps p.tables e below (s₁.setTop (mkF m 224 #[.val (.int p1)] [(.int (1 : Int32))])) _
    have hk : own_2_0 p1 = (1 : Int32) := h
    rw [hk] at hr
    exact retN X0 hx (t := .boolean) Bd.returns (by simp) (hb hby d2_224) hr
  have B217 : own_2_0 p1 = own_2_217 p1 → Steps p.tables e below (s₁.setTop (mkF m 217 #[.val (.int p1)] [])) (s₁.setFrames fs) := fun h => by
    show Steps p.tables e below (s₁.setTop (mkF m 217 #[.val (.int p1)] [])) _
    refine XS.iloadN X0.here hx rfl (hb hby d2_217) rfl ?_
    show Steps p.tables e below (s₁.setTop (mkF m 218 #[.val (.int p1)] [(.int p1)])) _
    refine X0.ldcI hx hown (mvT hZ (hw _ (List.mem_of_getElem? (i := 3) rfl))) rfl (hb hby d2_218) ?_
    show Steps p.tables e below (s₁.setTop (mkF m 220 #[.val (.int p1)] [(.int (64976 : Int32)), (.int p1)])) _
    by_cases hP : p1 < (64976 : Int32)
    · refine XS.icmpNo X0.here hx rfl (hb hby d2_220) rfl (tlt hP).2.1 ?_
      exact B223 (h.trans (if_pos hP))
    · refine XS.icmpYes X0.here hx rfl (pc0 := 220) (pc' := 225) rfl (hb hby d2_220) rfl (flt hP).2.1 (by decide) (by decide) ?_
      exact B225 (h.trans (if_neg hP))
  have B215 : own_2_0 p1 = own_2_215 p1 → Steps p.tables e below (s₁.setTop (mkF m 215 #[.val (.int p1)] [])) (s₁.setFrames fs) := fun h => by
    show Steps p.tables e below (s₁.setTop (mkF m 215 #[.val (.int p1)] [])) _
    refine XS.iconst X0.here hx rfl (hb hby d2_215) ?_
    show Steps p.tables e below (s₁.setTop (mkF m 216 #[.val (.int p1)] [(.int (0 : Int32))])) _
    have hk : own_2_0 p1 = (0 : Int32) := h
    rw [hk] at hr
    exact retN X0 hx (t := .boolean) Bd.returns (by simp) (hb hby d2_216) hr
  have B209 : own_2_0 p1 = own_2_209 p1 → Steps p.tables e below (s₁.setTop (mkF m 209 #[.val (.int p1)] [])) (s₁.setFrames fs) := fun h => by
    show Steps p.tables e below (s₁.setTop (mkF m 209 #[.val (.int p1)] [])) _
    refine XS.iloadN X0.here hx rfl (hb hby d2_209) rfl ?_
    show Steps p.tables e below (s₁.setTop (mkF m 210 #[.val (.int p1)] [(.int p1)])) _
    refine X0.ldcI hx hown (mvT hZ (hw _ (List.mem_of_getElem? (i := 2) rfl))) rfl (hb hby d2_210) ?_
    show Steps p.tables e below (s₁.setTop (mkF m 212 #[.val (.int p1)] [(.int (63744 : Int32)), (.int p1)])) _
    by_cases hP : p1 < (63744 : Int32)
    · refine XS.icmpNo X0.here hx rfl (hb hby d2_212) rfl (tlt hP).2.1 ?_
      exact B215 (h.trans (if_pos hP))
    · refine XS.icmpYes X0.here hx rfl (pc0 := 212) (pc' := 217) rfl (hb hby d2_212) rfl (flt hP).2.1 (by decide) (by decide) ?_
      exact B217 (h.trans (if_neg hP))
  have B207 : own_2_0 p1 = own_2_207 p1 → Steps p.tables e below (s₁.setTop (mkF m 207 #[.val (.int p1)] [])) (s₁.setFrames fs) := fun h => by
    show Steps p.tables e below (s₁.setTop (mkF m 207 #[.val (.int p1)] [])) _
    refine XS.iconst X0.here hx rfl (hb hby d2_207) ?_
    show Steps p.tables e below (s₁.setTop (mkF m 208 #[.val (.int p1)] [(.int (1 : Int32))])) _
    have hk : own_2_0 p1 = (1 : Int32) := h
    rw [hk] at hr
    exact retN X0 hx (t := .boolean) Bd.returns (by simp) (hb hby d2_208) hr
  have B201 : own_2_0 p1 = own_2_201 p1 → Steps p.tables e below (s₁.setTop (mkF m 201 #[.val (.int p1)] [])) (s₁.setFrames fs) := fun h => by
    show Steps p.tables e below (s₁.setTop (mkF m 201 #[.val (.int p1)] [])) _
    refine XS.iloadN X0.here hx rfl (hb hby d2_201) rfl ?_
    show Steps p.tables e below (s₁.setTop (mkF m 202 #[.val (.int p1)] [(.int p1)])) _
    refine X0.ldcI hx hown (mvT hZ (hw _ (List.mem_of_getElem? (i := 1) rfl))) rfl (hb hby d2_202) ?_
    show Steps p.tables e below (s₁.setTop (mkF m 204 #[.val (.int p1)] [(.int (55296 : Int32)), (.int p1)])) _
    by_cases hP : p1 < (55296 : Int32)
    · refine XS.icmpNo X0.here hx rfl (hb hby d2_204) rfl (tlt hP).2.1 ?_
      exact B207 (h.trans (if_pos hP))
    · refine XS.icmpYes X0.here hx rfl (pc0 := 204) (pc' := 209) rfl (hb hby d2_204) rfl (flt hP).2.1 (by decide) (by decide) ?_
      exact B209 (h.trans (if_neg hP))
  have B199 : own_2_0 p1 = own_2_199 p1 → Steps p.tables e below (s₁.setTop (mkF m 199 #[.val (.int p1)] [])) (s₁.setFrames fs) := fun h => by
    show Steps p.tables e below (s₁.setTop (mkF m 199 #[.val (.int p1)] [])) _
    refine XS.iconst X0.here hx rfl (hb hby d2_199) ?_
    show Steps p.tables e below (s₁.setTop (mkF m 200 #[.val (.int p1)] [(.int (0 : Int32))])) _
    have hk : own_2_0 p1 = (0 : Int32) := h
    rw [hk] at hr
    exact retN X0 hx (t := .boolean) Bd.returns (by simp) (hb hby d2_200) hr
  have B192 : own_2_0 p1 = own_2_192 p1 → Steps p.tables e below (s₁.setTop (mkF m 192 #[.val (.int p1)] [])) (s₁.setFrames fs) := fun h => by
    show Steps p.tables e below (s₁.setTop (mkF m 192 #[.val (.int p1)] [])) _
    refine XS.iloadN X0.here hx rfl (hb hby d2_192) rfl ?_
    show Steps p.tables e below (s₁.setTop (mkF m 193 #[.val (.int p1)] [(.int p1)])) _
    refine XS.sipush X0.here hx rfl (hb hby d2_193) ?_
    show Steps p.tables e below (s₁.setTop (mkF m 196 #[.val (.int p1)] [(.int (12289 : Int32)), (.int p1)])) _
    by_cases hP : p1 < (12289 : Int32)
    · refine XS.icmpNo X0.here hx rfl (hb hby d2_196) rfl (tlt hP).2.1 ?_
      exact B199 (h.trans (if_pos hP))
    · refine XS.icmpYes X0.here hx rfl (pc0 := 196) (pc' := 201) rfl (hb hby d2_196) rfl (flt hP).2.1 (by decide) (by decide) ?_
      exact B201 (h.trans (if_neg hP))
  have B190 : own_2_0 p1 = own_2_190 p1 → Steps p.tables e below (s₁.setTop (mkF m 190 #[.val (.int p1)] [])) (s₁.setFrames fs) := fun h => by
    show Steps p.tables e below (s₁.setTop (mkF m 190 #[.val (.int p1)] [])) _
    refine XS.iconst X0.here hx rfl (hb hby d2_190) ?_
    show Steps p.tables e below (s₁.setTop (mkF m 191 #[.val (.int p1)] [(.int (1 : Int32))])) _
    have hk : own_2_0 p1 = (1 : Int32) := h
    rw [hk] at hr
    exact retN X0 hx (t := .boolean) Bd.returns (by simp) (hb hby d2_191) hr
  have B183 : own_2_0 p1 = own_2_183 p1 → Steps p.tables e below (s₁.setTop (mkF m 183 #[.val (.int p1)] [])) (s₁.setFrames fs) := fun h => by
    show Steps p.tables e below (s₁.setTop (mkF m 183 #[.val (.int p1)] [])) _
    refine XS.iloadN X0.here hx rfl (hb hby d2_183) rfl ?_
    show Steps p.tables e below (s₁.setTop (mkF m 184 #[.val (.int p1)] [(.int p1)])) _
    refine XS.sipush X0.here hx rfl (hb hby d2_184) ?_
    show Steps p.tables e below (s₁.setTop (mkF m 187 #[.val (.int p1)] [(.int (12272 : Int32)), (.int p1)])) _
    by_cases hP : p1 < (12272 : Int32)
    · refine XS.icmpNo X0.here hx rfl (hb hby d2_187) rfl (tlt hP).2.1 ?_
      exact B190 (h.trans (if_pos hP))
    · refine XS.icmpYes X0.here hx rfl (pc0 := 187) (pc' := 192) rfl (hb hby d2_187) rfl (flt hP).2.1 (by decide) (by decide) ?_
      exact B192 (h.trans (if_neg hP))
  have B181 : own_2_0 p1 = own_2_181 p1 → Steps p.tables e below (s₁.setTop (mkF m 181 #[.val (.int p1)] [])) (s₁.setFrames fs) := fun h => by
    show Steps p.tables e below (s₁.setTop (mkF m 181 #[.val (.int p1)] [])) _
    refine XS.iconst X0.here hx rfl (hb hby d2_181) ?_
    show Steps p.tables e below (s₁.setTop (mkF m 182 #[.val (.int p1)] [(.int (0 : Int32))])) _
    have hk : own_2_0 p1 = (0 : Int32) := h
    rw [hk] at hr
    exact retN X0 hx (t := .boolean) Bd.returns (by simp) (hb hby d2_182) hr
  have B174 : own_2_0 p1 = own_2_174 p1 → Steps p.tables e below (s₁.setTop (mkF m 174 #[.val (.int p1)] [])) (s₁.setFrames fs) := fun h => by
    show Steps p.tables e below (s₁.setTop (mkF m 174 #[.val (.int p1)] [])) _
    refine XS.iloadN X0.here hx rfl (hb hby d2_174) rfl ?_
    show Steps p.tables e below (s₁.setTop (mkF m 175 #[.val (.int p1)] [(.int p1)])) _
    refine XS.sipush X0.here hx rfl (hb hby d2_175) ?_
    show Steps p.tables e below (s₁.setTop (mkF m 178 #[.val (.int p1)] [(.int (11264 : Int32)), (.int p1)])) _
    by_cases hP : p1 < (11264 : Int32)
    · refine XS.icmpNo X0.here hx rfl (hb hby d2_178) rfl (tlt hP).2.1 ?_
      exact B181 (h.trans (if_pos hP))
    · refine XS.icmpYes X0.here hx rfl (pc0 := 178) (pc' := 183) rfl (hb hby d2_178) rfl (flt hP).2.1 (by decide) (by decide) ?_
      exact B183 (h.trans (if_neg hP))
  have B172 : own_2_0 p1 = own_2_172 p1 → Steps p.tables e below (s₁.setTop (mkF m 172 #[.val (.int p1)] [])) (s₁.setFrames fs) := fun h => by
    show Steps p.tables e below (s₁.setTop (mkF m 172 #[.val (.int p1)] [])) _
    refine XS.iconst X0.here hx rfl (hb hby d2_172) ?_
    show Steps p.tables e below (s₁.setTop (mkF m 173 #[.val (.int p1)] [(.int (1 : Int32))])) _
    have hk : own_2_0 p1 = (1 : Int32) := h
    rw [hk] at hr
    exact retN X0 hx (t := .boolean) Bd.returns (by simp) (hb hby d2_173) hr
  have B165 : own_2_0 p1 = own_2_165 p1 → Steps p.tables e below (s₁.setTop (mkF m 165 #[.val (.int p1)] [])) (s₁.setFrames fs) := fun h => by
    show Steps p.tables e below (s₁.setTop (mkF m 165 #[.val (.int p1)] [])) _
    refine XS.iloadN X0.here hx rfl (hb hby d2_165) rfl ?_
    show Steps p.tables e below (s₁.setTop (mkF m 166 #[.val (.int p1)] [(.int p1)])) _
    refine XS.sipush X0.here hx rfl (hb hby d2_166) ?_
    show Steps p.tables e below (s₁.setTop (mkF m 169 #[.val (.int p1)] [(.int (8592 : Int32)), (.int p1)])) _
    by_cases hP : p1 < (8592 : Int32)
    · refine XS.icmpNo X0.here hx rfl (hb hby d2_169) rfl (tlt hP).2.1 ?_
      exact B172 (h.trans (if_pos hP))
    · refine XS.icmpYes X0.here hx rfl (pc0 := 169) (pc' := 174) rfl (hb hby d2_169) rfl (flt hP).2.1 (by decide) (by decide) ?_
      exact B174 (h.trans (if_neg hP))
  have B163 : own_2_0 p1 = own_2_163 p1 → Steps p.tables e below (s₁.setTop (mkF m 163 #[.val (.int p1)] [])) (s₁.setFrames fs) := fun h => by
    show Steps p.tables e below (s₁.setTop (mkF m 163 #[.val (.int p1)] [])) _
    refine XS.iconst X0.here hx rfl (hb hby d2_163) ?_
    show Steps p.tables e below (s₁.setTop (mkF m 164 #[.val (.int p1)] [(.int (0 : Int32))])) _
    have hk : own_2_0 p1 = (0 : Int32) := h
    rw [hk] at hr
    exact retN X0 hx (t := .boolean) Bd.returns (by simp) (hb hby d2_164) hr
  have B156 : own_2_0 p1 = own_2_156 p1 → Steps p.tables e below (s₁.setTop (mkF m 156 #[.val (.int p1)] [])) (s₁.setFrames fs) := fun h => by
    show Steps p.tables e below (s₁.setTop (mkF m 156 #[.val (.int p1)] [])) _
    refine XS.iloadN X0.here hx rfl (hb hby d2_156) rfl ?_
    show Steps p.tables e below (s₁.setTop (mkF m 157 #[.val (.int p1)] [(.int p1)])) _
    refine XS.sipush X0.here hx rfl (hb hby d2_157) ?_
    show Steps p.tables e below (s₁.setTop (mkF m 160 #[.val (.int p1)] [(.int (8304 : Int32)), (.int p1)])) _
    by_cases hP : p1 < (8304 : Int32)
    · refine XS.icmpNo X0.here hx rfl (hb hby d2_160) rfl (tlt hP).2.1 ?_
      exact B163 (h.trans (if_pos hP))
    · refine XS.icmpYes X0.here hx rfl (pc0 := 160) (pc' := 165) rfl (hb hby d2_160) rfl (flt hP).2.1 (by decide) (by decide) ?_
      exact B165 (h.trans (if_neg hP))
  have B154 : own_2_0 p1 = own_2_154 p1 → Steps p.tables e below (s₁.setTop (mkF m 154 #[.val (.int p1)] [])) (s₁.setFrames fs) := fun h => by
    show Steps p.tables e below (s₁.setTop (mkF m 154 #[.val (.int p1)] [])) _
    refine XS.iconst X0.here hx rfl (hb hby d2_154) ?_
    show Steps p.tables e below (s₁.setTop (mkF m 155 #[.val (.int p1)] [(.int (1 : Int32))])) _
    have hk : own_2_0 p1 = (1 : Int32) := h
    rw [hk] at hr
    exact retN X0 hx (t := .boolean) Bd.returns (by simp) (hb hby d2_155) hr
  have B147 : own_2_0 p1 = own_2_147 p1 → Steps p.tables e below (s₁.setTop (mkF m 147 #[.val (.int p1)] [])) (s₁.setFrames fs) := fun h => by
    show Steps p.tables e below (s₁.setTop (mkF m 147 #[.val (.int p1)] [])) _
    refine XS.iloadN X0.here hx rfl (hb hby d2_147) rfl ?_
    show Steps p.tables e below (s₁.setTop (mkF m 148 #[.val (.int p1)] [(.int p1)])) _
    refine XS.sipush X0.here hx rfl (hb hby d2_148) ?_
    show Steps p.tables e below (s₁.setTop (mkF m 151 #[.val (.int p1)] [(.int (8206 : Int32)), (.int p1)])) _
    by_cases hP : p1 < (8206 : Int32)
    · refine XS.icmpNo X0.here hx rfl (hb hby d2_151) rfl (tlt hP).2.1 ?_
      exact B154 (h.trans (if_pos hP))
    · refine XS.icmpYes X0.here hx rfl (pc0 := 151) (pc' := 156) rfl (hb hby d2_151) rfl (flt hP).2.1 (by decide) (by decide) ?_
      exact B156 (h.trans (if_neg hP))
  have B145 : own_2_0 p1 = own_2_145 p1 → Steps p.tables e below (s₁.setTop (mkF m 145 #[.val (.int p1)] [])) (s₁.setFrames fs) := fun h => by
    show Steps p.tables e below (s₁.setTop (mkF m 145 #[.val (.int p1)] [])) _
    refine XS.iconst X0.here hx rfl (hb hby d2_145) ?_
    show Steps p.tables e below (s₁.setTop (mkF m 146 #[.val (.int p1)] [(.int (0 : Int32))])) _
    have hk : own_2_0 p1 = (0 : Int32) := h
    rw [hk] at hr
    exact retN X0 hx (t := .boolean) Bd.returns (by simp) (hb hby d2_146) hr
  have B138 : own_2_0 p1 = own_2_138 p1 → Steps p.tables e below (s₁.setTop (mkF m 138 #[.val (.int p1)] [])) (s₁.setFrames fs) := fun h => by
    show Steps p.tables e below (s₁.setTop (mkF m 138 #[.val (.int p1)] [])) _
    refine XS.iloadN X0.here hx rfl (hb hby d2_138) rfl ?_
    show Steps p.tables e below (s₁.setTop (mkF m 139 #[.val (.int p1)] [(.int p1)])) _
    refine XS.sipush X0.here hx rfl (hb hby d2_139) ?_
    show Steps p.tables e below (s₁.setTop (mkF m 142 #[.val (.int p1)] [(.int (8204 : Int32)), (.int p1)])) _
    by_cases hP : p1 < (8204 : Int32)
    · refine XS.icmpNo X0.here hx rfl (hb hby d2_142) rfl (tlt hP).2.1 ?_
      exact B145 (h.trans (if_pos hP))
    · refine XS.icmpYes X0.here hx rfl (pc0 := 142) (pc' := 147) rfl (hb hby d2_142) rfl (flt hP).2.1 (by decide) (by decide) ?_
      exact B147 (h.trans (if_neg hP))
  have B136 : own_2_0 p1 = own_2_136 p1 → Steps p.tables e below (s₁.setTop (mkF m 136 #[.val (.int p1)] [])) (s₁.setFrames fs) := fun h => by
    show Steps p.tables e below (s₁.setTop (mkF m 136 #[.val (.int p1)] [])) _
    refine XS.iconst X0.here hx rfl (hb hby d2_136) ?_
    show Steps p.tables e below (s₁.setTop (mkF m 137 #[.val (.int p1)] [(.int (1 : Int32))])) _
    have hk : own_2_0 p1 = (1 : Int32) := h
    rw [hk] at hr
    exact retN X0 hx (t := .boolean) Bd.returns (by simp) (hb hby d2_137) hr
  have B129 : own_2_0 p1 = own_2_129 p1 → Steps p.tables e below (s₁.setTop (mkF m 129 #[.val (.int p1)] [])) (s₁.setFrames fs) := fun h => by
    show Steps p.tables e below (s₁.setTop (mkF m 129 #[.val (.int p1)] [])) _
    refine XS.iloadN X0.here hx rfl (hb hby d2_129) rfl ?_
    show Steps p.tables e below (s₁.setTop (mkF m 130 #[.val (.int p1)] [(.int p1)])) _
    refine XS.sipush X0.here hx rfl (hb hby d2_130) ?_
    show Steps p.tables e below (s₁.setTop (mkF m 133 #[.val (.int p1)] [(.int (8192 : Int32)), (.int p1)])) _
    by_cases hP : p1 < (8192 : Int32)
    · refine XS.icmpNo X0.here hx rfl (hb hby d2_133) rfl (tlt hP).2.1 ?_
      exact B136 (h.trans (if_pos hP))
    · refine XS.icmpYes X0.here hx rfl (pc0 := 133) (pc' := 138) rfl (hb hby d2_133) rfl (flt hP).2.1 (by decide) (by decide) ?_
      exact B138 (h.trans (if_neg hP))
  have B127 : own_2_0 p1 = own_2_127 p1 → Steps p.tables e below (s₁.setTop (mkF m 127 #[.val (.int p1)] [])) (s₁.setFrames fs) := fun h => by
    show Steps p.tables e below (s₁.setTop (mkF m 127 #[.val (.int p1)] [])) _
    refine XS.iconst X0.here hx rfl (hb hby d2_127) ?_
    show Steps p.tables e below (s₁.setTop (mkF m 128 #[.val (.int p1)] [(.int (0 : Int32))])) _
    have hk : own_2_0 p1 = (0 : Int32) := h
    rw [hk] at hr
    exact retN X0 hx (t := .boolean) Bd.returns (by simp) (hb hby d2_128) hr
  have B120 : own_2_0 p1 = own_2_120 p1 → Steps p.tables e below (s₁.setTop (mkF m 120 #[.val (.int p1)] [])) (s₁.setFrames fs) := fun h => by
    show Steps p.tables e below (s₁.setTop (mkF m 120 #[.val (.int p1)] [])) _
    refine XS.iloadN X0.here hx rfl (hb hby d2_120) rfl ?_
    show Steps p.tables e below (s₁.setTop (mkF m 121 #[.val (.int p1)] [(.int p1)])) _
    refine XS.sipush X0.here hx rfl (hb hby d2_121) ?_
    show Steps p.tables e below (s₁.setTop (mkF m 124 #[.val (.int p1)] [(.int (895 : Int32)), (.int p1)])) _
    by_cases hP : p1 < (895 : Int32)
    · refine XS.icmpNo X0.here hx rfl (hb hby d2_124) rfl (tlt hP).2.1 ?_
      exact B127 (h.trans (if_pos hP))
    · refine XS.icmpYes X0.here hx rfl (pc0 := 124) (pc' := 129) rfl (hb hby d2_124) rfl (flt hP).2.1 (by decide) (by decide) ?_
      exact B129 (h.trans (if_neg hP))
  have B118 : own_2_0 p1 = own_2_118 p1 → Steps p.tables e below (s₁.setTop (mkF m 118 #[.val (.int p1)] [])) (s₁.setFrames fs) := fun h => by
    show Steps p.tables e below (s₁.setTop (mkF m 118 #[.val (.int p1)] [])) _
    refine XS.iconst X0.here hx rfl (hb hby d2_118) ?_
    show Steps p.tables e below (s₁.setTop (mkF m 119 #[.val (.int p1)] [(.int (1 : Int32))])) _
    have hk : own_2_0 p1 = (1 : Int32) := h
    rw [hk] at hr
    exact retN X0 hx (t := .boolean) Bd.returns (by simp) (hb hby d2_119) hr
  have B111 : own_2_0 p1 = own_2_111 p1 → Steps p.tables e below (s₁.setTop (mkF m 111 #[.val (.int p1)] [])) (s₁.setFrames fs) := fun h => by
    show Steps p.tables e below (s₁.setTop (mkF m 111 #[.val (.int p1)] [])) _
    refine XS.iloadN X0.here hx rfl (hb hby d2_111) rfl ?_
    show Steps p.tables e below (s₁.setTop (mkF m 112 #[.val (.int p1)] [(.int p1)])) _
    refine XS.sipush X0.here hx rfl (hb hby d2_112) ?_
    show Steps p.tables e below (s₁.setTop (mkF m 115 #[.val (.int p1)] [(.int (894 : Int32)), (.int p1)])) _
    by_cases hP : p1 < (894 : Int32)
    · refine XS.icmpNo X0.here hx rfl (hb hby d2_115) rfl (tlt hP).2.1 ?_
      exact B118 (h.trans (if_pos hP))
    · refine XS.icmpYes X0.here hx rfl (pc0 := 115) (pc' := 120) rfl (hb hby d2_115) rfl (flt hP).2.1 (by decide) (by decide) ?_
      exact B120 (h.trans (if_neg hP))
  have B109 : own_2_0 p1 = own_2_109 p1 → Steps p.tables e below (s₁.setTop (mkF m 109 #[.val (.int p1)] [])) (s₁.setFrames fs) := fun h => by
    show Steps p.tables e below (s₁.setTop (mkF m 109 #[.val (.int p1)] [])) _
    refine XS.iconst X0.here hx rfl (hb hby d2_109) ?_
    show Steps p.tables e below (s₁.setTop (mkF m 110 #[.val (.int p1)] [(.int (0 : Int32))])) _
    have hk : own_2_0 p1 = (0 : Int32) := h
    rw [hk] at hr
    exact retN X0 hx (t := .boolean) Bd.returns (by simp) (hb hby d2_110) hr
  have B102 : own_2_0 p1 = own_2_102 p1 → Steps p.tables e below (s₁.setTop (mkF m 102 #[.val (.int p1)] [])) (s₁.setFrames fs) := fun h => by
    show Steps p.tables e below (s₁.setTop (mkF m 102 #[.val (.int p1)] [])) _
    refine XS.iloadN X0.here hx rfl (hb hby d2_102) rfl ?_
    show Steps p.tables e below (s₁.setTop (mkF m 103 #[.val (.int p1)] [(.int p1)])) _
    refine XS.sipush X0.here hx rfl (hb hby d2_103) ?_
    show Steps p.tables e below (s₁.setTop (mkF m 106 #[.val (.int p1)] [(.int (880 : Int32)), (.int p1)])) _
    by_cases hP : p1 < (880 : Int32)
    · refine XS.icmpNo X0.here hx rfl (hb hby d2_106) rfl (tlt hP).2.1 ?_
      exact B109 (h.trans (if_pos hP))
    · refine XS.icmpYes X0.here hx rfl (pc0 := 106) (pc' := 111) rfl (hb hby d2_106) rfl (flt hP).2.1 (by decide) (by decide) ?_
      exact B111 (h.trans (if_neg hP))
  have B100 : own_2_0 p1 = own_2_100 p1 → Steps p.tables e below (s₁.setTop (mkF m 100 #[.val (.int p1)] [])) (s₁.setFrames fs) := fun h => by
    show Steps p.tables e below (s₁.setTop (mkF m 100 #[.val (.int p1)] [])) _
    refine XS.iconst X0.here hx rfl (hb hby d2_100) ?_
    show Steps p.tables e below (s₁.setTop (mkF m 101 #[.val (.int p1)] [(.int (1 : Int32))])) _
    have hk : own_2_0 p1 = (1 : Int32) := h
    rw [hk] at hr
    exact retN X0 hx (t := .boolean) Bd.returns (by simp) (hb hby d2_101) hr
  have B93 : own_2_0 p1 = own_2_93 p1 → Steps p.tables e below (s₁.setTop (mkF m 93 #[.val (.int p1)] [])) (s₁.setFrames fs) := fun h => by
    show Steps p.tables e below (s₁.setTop (mkF m 93 #[.val (.int p1)] [])) _
    refine XS.iloadN X0.here hx rfl (hb hby d2_93) rfl ?_
    show Steps p.tables e below (s₁.setTop (mkF m 94 #[.val (.int p1)] [(.int p1)])) _
    refine XS.sipush X0.here hx rfl (hb hby d2_94) ?_
    show Steps p.tables e below (s₁.setTop (mkF m 97 #[.val (.int p1)] [(.int (768 : Int32)), (.int p1)])) _
    by_cases hP : p1 < (768 : Int32)
    · refine XS.icmpNo X0.here hx rfl (hb hby d2_97) rfl (tlt hP).2.1 ?_
      exact B100 (h.trans (if_pos hP))
    · refine XS.icmpYes X0.here hx rfl (pc0 := 97) (pc' := 102) rfl (hb hby d2_97) rfl (flt hP).2.1 (by decide) (by decide) ?_
      exact B102 (h.trans (if_neg hP))
  have B91 : own_2_0 p1 = own_2_91 p1 → Steps p.tables e below (s₁.setTop (mkF m 91 #[.val (.int p1)] [])) (s₁.setFrames fs) := fun h => by
    show Steps p.tables e below (s₁.setTop (mkF m 91 #[.val (.int p1)] [])) _
    refine XS.iconst X0.here hx rfl (hb hby d2_91) ?_
    show Steps p.tables e below (s₁.setTop (mkF m 92 #[.val (.int p1)] [(.int (0 : Int32))])) _
    have hk : own_2_0 p1 = (0 : Int32) := h
    rw [hk] at hr
    exact retN X0 hx (t := .boolean) Bd.returns (by simp) (hb hby d2_92) hr
  have B84 : own_2_0 p1 = own_2_84 p1 → Steps p.tables e below (s₁.setTop (mkF m 84 #[.val (.int p1)] [])) (s₁.setFrames fs) := fun h => by
    show Steps p.tables e below (s₁.setTop (mkF m 84 #[.val (.int p1)] [])) _
    refine XS.iloadN X0.here hx rfl (hb hby d2_84) rfl ?_
    show Steps p.tables e below (s₁.setTop (mkF m 85 #[.val (.int p1)] [(.int p1)])) _
    refine XS.sipush X0.here hx rfl (hb hby d2_85) ?_
    show Steps p.tables e below (s₁.setTop (mkF m 88 #[.val (.int p1)] [(.int (248 : Int32)), (.int p1)])) _
    by_cases hP : p1 < (248 : Int32)
    · refine XS.icmpNo X0.here hx rfl (hb hby d2_88) rfl (tlt hP).2.1 ?_
      exact B91 (h.trans (if_pos hP))
    · refine XS.icmpYes X0.here hx rfl (pc0 := 88) (pc' := 93) rfl (hb hby d2_88) rfl (flt hP).2.1 (by decide) (by decide) ?_
      exact B93 (h.trans (if_neg hP))
  have B82 : own_2_0 p1 = own_2_82 p1 → Steps p.tables e below (s₁.setTop (mkF m 82 #[.val (.int p1)] [])) (s₁.setFrames fs) := fun h => by
    show Steps p.tables e below (s₁.setTop (mkF m 82 #[.val (.int p1)] [])) _
    refine XS.iconst X0.here hx rfl (hb hby d2_82) ?_
    show Steps p.tables e below (s₁.setTop (mkF m 83 #[.val (.int p1)] [(.int (1 : Int32))])) _
    have hk : own_2_0 p1 = (1 : Int32) := h
    rw [hk] at hr
    exact retN X0 hx (t := .boolean) Bd.returns (by simp) (hb hby d2_83) hr
  have B75 : own_2_0 p1 = own_2_75 p1 → Steps p.tables e below (s₁.setTop (mkF m 75 #[.val (.int p1)] [])) (s₁.setFrames fs) := fun h => by
    show Steps p.tables e below (s₁.setTop (mkF m 75 #[.val (.int p1)] [])) _
    refine XS.iloadN X0.here hx rfl (hb hby d2_75) rfl ?_
    show Steps p.tables e below (s₁.setTop (mkF m 76 #[.val (.int p1)] [(.int p1)])) _
    refine XS.sipush X0.here hx rfl (hb hby d2_76) ?_
    show Steps p.tables e below (s₁.setTop (mkF m 79 #[.val (.int p1)] [(.int (247 : Int32)), (.int p1)])) _
    by_cases hP : p1 < (247 : Int32)
    · refine XS.icmpNo X0.here hx rfl (hb hby d2_79) rfl (tlt hP).2.1 ?_
      exact B82 (h.trans (if_pos hP))
    · refine XS.icmpYes X0.here hx rfl (pc0 := 79) (pc' := 84) rfl (hb hby d2_79) rfl (flt hP).2.1 (by decide) (by decide) ?_
      exact B84 (h.trans (if_neg hP))
  have B73 : own_2_0 p1 = own_2_73 p1 → Steps p.tables e below (s₁.setTop (mkF m 73 #[.val (.int p1)] [])) (s₁.setFrames fs) := fun h => by
    show Steps p.tables e below (s₁.setTop (mkF m 73 #[.val (.int p1)] [])) _
    refine XS.iconst X0.here hx rfl (hb hby d2_73) ?_
    show Steps p.tables e below (s₁.setTop (mkF m 74 #[.val (.int p1)] [(.int (0 : Int32))])) _
    have hk : own_2_0 p1 = (0 : Int32) := h
    rw [hk] at hr
    exact retN X0 hx (t := .boolean) Bd.returns (by simp) (hb hby d2_74) hr
  have B66 : own_2_0 p1 = own_2_66 p1 → Steps p.tables e below (s₁.setTop (mkF m 66 #[.val (.int p1)] [])) (s₁.setFrames fs) := fun h => by
    show Steps p.tables e below (s₁.setTop (mkF m 66 #[.val (.int p1)] [])) _
    refine XS.iloadN X0.here hx rfl (hb hby d2_66) rfl ?_
    show Steps p.tables e below (s₁.setTop (mkF m 67 #[.val (.int p1)] [(.int p1)])) _
    refine XS.sipush X0.here hx rfl (hb hby d2_67) ?_
    show Steps p.tables e below (s₁.setTop (mkF m 70 #[.val (.int p1)] [(.int (216 : Int32)), (.int p1)])) _
    by_cases hP : p1 < (216 : Int32)
    · refine XS.icmpNo X0.here hx rfl (hb hby d2_70) rfl (tlt hP).2.1 ?_
      exact B73 (h.trans (if_pos hP))
    · refine XS.icmpYes X0.here hx rfl (pc0 := 70) (pc' := 75) rfl (hb hby d2_70) rfl (flt hP).2.1 (by decide) (by decide) ?_
      exact B75 (h.trans (if_neg hP))
  have B64 : own_2_0 p1 = own_2_64 p1 → Steps p.tables e below (s₁.setTop (mkF m 64 #[.val (.int p1)] [])) (s₁.setFrames fs) := fun h => by
    show Steps p.tables e below (s₁.setTop (mkF m 64 #[.val (.int p1)] [])) _
    refine XS.iconst X0.here hx rfl (hb hby d2_64) ?_
    show Steps p.tables e below (s₁.setTop (mkF m 65 #[.val (.int p1)] [(.int (1 : Int32))])) _
    have hk : own_2_0 p1 = (1 : Int32) := h
    rw [hk] at hr
    exact retN X0 hx (t := .boolean) Bd.returns (by simp) (hb hby d2_65) hr
  have B57 : own_2_0 p1 = own_2_57 p1 → Steps p.tables e below (s₁.setTop (mkF m 57 #[.val (.int p1)] [])) (s₁.setFrames fs) := fun h => by
    show Steps p.tables e below (s₁.setTop (mkF m 57 #[.val (.int p1)] [])) _
    refine XS.iloadN X0.here hx rfl (hb hby d2_57) rfl ?_
    show Steps p.tables e below (s₁.setTop (mkF m 58 #[.val (.int p1)] [(.int p1)])) _
    refine XS.sipush X0.here hx rfl (hb hby d2_58) ?_
    show Steps p.tables e below (s₁.setTop (mkF m 61 #[.val (.int p1)] [(.int (215 : Int32)), (.int p1)])) _
    by_cases hP : p1 < (215 : Int32)
    · refine XS.icmpNo X0.here hx rfl (hb hby d2_61) rfl (tlt hP).2.1 ?_
      exact B64 (h.trans (if_pos hP))
    · refine XS.icmpYes X0.here hx rfl (pc0 := 61) (pc' := 66) rfl (hb hby d2_61) rfl (flt hP).2.1 (by decide) (by decide) ?_
      exact B66 (h.trans (if_neg hP))
  have B55 : own_2_0 p1 = own_2_55 p1 → Steps p.tables e below (s₁.setTop (mkF m 55 #[.val (.int p1)] [])) (s₁.setFrames fs) := fun h => by
    show Steps p.tables e below (s₁.setTop (mkF m 55 #[.val (.int p1)] [])) _
    refine XS.iconst X0.here hx rfl (hb hby d2_55) ?_
    show Steps p.tables e below (s₁.setTop (mkF m 56 #[.val (.int p1)] [(.int (0 : Int32))])) _
    have hk : own_2_0 p1 = (0 : Int32) := h
    rw [hk] at hr
    exact retN X0 hx (t := .boolean) Bd.returns (by simp) (hb hby d2_56) hr
  have B48 : own_2_0 p1 = own_2_48 p1 → Steps p.tables e below (s₁.setTop (mkF m 48 #[.val (.int p1)] [])) (s₁.setFrames fs) := fun h => by
    show Steps p.tables e below (s₁.setTop (mkF m 48 #[.val (.int p1)] [])) _
    refine XS.iloadN X0.here hx rfl (hb hby d2_48) rfl ?_
    show Steps p.tables e below (s₁.setTop (mkF m 49 #[.val (.int p1)] [(.int p1)])) _
    refine XS.sipush X0.here hx rfl (hb hby d2_49) ?_
    show Steps p.tables e below (s₁.setTop (mkF m 52 #[.val (.int p1)] [(.int (192 : Int32)), (.int p1)])) _
    by_cases hP : p1 < (192 : Int32)
    · refine XS.icmpNo X0.here hx rfl (hb hby d2_52) rfl (tlt hP).2.1 ?_
      exact B55 (h.trans (if_pos hP))
    · refine XS.icmpYes X0.here hx rfl (pc0 := 52) (pc' := 57) rfl (hb hby d2_52) rfl (flt hP).2.1 (by decide) (by decide) ?_
      exact B57 (h.trans (if_neg hP))
  have B46 : own_2_0 p1 = own_2_46 p1 → Steps p.tables e below (s₁.setTop (mkF m 46 #[.val (.int p1)] [])) (s₁.setFrames fs) := fun h => by
    show Steps p.tables e below (s₁.setTop (mkF m 46 #[.val (.int p1)] [])) _
    refine XS.iconst X0.here hx rfl (hb hby d2_46) ?_
    show Steps p.tables e below (s₁.setTop (mkF m 47 #[.val (.int p1)] [(.int (1 : Int32))])) _
    have hk : own_2_0 p1 = (1 : Int32) := h
    rw [hk] at hr
    exact retN X0 hx (t := .boolean) Bd.returns (by simp) (hb hby d2_47) hr
  have B40 : own_2_0 p1 = own_2_40 p1 → Steps p.tables e below (s₁.setTop (mkF m 40 #[.val (.int p1)] [])) (s₁.setFrames fs) := fun h => by
    show Steps p.tables e below (s₁.setTop (mkF m 40 #[.val (.int p1)] [])) _
    refine XS.iloadN X0.here hx rfl (hb hby d2_40) rfl ?_
    show Steps p.tables e below (s₁.setTop (mkF m 41 #[.val (.int p1)] [(.int p1)])) _
    refine XS.bipush X0.here hx rfl (hb hby d2_41) ?_
    show Steps p.tables e below (s₁.setTop (mkF m 43 #[.val (.int p1)] [(.int (123 : Int32)), (.int p1)])) _
    by_cases hP : p1 < (123 : Int32)
    · refine XS.icmpNo X0.here hx rfl (hb hby d2_43) rfl (tlt hP).2.1 ?_
      exact B46 (h.trans (if_pos hP))
    · refine XS.icmpYes X0.here hx rfl (pc0 := 43) (pc' := 48) rfl (hb hby d2_43) rfl (flt hP).2.1 (by decide) (by decide) ?_
      exact B48 (h.trans (if_neg hP))
  have B38 : own_2_0 p1 = own_2_38 p1 → Steps p.tables e below (s₁.setTop (mkF m 38 #[.val (.int p1)] [])) (s₁.setFrames fs) := fun h => by
    show Steps p.tables e below (s₁.setTop (mkF m 38 #[.val (.int p1)] [])) _
    refine XS.iconst X0.here hx rfl (hb hby d2_38) ?_
    show Steps p.tables e below (s₁.setTop (mkF m 39 #[.val (.int p1)] [(.int (0 : Int32))])) _
    have hk : own_2_0 p1 = (0 : Int32) := h
    rw [hk] at hr
    exact retN X0 hx (t := .boolean) Bd.returns (by simp) (hb hby d2_39) hr
  have B32 : own_2_0 p1 = own_2_32 p1 → Steps p.tables e below (s₁.setTop (mkF m 32 #[.val (.int p1)] [])) (s₁.setFrames fs) := fun h => by
    show Steps p.tables e below (s₁.setTop (mkF m 32 #[.val (.int p1)] [])) _
    refine XS.iloadN X0.here hx rfl (hb hby d2_32) rfl ?_
    show Steps p.tables e below (s₁.setTop (mkF m 33 #[.val (.int p1)] [(.int p1)])) _
    refine XS.bipush X0.here hx rfl (hb hby d2_33) ?_
    show Steps p.tables e below (s₁.setTop (mkF m 35 #[.val (.int p1)] [(.int (97 : Int32)), (.int p1)])) _
    by_cases hP : p1 < (97 : Int32)
    · refine XS.icmpNo X0.here hx rfl (hb hby d2_35) rfl (tlt hP).2.1 ?_
      exact B38 (h.trans (if_pos hP))
    · refine XS.icmpYes X0.here hx rfl (pc0 := 35) (pc' := 40) rfl (hb hby d2_35) rfl (flt hP).2.1 (by decide) (by decide) ?_
      exact B40 (h.trans (if_neg hP))
  have B30 : own_2_0 p1 = own_2_30 p1 → Steps p.tables e below (s₁.setTop (mkF m 30 #[.val (.int p1)] [])) (s₁.setFrames fs) := fun h => by
    show Steps p.tables e below (s₁.setTop (mkF m 30 #[.val (.int p1)] [])) _
    refine XS.iconst X0.here hx rfl (hb hby d2_30) ?_
    show Steps p.tables e below (s₁.setTop (mkF m 31 #[.val (.int p1)] [(.int (1 : Int32))])) _
    have hk : own_2_0 p1 = (1 : Int32) := h
    rw [hk] at hr
    exact retN X0 hx (t := .boolean) Bd.returns (by simp) (hb hby d2_31) hr
  have B24 : own_2_0 p1 = own_2_24 p1 → Steps p.tables e below (s₁.setTop (mkF m 24 #[.val (.int p1)] [])) (s₁.setFrames fs) := fun h => by
    show Steps p.tables e below (s₁.setTop (mkF m 24 #[.val (.int p1)] [])) _
    refine XS.iloadN X0.here hx rfl (hb hby d2_24) rfl ?_
    show Steps p.tables e below (s₁.setTop (mkF m 25 #[.val (.int p1)] [(.int p1)])) _
    refine XS.bipush X0.here hx rfl (hb hby d2_25) ?_
    show Steps p.tables e below (s₁.setTop (mkF m 27 #[.val (.int p1)] [(.int (96 : Int32)), (.int p1)])) _
    by_cases hP : p1 < (96 : Int32)
    · refine XS.icmpNo X0.here hx rfl (hb hby d2_27) rfl (tlt hP).2.1 ?_
      exact B30 (h.trans (if_pos hP))
    · refine XS.icmpYes X0.here hx rfl (pc0 := 27) (pc' := 32) rfl (hb hby d2_27) rfl (flt hP).2.1 (by decide) (by decide) ?_
      exact B32 (h.trans (if_neg hP))
  have B22 : own_2_0 p1 = own_2_22 p1 → Steps p.tables e below (s₁.setTop (mkF m 22 #[.val (.int p1)] [])) (s₁.setFrames fs) := fun h => by
    show Steps p.tables e below (s₁.setTop (mkF m 22 #[.val (.int p1)] [])) _
    refine XS.iconst X0.here hx rfl (hb hby d2_22) ?_
    show Steps p.tables e below (s₁.setTop (mkF m 23 #[.val (.int p1)] [(.int (0 : Int32))])) _
    have hk : own_2_0 p1 = (0 : Int32) := h
    rw [hk] at hr
    exact retN X0 hx (t := .boolean) Bd.returns (by simp) (hb hby d2_23) hr
  have B16 : own_2_0 p1 = own_2_16 p1 → Steps p.tables e below (s₁.setTop (mkF m 16 #[.val (.int p1)] [])) (s₁.setFrames fs) := fun h => by
    show Steps p.tables e below (s₁.setTop (mkF m 16 #[.val (.int p1)] [])) _
    refine XS.iloadN X0.here hx rfl (hb hby d2_16) rfl ?_
    show Steps p.tables e below (s₁.setTop (mkF m 17 #[.val (.int p1)] [(.int p1)])) _
    refine XS.bipush X0.here hx rfl (hb hby d2_17) ?_
    show Steps p.tables e below (s₁.setTop (mkF m 19 #[.val (.int p1)] [(.int (95 : Int32)), (.int p1)])) _
    by_cases hP : p1 < (95 : Int32)
    · refine XS.icmpNo X0.here hx rfl (hb hby d2_19) rfl (tlt hP).2.1 ?_
      exact B22 (h.trans (if_pos hP))
    · refine XS.icmpYes X0.here hx rfl (pc0 := 19) (pc' := 24) rfl (hb hby d2_19) rfl (flt hP).2.1 (by decide) (by decide) ?_
      exact B24 (h.trans (if_neg hP))
  have B14 : own_2_0 p1 = own_2_14 p1 → Steps p.tables e below (s₁.setTop (mkF m 14 #[.val (.int p1)] [])) (s₁.setFrames fs) := fun h => by
    show Steps p.tables e below (s₁.setTop (mkF m 14 #[.val (.int p1)] [])) _
    refine XS.iconst X0.here hx rfl (hb hby d2_14) ?_
    show Steps p.tables e below (s₁.setTop (mkF m 15 #[.val (.int p1)] [(.int (1 : Int32))])) _
    have hk : own_2_0 p1 = (1 : Int32) := h
    rw [hk] at hr
    exact retN X0 hx (t := .boolean) Bd.returns (by simp) (hb hby d2_15) hr
  have B8 : own_2_0 p1 = own_2_8 p1 → Steps p.tables e below (s₁.setTop (mkF m 8 #[.val (.int p1)] [])) (s₁.setFrames fs) := fun h => by
    show Steps p.tables e below (s₁.setTop (mkF m 8 #[.val (.int p1)] [])) _
    refine XS.iloadN X0.here hx rfl (hb hby d2_8) rfl ?_
    show Steps p.tables e below (s₁.setTop (mkF m 9 #[.val (.int p1)] [(.int p1)])) _
    refine XS.bipush X0.here hx rfl (hb hby d2_9) ?_
    show Steps p.tables e below (s₁.setTop (mkF m 11 #[.val (.int p1)] [(.int (91 : Int32)), (.int p1)])) _
    by_cases hP : p1 < (91 : Int32)
    · refine XS.icmpNo X0.here hx rfl (hb hby d2_11) rfl (tlt hP).2.1 ?_
      exact B14 (h.trans (if_pos hP))
    · refine XS.icmpYes X0.here hx rfl (pc0 := 11) (pc' := 16) rfl (hb hby d2_11) rfl (flt hP).2.1 (by decide) (by decide) ?_
      exact B16 (h.trans (if_neg hP))
  have B6 : own_2_0 p1 = own_2_6 p1 → Steps p.tables e below (s₁.setTop (mkF m 6 #[.val (.int p1)] [])) (s₁.setFrames fs) := fun h => by
    show Steps p.tables e below (s₁.setTop (mkF m 6 #[.val (.int p1)] [])) _
    refine XS.iconst X0.here hx rfl (hb hby d2_6) ?_
    show Steps p.tables e below (s₁.setTop (mkF m 7 #[.val (.int p1)] [(.int (0 : Int32))])) _
    have hk : own_2_0 p1 = (0 : Int32) := h
    rw [hk] at hr
    exact retN X0 hx (t := .boolean) Bd.returns (by simp) (hb hby d2_7) hr
  have B0 : own_2_0 p1 = own_2_0 p1 → Steps p.tables e below (s₁.setTop (mkF m 0 #[.val (.int p1)] [])) (s₁.setFrames fs) := fun h => by
    show Steps p.tables e below (s₁.setTop (mkF m 0 #[.val (.int p1)] [])) _
    refine XS.iloadN X0.here hx rfl (hb hby d2_0) rfl ?_
    show Steps p.tables e below (s₁.setTop (mkF m 1 #[.val (.int p1)] [(.int p1)])) _
    refine XS.bipush X0.here hx rfl (hb hby d2_1) ?_
    show Steps p.tables e below (s₁.setTop (mkF m 3 #[.val (.int p1)] [(.int (65 : Int32)), (.int p1)])) _
    by_cases hP : p1 < (65 : Int32)
    · refine XS.icmpNo X0.here hx rfl (hb hby d2_3) rfl (tlt hP).2.1 ?_
      exact B6 (h.trans (if_pos hP))
    · refine XS.icmpYes X0.here hx rfl (pc0 := 3) (pc' := 8) rfl (hb hby d2_3) rfl (flt hP).2.1 (by decide) (by decide) ?_
      exact B8 (h.trans (if_neg hP))
  refine ⟨_, _, pre0 _ (B0 rfl), hrun, hended, _, _, rfl, ?_, ⟨_, rfl⟩, hW, hsame.mono (by decide) (by decide)⟩
  show Q2 Z p1 h0 n0 _ s₁.heap _
  rw [e0]
  exact ⟨rfl, N0, rfl⟩
theorem own_1_i_0 (c : Int32) : own_1_0 c = if 97 ≤ c.toInt ∧ c.toInt ≤ 122 then 1 else own_1_12 c := by
  simp only [own_1_0, own_1_6, own_1_191, Int32.lt_iff_toInt_lt, Int32.reduceToInt]
  repeat' split
  all_goals first | rfl | (exfalso; omega)
theorem own_1_i_12 (c : Int32) : own_1_12 c = if 65 ≤ c.toInt ∧ c.toInt ≤ 90 then 1 else own_1_24 c := by
  simp only [own_1_12, own_1_18, own_1_191, Int32.lt_iff_toInt_lt, Int32.reduceToInt]
  repeat' split
  all_goals first | rfl | (exfalso; omega)
theorem own_1_i_24 (c : Int32) : own_1_24 c = if 95 ≤ c.toInt ∧ c.toInt ≤ 95 then 1 else own_1_30 c := by
  simp only [own_1_24, own_1_191, ← Int32.toInt_inj (y := 95), Int32.reduceToInt]
  repeat' split
  all_goals first | rfl | (exfalso; omega)
theorem own_1_i_30 (c : Int32) : own_1_30 c = if 192 ≤ c.toInt ∧ c.toInt ≤ 214 then 1 else own_1_44 c := by
  simp only [own_1_30, own_1_37, own_1_191, Int32.lt_iff_toInt_lt, Int32.reduceToInt]
  repeat' split
  all_goals first | rfl | (exfalso; omega)
theorem own_1_i_44 (c : Int32) : own_1_44 c = if 216 ≤ c.toInt ∧ c.toInt ≤ 246 then 1 else own_1_58 c := by
  simp only [own_1_44, own_1_51, own_1_191, Int32.lt_iff_toInt_lt, Int32.reduceToInt]
  repeat' split
  all_goals first | rfl | (exfalso; omega)
theorem own_1_i_58 (c : Int32) : own_1_58 c = if 248 ≤ c.toInt ∧ c.toInt ≤ 767 then 1 else own_1_72 c := by
  simp only [own_1_58, own_1_65, own_1_191, Int32.lt_iff_toInt_lt, Int32.reduceToInt]
  repeat' split
  all_goals first | rfl | (exfalso; omega)
theorem own_1_i_72 (c : Int32) : own_1_72 c = if 880 ≤ c.toInt ∧ c.toInt ≤ 893 then 1 else own_1_86 c := by
  simp only [own_1_72, own_1_79, own_1_191, Int32.lt_iff_toInt_lt, Int32.reduceToInt]
  repeat' split
  all_goals first | rfl | (exfalso; omega)
theorem own_1_i_86 (c : Int32) : own_1_86 c = if 895 ≤ c.toInt ∧ c.toInt ≤ 8191 then 1 else own_1_100 c := by
  simp only [own_1_86, own_1_93, own_1_191, Int32.lt_iff_toInt_lt, Int32.reduceToInt]
  repeat' split
  all_goals first | rfl | (exfalso; omega)
theorem own_1_i_100 (c : Int32) : own_1_100 c = if 8204 ≤ c.toInt ∧ c.toInt ≤ 8205 then 1 else own_1_114 c := by
  simp only [own_1_100, own_1_107, own_1_191, Int32.lt_iff_toInt_lt, Int32.reduceToInt]
  repeat' split
  all_goals first | rfl | (exfalso; omega)
theorem own_1_i_114 (c : Int32) : own_1_114 c = if 8304 ≤ c.toInt ∧ c.toInt ≤ 8591 then 1 else own_1_128 c := by
  simp only [own_1_114, own_1_121, own_1_191, Int32.lt_iff_toInt_lt, Int32.reduceToInt]
  repeat' split
  all_goals first | rfl | (exfalso; omega)
theorem own_1_i_128 (c : Int32) : own_1_128 c = if 11264 ≤ c.toInt ∧ c.toInt ≤ 12271 then 1 else own_1_142 c := by
  simp only [own_1_128, own_1_135, own_1_191, Int32.lt_iff_toInt_lt, Int32.reduceToInt]
  repeat' split
  all_goals first | rfl | (exfalso; omega)
theorem own_1_i_142 (c : Int32) : own_1_142 c = if 12289 ≤ c.toInt ∧ c.toInt ≤ 55295 then 1 else own_1_155 c := by
  simp only [own_1_142, own_1_149, own_1_191, Int32.lt_iff_toInt_lt, Int32.reduceToInt]
  repeat' split
  all_goals first | rfl | (exfalso; omega)
theorem own_1_i_155 (c : Int32) : own_1_155 c = if 63744 ≤ c.toInt ∧ c.toInt ≤ 64975 then 1 else own_1_167 c := by
  simp only [own_1_155, own_1_161, own_1_191, Int32.lt_iff_toInt_lt, Int32.reduceToInt]
  repeat' split
  all_goals first | rfl | (exfalso; omega)
theorem own_1_i_167 (c : Int32) : own_1_167 c = if 65008 ≤ c.toInt ∧ c.toInt ≤ 65533 then 1 else own_1_179 c := by
  simp only [own_1_167, own_1_173, own_1_191, Int32.lt_iff_toInt_lt, Int32.reduceToInt]
  repeat' split
  all_goals first | rfl | (exfalso; omega)
theorem own_1_i_179 (c : Int32) : own_1_179 c = if 65536 ≤ c.toInt ∧ c.toInt ≤ 983039 then 1 else own_1_195 c := by
  simp only [own_1_179, own_1_185, own_1_191, Int32.lt_iff_toInt_lt, Int32.reduceToInt]
  repeat' split
  all_goals first | rfl | (exfalso; omega)
def own_f (z : Int) : Int32 := if 97 ≤ z ∧ z ≤ 122 then (1 : Int32) else if 65 ≤ z ∧ z ≤ 90 then (1 : Int32) else if 95 ≤ z ∧ z ≤ 95 then (1 : Int32) else if 192 ≤ z ∧ z ≤ 214 then (1 : Int32) else if 216 ≤ z ∧ z ≤ 246 then (1 : Int32) else if 248 ≤ z ∧ z ≤ 767 then (1 : Int32) else if 880 ≤ z ∧ z ≤ 893 then (1 : Int32) else if 895 ≤ z ∧ z ≤ 8191 then (1 : Int32) else if 8204 ≤ z ∧ z ≤ 8205 then (1 : Int32) else if 8304 ≤ z ∧ z ≤ 8591 then (1 : Int32) else if 11264 ≤ z ∧ z ≤ 12271 then (1 : Int32) else if 12289 ≤ z ∧ z ≤ 55295 then (1 : Int32) else if 63744 ≤ z ∧ z ≤ 64975 then (1 : Int32) else if 65008 ≤ z ∧ z ≤ 65533 then (1 : Int32) else if 65536 ≤ z ∧ z ≤ 983039 then (1 : Int32) else (0 : Int32)
def own_g (z : Int) : Int32 := if z < 65 then (0 : Int32) else if z < 91 then (1 : Int32) else if z < 95 then (0 : Int32) else if z < 96 then (1 : Int32) else if z < 97 then (0 : Int32) else if z < 123 then (1 : Int32) else if z < 192 then (0 : Int32) else if z < 215 then (1 : Int32) else if z < 216 then (0 : Int32) else if z < 247 then (1 : Int32) else if z < 248 then (0 : Int32) else if z < 768 then (1 : Int32) else if z < 880 then (0 : Int32) else if z < 894 then (1 : Int32) else if z < 895 then (0 : Int32) else if z < 8192 then (1 : Int32) else if z < 8204 then (0 : Int32) else if z < 8206 then (1 : Int32) else if z < 8304 then (0 : Int32) else if z < 8592 then (1 : Int32) else if z < 11264 then (0 : Int32) else if z < 12272 then (1 : Int32) else if z < 12289 then (0 : Int32) else if z < 55296 then (1 : Int32) else if z < 63744 then (0 : Int32) else if z < 64976 then (1 : Int32) else if z < 65008 then (0 : Int32) else if z < 65534 then (1 : Int32) else if z < 65536 then (0 : Int32) else if z < 983040 then (1 : Int32) else (0 : Int32)
theorem own_fe (c : Int32) : own_1_0 c = own_f c.toInt := by
  rw [own_1_i_0, own_1_i_12, own_1_i_24, own_1_i_30, own_1_i_44, own_1_i_58, own_1_i_72, own_1_i_86, own_1_i_100, own_1_i_114, own_1_i_128, own_1_i_142, own_1_i_155, own_1_i_167, own_1_i_179]; rfl
theorem own_ge (c : Int32) : own_2_0 c = own_g c.toInt := by
  simp only [own_g, own_2_259, own_2_255, own_2_249, own_2_247, own_2_241, own_2_239, own_2_233, own_2_231, own_2_225, own_2_223, own_2_217, own_2_215, own_2_209, own_2_207, own_2_201, own_2_199, own_2_192, own_2_190, own_2_183, own_2_181, own_2_174, own_2_172, own_2_165, own_2_163, own_2_156, own_2_154, own_2_147, own_2_145, own_2_138, own_2_136, own_2_129, own_2_127, own_2_120, own_2_118, own_2_111, own_2_109, own_2_102, own_2_100, own_2_93, own_2_91, own_2_84, own_2_82, own_2_75, own_2_73, own_2_66, own_2_64, own_2_57, own_2_55, own_2_48, own_2_46, own_2_40, own_2_38, own_2_32, own_2_30, own_2_24, own_2_22, own_2_16, own_2_14, own_2_8, own_2_6, own_2_0, Int32.lt_iff_toInt_lt, Int32.reduceToInt]
theorem own_r0 (z : Int) (h2 : z < 65) : own_f z = own_g z := by
  unfold own_f own_g
  rw [if_neg (show ¬ (97 ≤ z ∧ z ≤ 122) by omega), if_neg (show ¬ (65 ≤ z ∧ z ≤ 90) by omega), if_neg (show ¬ (95 ≤ z ∧ z ≤ 95) by omega), if_neg (show ¬ (192 ≤ z ∧ z ≤ 214) by omega), if_neg (show ¬ (216 ≤ z ∧ z ≤ 246) by omega), if_neg (show ¬ (248 ≤ z ∧ z ≤ 767) by omega), if_neg (show ¬ (880 ≤ z ∧ z ≤ 893) by omega), if_neg (show ¬ (895 ≤ z ∧ z ≤ 8191) by omega), if_neg (show ¬ (8204 ≤ z ∧ z ≤ 8205) by omega), if_neg (show ¬ (8304 ≤ z ∧ z ≤ 8591) by omega), if_neg (show ¬ (11264 ≤ z ∧ z ≤ 12271) by omega), if_neg (show ¬ (12289 ≤ z ∧ z ≤ 55295) by omega), if_neg (show ¬ (63744 ≤ z ∧ z ≤ 64975) by omega), if_neg (show ¬ (65008 ≤ z ∧ z ≤ 65533) by omega), if_neg (show ¬ (65536 ≤ z ∧ z ≤ 983039) by omega), if_pos (show z < 65 by omega)]
theorem own_r1 (z : Int) (h1 : 65 ≤ z) (h2 : z < 91) : own_f z = own_g z := by
  unfold own_f own_g
  rw [if_neg (show ¬ (97 ≤ z ∧ z ≤ 122) by omega), if_pos (show 65 ≤ z ∧ z ≤ 90 by omega), if_neg (show ¬ z < 65 by omega), if_pos (show z < 91 by omega)]
theorem own_r2 (z : Int) (h1 : 91 ≤ z) (h2 : z < 95) : own_f z = own_g z := by
  unfold own_f own_g
  rw [if_neg (show ¬ (97 ≤ z ∧ z ≤ 122) by omega), if_neg (show ¬ (65 ≤ z ∧ z ≤ 90) by omega), if_neg (show ¬ (95 ≤ z ∧ z ≤ 95) by omega), if_neg (show ¬ (192 ≤ z ∧ z ≤ 214) by omega), if_neg (show ¬ (216 ≤ z ∧ z ≤ 246) by omega), if_neg (show ¬ (248 ≤ z ∧ z ≤ 767) by omega), if_neg (show ¬ (880 ≤ z ∧ z ≤ 893) by omega), if_neg (show ¬ (895 ≤ z ∧ z ≤ 8191) by omega), if_neg (show ¬ (8204 ≤ z ∧ z ≤ 8205) by omega), if_neg (show ¬ (8304 ≤ z ∧ z ≤ 8591) by omega), if_neg (show ¬ (11264 ≤ z ∧ z ≤ 12271) by omega), if_neg (show ¬ (12289 ≤ z ∧ z ≤ 55295) by omega), if_neg (show ¬ (63744 ≤ z ∧ z ≤ 64975) by omega), if_neg (show ¬ (65008 ≤ z ∧ z ≤ 65533) by omega), if_neg (show ¬ (65536 ≤ z ∧ z ≤ 983039) by omega), if_neg (show ¬ z < 65 by omega), if_neg (show ¬ z < 91 by omega), if_pos (show z < 95 by omega)]
theorem own_r3 (z : Int) (h1 : 95 ≤ z) (h2 : z < 96) : own_f z = own_g z := by
  unfold own_f own_g
  rw [if_neg (show ¬ (97 ≤ z ∧ z ≤ 122) by omega), if_neg (show ¬ (65 ≤ z ∧ z ≤ 90) by omega), if_pos (show 95 ≤ z ∧ z ≤ 95 by omega), if_neg (show ¬ z < 65 by omega), if_neg (show ¬ z < 91 by omega), if_neg (show ¬ z < 95 by omega), if_pos (show z < 96 by omega)]
theorem own_r4 (z : Int) (h1 : 96 ≤ z) (h2 : z < 97) : own_f z = own_g z := by
  unfold own_f own_g
  rw [if_neg (show ¬ (97 ≤ z ∧ z ≤ 122) by omega), if_neg (show ¬ (65 ≤ z ∧ z ≤ 90) by omega), if_neg (show ¬ (95 ≤ z ∧ z ≤ 95) by omega), if_neg (show ¬ (192 ≤ z ∧ z ≤ 214) by omega), if_neg (show ¬ (216 ≤ z ∧ z ≤ 246) by omega), if_neg (show ¬ (248 ≤ z ∧ z ≤ 767) by omega), if_neg (show ¬ (880 ≤ z ∧ z ≤ 893) by omega), if_neg (show ¬ (895 ≤ z ∧ z ≤ 8191) by omega), if_neg (show ¬ (8204 ≤ z ∧ z ≤ 8205) by omega), if_neg (show ¬ (8304 ≤ z ∧ z ≤ 8591) by omega), if_neg (show ¬ (11264 ≤ z ∧ z ≤ 12271) by omega), if_neg (show ¬ (12289 ≤ z ∧ z ≤ 55295) by omega), if_neg (show ¬ (63744 ≤ z ∧ z ≤ 64975) by omega), if_neg (show ¬ (65008 ≤ z ∧ z ≤ 65533) by omega), if_neg (show ¬ (65536 ≤ z ∧ z ≤ 983039) by omega), if_neg (show ¬ z < 65 by omega), if_neg (show ¬ z < 91 by omega), if_neg (show ¬ z < 95 by omega), if_neg (show ¬ z < 96 by omega), if_pos (show z < 97 by omega)]
theorem own_r5 (z : Int) (h1 : 97 ≤ z) (h2 : z < 123) : own_f z = own_g z := by
  unfold own_f own_g
  rw [if_pos (show 97 ≤ z ∧ z ≤ 122 by omega), if_neg (show ¬ z < 65 by omega), if_neg (show ¬ z < 91 by omega), if_neg (show ¬ z < 95 by omega), if_neg (show ¬ z < 96 by omega), if_neg (show ¬ z < 97 by omega), if_pos (show z < 123 by omega)]
theorem own_r6 (z : Int) (h1 : 123 ≤ z) (h2 : z < 192) : own_f z = own_g z := by
  unfold own_f own_g
  rw [if_neg (show ¬ (97 ≤ z ∧ z ≤ 122) by omega), if_neg (show ¬ (65 ≤ z ∧ z ≤ 90) by omega), if_neg (show ¬ (95 ≤ z ∧ z ≤ 95) by omega), if_neg (show ¬ (192 ≤ z ∧ z ≤ 214) by omega), if_neg (show ¬ (216 ≤ z ∧ z ≤ 246) by omega), if_neg (show ¬ (248 ≤ z ∧ z ≤ 767) by omega), if_neg (show ¬ (880 ≤ z ∧ z ≤ 893) by omega), if_neg (show ¬ (895 ≤ z ∧ z ≤ 8191) by omega), if_neg (show ¬ (8204 ≤ z ∧ z ≤ 8205) by omega), if_neg (show ¬ (8304 ≤ z ∧ z ≤ 8591) by omega), if_neg (show ¬ (11264 ≤ z ∧ z ≤ 12271) by omega), if_neg (show ¬ (12289 ≤ z ∧ z ≤ 55295) by omega), if_neg (show ¬ (63744 ≤ z ∧ z ≤ 64975) by omega), if_neg (show ¬ (65008 ≤ z ∧ z ≤ 65533) by omega), if_neg (show ¬ (65536 ≤ z ∧ z ≤ 983039) by omega), if_neg (show ¬ z < 65 by omega), if_neg (show ¬ z < 91 by omega), if_neg (show ¬ z < 95 by omega), if_neg (show ¬ z < 96 by omega), if_neg (show ¬ z < 97 by omega), if_neg (show ¬ z < 123 by omega), if_pos (show z < 192 by omega)]
theorem own_r7 (z : Int) (h1 : 192 ≤ z) (h2 : z < 215) : own_f z = own_g z := by
  unfold own_f own_g
  rw [if_neg (show ¬ (97 ≤ z ∧ z ≤ 122) by omega), if_neg (show ¬ (65 ≤ z ∧ z ≤ 90) by omega), if_neg (show ¬ (95 ≤ z ∧ z ≤ 95) by omega), if_pos (show 192 ≤ z ∧ z ≤ 214 by omega), if_neg (show ¬ z < 65 by omega), if_neg (show ¬ z < 91 by omega), if_neg (show ¬ z < 95 by omega), if_neg (show ¬ z < 96 by omega), if_neg (show ¬ z < 97 by omega), if_neg (show ¬ z < 123 by omega), if_neg (show ¬ z < 192 by omega), if_pos (show z < 215 by omega)]
theorem own_r8 (z : Int) (h1 : 215 ≤ z) (h2 : z < 216) : own_f z = own_g z := by
  unfold own_f own_g
  rw [if_neg (show ¬ (97 ≤ z ∧ z ≤ 122) by omega), if_neg (show ¬ (65 ≤ z ∧ z ≤ 90) by omega), if_neg (show ¬ (95 ≤ z ∧ z ≤ 95) by omega), if_neg (show ¬ (192 ≤ z ∧ z ≤ 214) by omega), if_neg (show ¬ (216 ≤ z ∧ z ≤ 246) by omega), if_neg (show ¬ (248 ≤ z ∧ z ≤ 767) by omega), if_neg (show ¬ (880 ≤ z ∧ z ≤ 893) by omega), if_neg (show ¬ (895 ≤ z ∧ z ≤ 8191) by omega), if_neg (show ¬ (8204 ≤ z ∧ z ≤ 8205) by omega), if_neg (show ¬ (8304 ≤ z ∧ z ≤ 8591) by omega), if_neg (show ¬ (11264 ≤ z ∧ z ≤ 12271) by omega), if_neg (show ¬ (12289 ≤ z ∧ z ≤ 55295) by omega), if_neg (show ¬ (63744 ≤ z ∧ z ≤ 64975) by omega), if_neg (show ¬ (65008 ≤ z ∧ z ≤ 65533) by omega), if_neg (show ¬ (65536 ≤ z ∧ z ≤ 983039) by omega), if_neg (show ¬ z < 65 by omega), if_neg (show ¬ z < 91 by omega), if_neg (show ¬ z < 95 by omega), if_neg (show ¬ z < 96 by omega), if_neg (show ¬ z < 97 by omega), if_neg (show ¬ z < 123 by omega), if_neg (show ¬ z < 192 by omega), if_neg (show ¬ z < 215 by omega), if_pos (show z < 216 by omega)]
theorem own_r9 (z : Int) (h1 : 216 ≤ z) (h2 : z < 247) : own_f z = own_g z := by
  unfold own_f own_g
  rw [if_neg (show ¬ (97 ≤ z ∧ z ≤ 122) by omega), if_neg (show ¬ (65 ≤ z ∧ z ≤ 90) by omega), if_neg (show ¬ (95 ≤ z ∧ z ≤ 95) by omega), if_neg (show ¬ (192 ≤ z ∧ z ≤ 214) by omega), if_pos (show 216 ≤ z ∧ z ≤ 246 by omega), if_neg (show ¬ z < 65 by omega), if_neg (show ¬ z < 91 by omega), if_neg (show ¬ z < 95 by omega), if_neg (show ¬ z < 96 by omega), if_neg (show ¬ z < 97 by omega), if_neg (show ¬ z < 123 by omega), if_neg (show ¬ z < 192 by omega), if_neg (show ¬ z < 215 by omega), if_neg (show ¬ z < 216 by omega), if_pos (show z < 247 by omega)]
theorem own_r10 (z : Int) (h1 : 247 ≤ z) (h2 : z < 248) : own_f z = own_g z := by
  unfold own_f own_g
  rw [if_neg (show ¬ (97 ≤ z ∧ z ≤ 122) by omega), if_neg (show ¬ (65 ≤ z ∧ z ≤ 90) by omega), if_neg (show ¬ (95 ≤ z ∧ z ≤ 95) by omega), if_neg (show ¬ (192 ≤ z ∧ z ≤ 214) by omega), if_neg (show ¬ (216 ≤ z ∧ z ≤ 246) by omega), if_neg (show ¬ (248 ≤ z ∧ z ≤ 767) by omega), if_neg (show ¬ (880 ≤ z ∧ z ≤ 893) by omega), if_neg (show ¬ (895 ≤ z ∧ z ≤ 8191) by omega), if_neg (show ¬ (8204 ≤ z ∧ z ≤ 8205) by omega), if_neg (show ¬ (8304 ≤ z ∧ z ≤ 8591) by omega), if_neg (show ¬ (11264 ≤ z ∧ z ≤ 12271) by omega), if_neg (show ¬ (12289 ≤ z ∧ z ≤ 55295) by omega), if_neg (show ¬ (63744 ≤ z ∧ z ≤ 64975) by omega), if_neg (show ¬ (65008 ≤ z ∧ z ≤ 65533) by omega), if_neg (show ¬ (65536 ≤ z ∧ z ≤ 983039) by omega), if_neg (show ¬ z < 65 by omega), if_neg (show ¬ z < 91 by omega), if_neg (show ¬ z < 95 by omega), if_neg (show ¬ z < 96 by omega), if_neg (show ¬ z < 97 by omega), if_neg (show ¬ z < 123 by omega), if_neg (show ¬ z < 192 by omega), if_neg (show ¬ z < 215 by omega), if_neg (show ¬ z < 216 by omega), if_neg (show ¬ z < 247 by omega), if_pos (show z < 248 by omega)]
theorem own_r11 (z : Int) (h1 : 248 ≤ z) (h2 : z < 768) : own_f z = own_g z := by
  unfold own_f own_g
  rw [if_neg (show ¬ (97 ≤ z ∧ z ≤ 122) by omega), if_neg (show ¬ (65 ≤ z ∧ z ≤ 90) by omega), if_neg (show ¬ (95 ≤ z ∧ z ≤ 95) by omega), if_neg (show ¬ (192 ≤ z ∧ z ≤ 214) by omega), if_neg (show ¬ (216 ≤ z ∧ z ≤ 246) by omega), if_pos (show 248 ≤ z ∧ z ≤ 767 by omega), if_neg (show ¬ z < 65 by omega), if_neg (show ¬ z < 91 by omega), if_neg (show ¬ z < 95 by omega), if_neg (show ¬ z < 96 by omega), if_neg (show ¬ z < 97 by omega), if_neg (show ¬ z < 123 by omega), if_neg (show ¬ z < 192 by omega), if_neg (show ¬ z < 215 by omega), if_neg (show ¬ z < 216 by omega), if_neg (show ¬ z < 247 by omega), if_neg (show ¬ z < 248 by omega), if_pos (show z < 768 by omega)]
theorem own_r12 (z : Int) (h1 : 768 ≤ z) (h2 : z < 880) : own_f z = own_g z := by
  unfold own_f own_g
  rw [if_neg (show ¬ (97 ≤ z ∧ z ≤ 122) by omega), if_neg (show ¬ (65 ≤ z ∧ z ≤ 90) by omega), if_neg (show ¬ (95 ≤ z ∧ z ≤ 95) by omega), if_neg (show ¬ (192 ≤ z ∧ z ≤ 214) by omega), if_neg (show ¬ (216 ≤ z ∧ z ≤ 246) by omega), if_neg (show ¬ (248 ≤ z ∧ z ≤ 767) by omega), if_neg (show ¬ (880 ≤ z ∧ z ≤ 893) by omega), if_neg (show ¬ (895 ≤ z ∧ z ≤ 8191) by omega), if_neg (show ¬ (8204 ≤ z ∧ z ≤ 8205) by omega), if_neg (show ¬ (8304 ≤ z ∧ z ≤ 8591) by omega), if_neg (show ¬ (11264 ≤ z ∧ z ≤ 12271) by omega), if_neg (show ¬ (12289 ≤ z ∧ z ≤ 55295) by omega), if_neg (show ¬ (63744 ≤ z ∧ z ≤ 64975) by omega), if_neg (show ¬ (65008 ≤ z ∧ z ≤ 65533) by omega), if_neg (show ¬ (65536 ≤ z ∧ z ≤ 983039) by omega), if_neg (show ¬ z < 65 by omega), if_neg (show ¬ z < 91 by omega), if_neg (show ¬ z < 95 by omega), if_neg (show ¬ z < 96 by omega), if_neg (show ¬ z < 97 by omega), if_neg (show ¬ z < 123 by omega), if_neg (show ¬ z < 192 by omega), if_neg (show ¬ z < 215 by omega), if_neg (show ¬ z < 216 by omega), if_neg (show ¬ z < 247 by omega), if_neg (show ¬ z < 248 by omega), if_neg (show ¬ z < 768 by omega), if_pos (show z < 880 by omega)]
theorem own_r13 (z : Int) (h1 : 880 ≤ z) (h2 : z < 894) : own_f z = own_g z := by
  unfold own_f own_g
  rw [if_neg (show ¬ (97 ≤ z ∧ z ≤ 122) by omega), if_neg (show ¬ (65 ≤ z ∧ z ≤ 90) by omega), if_neg (show ¬ (95 ≤ z ∧ z ≤ 95) by omega), if_neg (show ¬ (192 ≤ z ∧ z ≤ 214) by omega), if_neg (show ¬ (216 ≤ z ∧ z ≤ 246) by omega), if_neg (show ¬ (248 ≤ z ∧ z ≤ 767) by omega), if_pos (show 880 ≤ z ∧ z ≤ 893 by omega), if_neg (show ¬ z < 65 by omega), if_neg (show ¬ z < 91 by omega), if_neg (show ¬ z < 95 by omega), if_neg (show ¬ z < 96 by omega), if_neg (show ¬ z < 97 by omega), if_neg (show ¬ z < 123 by omega), if_neg (show ¬ z < 192 by omega), if_neg (show ¬ z < 215 by omega), if_neg (show ¬ z < 216 by omega), if_neg (show ¬ z < 247 by omega), if_neg (show ¬ z < 248 by omega), if_neg (show ¬ z < 768 by omega), if_neg (show ¬ z < 880 by omega), if_pos (show z < 894 by omega)]
theorem own_r14 (z : Int) (h1 : 894 ≤ z) (h2 : z < 895) : own_f z = own_g z := by
  unfold own_f own_g
  rw [if_neg (show ¬ (97 ≤ z ∧ z ≤ 122) by omega), if_neg (show ¬ (65 ≤ z ∧ z ≤ 90) by omega), if_neg (show ¬ (95 ≤ z ∧ z ≤ 95) by omega), if_neg (show ¬ (192 ≤ z ∧ z ≤ 214) by omega), if_neg (show ¬ (216 ≤ z ∧ z ≤ 246) by omega), if_neg (show ¬ (248 ≤ z ∧ z ≤ 767) by omega), if_neg (show ¬ (880 ≤ z ∧ z ≤ 893) by omega), if_neg (show ¬ (895 ≤ z ∧ z ≤ 8191) by omega), if_neg (show ¬ (8204 ≤ z ∧ z ≤ 8205) by omega), if_neg (show ¬ (8304 ≤ z ∧ z ≤ 8591) by omega), if_neg (show ¬ (11264 ≤ z ∧ z ≤ 12271) by omega), if_neg (show ¬ (12289 ≤ z ∧ z ≤ 55295) by omega), if_neg (show ¬ (63744 ≤ z ∧ z ≤ 64975) by omega), if_neg (show ¬ (65008 ≤ z ∧ z ≤ 65533) by omega), if_neg (show ¬ (65536 ≤ z ∧ z ≤ 983039) by omega), if_neg (show ¬ z < 65 by omega), if_neg (show ¬ z < 91 by omega), if_neg (show ¬ z < 95 by omega), if_neg (show ¬ z < 96 by omega), if_neg (show ¬ z < 97 by omega), if_neg (show ¬ z < 123 by omega), if_neg (show ¬ z < 192 by omega), if_neg (show ¬ z < 215 by omega), if_neg (show ¬ z < 216 by omega), if_neg (show ¬ z < 247 by omega), if_neg (show ¬ z < 248 by omega), if_neg (show ¬ z < 768 by omega), if_neg (show ¬ z < 880 by omega), if_neg (show ¬ z < 894 by omega), if_pos (show z < 895 by omega)]
theorem own_r15 (z : Int) (h1 : 895 ≤ z) (h2 : z < 8192) : own_f z = own_g z := by
  unfold own_f own_g
  rw [if_neg (show ¬ (97 ≤ z ∧ z ≤ 122) by omega), if_neg (show ¬ (65 ≤ z ∧ z ≤ 90) by omega), if_neg (show ¬ (95 ≤ z ∧ z ≤ 95) by omega), if_neg (show ¬ (192 ≤ z ∧ z ≤ 214) by omega), if_neg (show ¬ (216 ≤ z ∧ z ≤ 246) by omega), if_neg (show ¬ (248 ≤ z ∧ z ≤ 767) by omega), if_neg (show ¬ (880 ≤ z ∧ z ≤ 893) by omega), if_pos (show 895 ≤ z ∧ z ≤ 8191 by omega), if_neg (show ¬ z < 65 by omega), if_neg (show ¬ z < 91 by omega), if_neg (show ¬ z < 95 by omega), if_neg (show ¬ z < 96 by omega), if_neg (show ¬ z < 97 by omega), if_neg (show ¬ z < 123 by omega), if_neg (show ¬ z < 192 by omega), if_neg (show ¬ z < 215 by omega), if_neg (show ¬ z < 216 by omega), if_neg (show ¬ z < 247 by omega), if_neg (show ¬ z < 248 by omega), if_neg (show ¬ z < 768 by omega), if_neg (show ¬ z < 880 by omega), if_neg (show ¬ z < 894 by omega), if_neg (show ¬ z < 895 by omega), if_pos (show z < 8192 by omega)]
theorem own_r16 (z : Int) (h1 : 8192 ≤ z) (h2 : z < 8204) : own_f z = own_g z := by
  unfold own_f own_g
  rw [if_neg (show ¬ (97 ≤ z ∧ z ≤ 122) by omega), if_neg (show ¬ (65 ≤ z ∧ z ≤ 90) by omega), if_neg (show ¬ (95 ≤ z ∧ z ≤ 95) by omega), if_neg (show ¬ (192 ≤ z ∧ z ≤ 214) by omega), if_neg (show ¬ (216 ≤ z ∧ z ≤ 246) by omega), if_neg (show ¬ (248 ≤ z ∧ z ≤ 767) by omega), if_neg (show ¬ (880 ≤ z ∧ z ≤ 893) by omega), if_neg (show ¬ (895 ≤ z ∧ z ≤ 8191) by omega), if_neg (show ¬ (8204 ≤ z ∧ z ≤ 8205) by omega), if_neg (show ¬ (8304 ≤ z ∧ z ≤ 8591) by omega), if_neg (show ¬ (11264 ≤ z ∧ z ≤ 12271) by omega), if_neg (show ¬ (12289 ≤ z ∧ z ≤ 55295) by omega), if_neg (show ¬ (63744 ≤ z ∧ z ≤ 64975) by omega), if_neg (show ¬ (65008 ≤ z ∧ z ≤ 65533) by omega), if_neg (show ¬ (65536 ≤ z ∧ z ≤ 983039) by omega), if_neg (show ¬ z < 65 by omega), if_neg (show ¬ z < 91 by omega), if_neg (show ¬ z < 95 by omega), if_neg (show ¬ z < 96 by omega), if_neg (show ¬ z < 97 by omega), if_neg (show ¬ z < 123 by omega), if_neg (show ¬ z < 192 by omega), if_neg (show ¬ z < 215 by omega), if_neg (show ¬ z < 216 by omega), if_neg (show ¬ z < 247 by omega), if_neg (show ¬ z < 248 by omega), if_neg (show ¬ z < 768 by omega), if_neg (show ¬ z < 880 by omega), if_neg (show ¬ z < 894 by omega), if_neg (show ¬ z < 895 by omega), if_neg (show ¬ z < 8192 by omega), if_pos (show z < 8204 by omega)]
theorem own_r17 (z : Int) (h1 : 8204 ≤ z) (h2 : z < 8206) : own_f z = own_g z := by
  unfold own_f own_g
  rw [if_neg (show ¬ (97 ≤ z ∧ z ≤ 122) by omega), if_neg (show ¬ (65 ≤ z ∧ z ≤ 90) by omega), if_neg (show ¬ (95 ≤ z ∧ z ≤ 95) by omega), if_neg (show ¬ (192 ≤ z ∧ z ≤ 214) by omega), if_neg (show ¬ (216 ≤ z ∧ z ≤ 246) by omega), if_neg (show ¬ (248 ≤ z ∧ z ≤ 767) by omega), if_neg (show ¬ (880 ≤ z ∧ z ≤ 893) by omega), if_neg (show ¬ (895 ≤ z ∧ z ≤ 8191) by omega), if_pos (show 8204 ≤ z ∧ z ≤ 8205 by omega), if_neg (show ¬ z < 65 by omega), if_neg (show ¬ z < 91 by omega), if_neg (show ¬ z < 95 by omega), if_neg (show ¬ z < 96 by omega), if_neg (show ¬ z < 97 by omega), if_neg (show ¬ z < 123 by omega), if_neg (show ¬ z < 192 by omega), if_neg (show ¬ z < 215 by omega), if_neg (show ¬ z < 216 by omega), if_neg (show ¬ z < 247 by omega), if_neg (show ¬ z < 248 by omega), if_neg (show ¬ z < 768 by omega), if_neg (show ¬ z < 880 by omega), if_neg (show ¬ z < 894 by omega), if_neg (show ¬ z < 895 by omega), if_neg (show ¬ z < 8192 by omega), if_neg (show ¬ z < 8204 by omega), if_pos (show z < 8206 by omega)]
theorem own_r18 (z : Int) (h1 : 8206 ≤ z) (h2 : z < 8304) : own_f z = own_g z := by
  unfold own_f own_g
  rw [if_neg (show ¬ (97 ≤ z ∧ z ≤ 122) by omega), if_neg (show ¬ (65 ≤ z ∧ z ≤ 90) by omega), if_neg (show ¬ (95 ≤ z ∧ z ≤ 95) by omega), if_neg (show ¬ (192 ≤ z ∧ z ≤ 214) by omega), if_neg (show ¬ (216 ≤ z ∧ z ≤ 246) by omega), if_neg (show ¬ (248 ≤ z ∧ z ≤ 767) by omega), if_neg (show ¬ (880 ≤ z ∧ z ≤ 893) by omega), if_neg (show ¬ (895 ≤ z ∧ z ≤ 8191) by omega), if_neg (show ¬ (8204 ≤ z ∧ z ≤ 8205) by omega), if_neg (show ¬ (8304 ≤ z ∧ z ≤ 8591) by omega), if_neg (show ¬ (11264 ≤ z ∧ z ≤ 12271) by omega), if_neg (show ¬ (12289 ≤ z ∧ z ≤ 55295) by omega), if_neg (show ¬ (63744 ≤ z ∧ z ≤ 64975) by omega), if_neg (show ¬ (65008 ≤ z ∧ z ≤ 65533) by omega), if_neg (show ¬ (65536 ≤ z ∧ z ≤ 983039) by omega), if_neg (show ¬ z < 65 by omega), if_neg (show ¬ z < 91 by omega), if_neg (show ¬ z < 95 by omega), if_neg (show ¬ z < 96 by omega), if_neg (show ¬ z < 97 by omega), if_neg (show ¬ z < 123 by omega), if_neg (show ¬ z < 192 by omega), if_neg (show ¬ z < 215 by omega), if_neg (show ¬ z < 216 by omega), if_neg (show ¬ z < 247 by omega), if_neg (show ¬ z < 248 by omega), if_neg (show ¬ z < 768 by omega), if_neg (show ¬ z < 880 by omega), if_neg (show ¬ z < 894 by omega), if_neg (show ¬ z < 895 by omega), if_neg (show ¬ z < 8192 by omega), if_neg (show ¬ z < 8204 by omega), if_neg (show ¬ z < 8206 by omega), if_pos (show z < 8304 by omega)]
theorem own_r19 (z : Int) (h1 : 8304 ≤ z) (h2 : z < 8592) : own_f z = own_g z := by
  unfold own_f own_g
  rw [if_neg (show ¬ (97 ≤ z ∧ z ≤ 122) by omega), if_neg (show ¬ (65 ≤ z ∧ z ≤ 90) by omega), if_neg (show ¬ (95 ≤ z ∧ z ≤ 95) by omega), if_neg (show ¬ (192 ≤ z ∧ z ≤ 214) by omega), if_neg (show ¬ (216 ≤ z ∧ z ≤ 246) by omega), if_neg (show ¬ (248 ≤ z ∧ z ≤ 767) by omega), if_neg (show ¬ (880 ≤ z ∧ z ≤ 893) by omega), if_neg (show ¬ (895 ≤ z ∧ z ≤ 8191) by omega), if_neg (show ¬ (8204 ≤ z ∧ z ≤ 8205) by omega), if_pos (show 8304 ≤ z ∧ z ≤ 8591 by omega), if_neg (show ¬ z < 65 by omega), if_neg (show ¬ z < 91 by omega), if_neg (show ¬ z < 95 by omega), if_neg (show ¬ z < 96 by omega), if_neg (show ¬ z < 97 by omega), if_neg (show ¬ z < 123 by omega), if_neg (show ¬ z < 192 by omega), if_neg (show ¬ z < 215 by omega), if_neg (show ¬ z < 216 by omega), if_neg (show ¬ z < 247 by omega), if_neg (show ¬ z < 248 by omega), if_neg (show ¬ z < 768 by omega), if_neg (show ¬ z < 880 by omega), if_neg (show ¬ z < 894 by omega), if_neg (show ¬ z < 895 by omega), if_neg (show ¬ z < 8192 by omega), if_neg (show ¬ z < 8204 by omega), if_neg (show ¬ z < 8206 by omega), if_neg (show ¬ z < 8304 by omega), if_pos (show z < 8592 by omega)]
theorem own_r20 (z : Int) (h1 : 8592 ≤ z) (h2 : z < 11264) : own_f z = own_g z := by
  unfold own_f own_g
  rw [if_neg (show ¬ (97 ≤ z ∧ z ≤ 122) by omega), if_neg (show ¬ (65 ≤ z ∧ z ≤ 90) by omega), if_neg (show ¬ (95 ≤ z ∧ z ≤ 95) by omega), if_neg (show ¬ (192 ≤ z ∧ z ≤ 214) by omega), if_neg (show ¬ (216 ≤ z ∧ z ≤ 246) by omega), if_neg (show ¬ (248 ≤ z ∧ z ≤ 767) by omega), if_neg (show ¬ (880 ≤ z ∧ z ≤ 893) by omega), if_neg (show ¬ (895 ≤ z ∧ z ≤ 8191) by omega), if_neg (show ¬ (8204 ≤ z ∧ z ≤ 8205) by omega), if_neg (show ¬ (8304 ≤ z ∧ z ≤ 8591) by omega), if_neg (show ¬ (11264 ≤ z ∧ z ≤ 12271) by omega), if_neg (show ¬ (12289 ≤ z ∧ z ≤ 55295) by omega), if_neg (show ¬ (63744 ≤ z ∧ z ≤ 64975) by omega), if_neg (show ¬ (65008 ≤ z ∧ z ≤ 65533) by omega), if_neg (show ¬ (65536 ≤ z ∧ z ≤ 983039) by omega), if_neg (show ¬ z < 65 by omega), if_neg (show ¬ z < 91 by omega), if_neg (show ¬ z < 95 by omega), if_neg (show ¬ z < 96 by omega), if_neg (show ¬ z < 97 by omega), if_neg (show ¬ z < 123 by omega), if_neg (show ¬ z < 192 by omega), if_neg (show ¬ z < 215 by omega), if_neg (show ¬ z < 216 by omega), if_neg (show ¬ z < 247 by omega), if_neg (show ¬ z < 248 by omega), if_neg (show ¬ z < 768 by omega), if_neg (show ¬ z < 880 by omega), if_neg (show ¬ z < 894 by omega), if_neg (show ¬ z < 895 by omega), if_neg (show ¬ z < 8192 by omega), if_neg (show ¬ z < 8204 by omega), if_neg (show ¬ z < 8206 by omega), if_neg (show ¬ z < 8304 by omega), if_neg (show ¬ z < 8592 by omega), if_pos (show z < 11264 by omega)]
theorem own_r21 (z : Int) (h1 : 11264 ≤ z) (h2 : z < 12272) : own_f z = own_g z := by
  unfold own_f own_g
  rw [if_neg (show ¬ (97 ≤ z ∧ z ≤ 122) by omega), if_neg (show ¬ (65 ≤ z ∧ z ≤ 90) by omega), if_neg (show ¬ (95 ≤ z ∧ z ≤ 95) by omega), if_neg (show ¬ (192 ≤ z ∧ z ≤ 214) by omega), if_neg (show ¬ (216 ≤ z ∧ z ≤ 246) by omega), if_neg (show ¬ (248 ≤ z ∧ z ≤ 767) by omega), if_neg (show ¬ (880 ≤ z ∧ z ≤ 893) by omega), if_neg (show ¬ (895 ≤ z ∧ z ≤ 8191) by omega), if_neg (show ¬ (8204 ≤ z ∧ z ≤ 8205) by omega), if_neg (show ¬ (8304 ≤ z ∧ z ≤ 8591) by omega), if_pos (show 11264 ≤ z ∧ z ≤ 12271 by omega), if_neg (show ¬ z < 65 by omega), if_neg (show ¬ z < 91 by omega), if_neg (show ¬ z < 95 by omega), if_neg (show ¬ z < 96 by omega), if_neg (show ¬ z < 97 by omega), if_neg (show ¬ z < 123 by omega), if_neg (show ¬ z < 192 by omega), if_neg (show ¬ z < 215 by omega), if_neg (show ¬ z < 216 by omega), if_neg (show ¬ z < 247 by omega), if_neg (show ¬ z < 248 by omega), if_neg (show ¬ z < 768 by omega), if_neg (show ¬ z < 880 by omega), if_neg (show ¬ z < 894 by omega), if_neg (show ¬ z < 895 by omega), if_neg (show ¬ z < 8192 by omega), if_neg (show ¬ z < 8204 by omega), if_neg (show ¬ z < 8206 by omega), if_neg (show ¬ z < 8304 by omega), if_neg (show ¬ z < 8592 by omega), if_neg (show ¬ z < 11264 by omega), if_pos (show z < 12272 by omega)]
theorem own_r22 (z : Int) (h1 : 12272 ≤ z) (h2 : z < 12289) : own_f z = own_g z := by
  unfold own_f own_g
  rw [if_neg (show ¬ (97 ≤ z ∧ z ≤ 122) by omega), if_neg (show ¬ (65 ≤ z ∧ z ≤ 90) by omega), if_neg (show ¬ (95 ≤ z ∧ z ≤ 95) by omega), if_neg (show ¬ (192 ≤ z ∧ z ≤ 214) by omega), if_neg (show ¬ (216 ≤ z ∧ z ≤ 246) by omega), if_neg (show ¬ (248 ≤ z ∧ z ≤ 767) by omega), if_neg (show ¬ (880 ≤ z ∧ z ≤ 893) by omega), if_neg (show ¬ (895 ≤ z ∧ z ≤ 8191) by omega), if_neg (show ¬ (8204 ≤ z ∧ z ≤ 8205) by omega), if_neg (show ¬ (8304 ≤ z ∧ z ≤ 8591) by omega), if_neg (show ¬ (11264 ≤ z ∧ z ≤ 12271) by omega), if_neg (show ¬ (12289 ≤ z ∧ z ≤ 55295) by omega), if_neg (show ¬ (63744 ≤ z ∧ z ≤ 64975) by omega), if_neg (show ¬ (65008 ≤ z ∧ z ≤ 65533) by omega), if_neg (show ¬ (65536 ≤ z ∧ z ≤ 983039) by omega), if_neg (show ¬ z < 65 by omega), if_neg (show ¬ z < 91 by omega), if_neg (show ¬ z < 95 by omega), if_neg (show ¬ z < 96 by omega), if_neg (show ¬ z < 97 by omega), if_neg (show ¬ z < 123 by omega), if_neg (show ¬ z < 192 by omega), if_neg (show ¬ z < 215 by omega), if_neg (show ¬ z < 216 by omega), if_neg (show ¬ z < 247 by omega), if_neg (show ¬ z < 248 by omega), if_neg (show ¬ z < 768 by omega), if_neg (show ¬ z < 880 by omega), if_neg (show ¬ z < 894 by omega), if_neg (show ¬ z < 895 by omega), if_neg (show ¬ z < 8192 by omega), if_neg (show ¬ z < 8204 by omega), if_neg (show ¬ z < 8206 by omega), if_neg (show ¬ z < 8304 by omega), if_neg (show ¬ z < 8592 by omega), if_neg (show ¬ z < 11264 by omega), if_neg (show ¬ z < 12272 by omega), if_pos (show z < 12289 by omega)]
theorem own_r23 (z : Int) (h1 : 12289 ≤ z) (h2 : z < 55296) : own_f z = own_g z := by
  unfold own_f own_g
  rw [if_neg (show ¬ (97 ≤ z ∧ z ≤ 122) by omega), if_neg (show ¬ (65 ≤ z ∧ z ≤ 90) by omega), if_neg (show ¬ (95 ≤ z ∧ z ≤ 95) by omega), if_neg (show ¬ (192 ≤ z ∧ z ≤ 214) by omega), if_neg (show ¬ (216 ≤ z ∧ z ≤ 246) by omega), if_neg (show ¬ (248 ≤ z ∧ z ≤ 767) by omega), if_neg (show ¬ (880 ≤ z ∧ z ≤ 893) by omega), if_neg (show ¬ (895 ≤ z ∧ z ≤ 8191) by omega), if_neg (show ¬ (8204 ≤ z ∧ z ≤ 8205) by omega), if_neg (show ¬ (8304 ≤ z ∧ z ≤ 8591) by omega), if_neg (show ¬ (11264 ≤ z ∧ z ≤ 12271) by omega), if_pos (show 12289 ≤ z ∧ z ≤ 55295 by omega), if_neg (show ¬ z < 65 by omega), if_neg (show ¬ z < 91 by omega), if_neg (show ¬ z < 95 by omega), if_neg (show ¬ z < 96 by omega), if_neg (show ¬ z < 97 by omega), if_neg (show ¬ z < 123 by omega), if_neg (show ¬ z < 192 by omega), if_neg (show ¬ z < 215 by omega), if_neg (show ¬ z < 216 by omega), if_neg (show ¬ z < 247 by omega), if_neg (show ¬ z < 248 by omega), if_neg (show ¬ z < 768 by omega), if_neg (show ¬ z < 880 by omega), if_neg (show ¬ z < 894 by omega), if_neg (show ¬ z < 895 by omega), if_neg (show ¬ z < 8192 by omega), if_neg (show ¬ z < 8204 by omega), if_neg (show ¬ z < 8206 by omega), if_neg (show ¬ z < 8304 by omega), if_neg (show ¬ z < 8592 by omega), if_neg (show ¬ z < 11264 by omega), if_neg (show ¬ z < 12272 by omega), if_neg (show ¬ z < 12289 by omega), if_pos (show z < 55296 by omega)]
theorem own_r24 (z : Int) (h1 : 55296 ≤ z) (h2 : z < 63744) : own_f z = own_g z := by
  unfold own_f own_g
  rw [if_neg (show ¬ (97 ≤ z ∧ z ≤ 122) by omega), if_neg (show ¬ (65 ≤ z ∧ z ≤ 90) by omega), if_neg (show ¬ (95 ≤ z ∧ z ≤ 95) by omega), if_neg (show ¬ (192 ≤ z ∧ z ≤ 214) by omega), if_neg (show ¬ (216 ≤ z ∧ z ≤ 246) by omega), if_neg (show ¬ (248 ≤ z ∧ z ≤ 767) by omega), if_neg (show ¬ (880 ≤ z ∧ z ≤ 893) by omega), if_neg (show ¬ (895 ≤ z ∧ z ≤ 8191) by omega), if_neg (show ¬ (8204 ≤ z ∧ z ≤ 8205) by omega), if_neg (show ¬ (8304 ≤ z ∧ z ≤ 8591) by omega), if_neg (show ¬ (11264 ≤ z ∧ z ≤ 12271) by omega), if_neg (show ¬ (12289 ≤ z ∧ z ≤ 55295) by omega), if_neg (show ¬ (63744 ≤ z ∧ z ≤ 64975) by omega), if_neg (show ¬ (65008 ≤ z ∧ z ≤ 65533) by omega), if_neg (show ¬ (65536 ≤ z ∧ z ≤ 983039) by omega), if_neg (show ¬ z < 65 by omega), if_neg (show ¬ z < 91 by omega), if_neg (show ¬ z < 95 by omega), if_neg (show ¬ z < 96 by omega), if_neg (show ¬ z < 97 by omega), if_neg (show ¬ z < 123 by omega), if_neg (show ¬ z < 192 by omega), if_neg (show ¬ z < 215 by omega), if_neg (show ¬ z < 216 by omega), if_neg (show ¬ z < 247 by omega), if_neg (show ¬ z < 248 by omega), if_neg (show ¬ z < 768 by omega), if_neg (show ¬ z < 880 by omega), if_neg (show ¬ z < 894 by omega), if_neg (show ¬ z < 895 by omega), if_neg (show ¬ z < 8192 by omega), if_neg (show ¬ z < 8204 by omega), if_neg (show ¬ z < 8206 by omega), if_neg (show ¬ z < 8304 by omega), if_neg (show ¬ z < 8592 by omega), if_neg (show ¬ z < 11264 by omega), if_neg (show ¬ z < 12272 by omega), if_neg (show ¬ z < 12289 by omega), if_neg (show ¬ z < 55296 by omega), if_pos (show z < 63744 by omega)]
theorem own_r25 (z : Int) (h1 : 63744 ≤ z) (h2 : z < 64976) : own_f z = own_g z := by
  unfold own_f own_g
  rw [if_neg (show ¬ (97 ≤ z ∧ z ≤ 122) by omega), if_neg (show ¬ (65 ≤ z ∧ z ≤ 90) by omega), if_neg (show ¬ (95 ≤ z ∧ z ≤ 95) by omega), if_neg (show ¬ (192 ≤ z ∧ z ≤ 214) by omega), if_neg (show ¬ (216 ≤ z ∧ z ≤ 246) by omega), if_neg (show ¬ (248 ≤ z ∧ z ≤ 767) by omega), if_neg (show ¬ (880 ≤ z ∧ z ≤ 893) by omega), if_neg (show ¬ (895 ≤ z ∧ z ≤ 8191) by omega), if_neg (show ¬ (8204 ≤ z ∧ z ≤ 8205) by omega), if_neg (show ¬ (8304 ≤ z ∧ z ≤ 8591) by omega), if_neg (show ¬ (11264 ≤ z ∧ z ≤ 12271) by omega), if_neg (show ¬ (12289 ≤ z ∧ z ≤ 55295) by omega), if_pos (show 63744 ≤ z ∧ z ≤ 64975 by omega), if_neg (show ¬ z < 65 by omega), if_neg (show ¬ z < 91 by omega), if_neg (show ¬ z < 95 by omega), if_neg (show ¬ z < 96 by omega), if_neg (show ¬ z < 97 by omega), if_neg (show ¬ z < 123 by omega), if_neg (show ¬ z < 192 by omega), if_neg (show ¬ z < 215 by omega), if_neg (show ¬ z < 216 by omega), if_neg (show ¬ z < 247 by omega), if_neg (show ¬ z < 248 by omega), if_neg (show ¬ z < 768 by omega), if_neg (show ¬ z < 880 by omega), if_neg (show ¬ z < 894 by omega), if_neg (show ¬ z < 895 by omega), if_neg (show ¬ z < 8192 by omega), if_neg (show ¬ z < 8204 by omega), if_neg (show ¬ z < 8206 by omega), if_neg (show ¬ z < 8304 by omega), if_neg (show ¬ z < 8592 by omega), if_neg (show ¬ z < 11264 by omega), if_neg (show ¬ z < 12272 by omega), if_neg (show ¬ z < 12289 by omega), if_neg (show ¬ z < 55296 by omega), if_neg (show ¬ z < 63744 by omega), if_pos (show z < 64976 by omega)]
theorem own_r26 (z : Int) (h1 : 64976 ≤ z) (h2 : z < 65008) : own_f z = own_g z := by
  unfold own_f own_g
  rw [if_neg (show ¬ (97 ≤ z ∧ z ≤ 122) by omega), if_neg (show ¬ (65 ≤ z ∧ z ≤ 90) by omega), if_neg (show ¬ (95 ≤ z ∧ z ≤ 95) by omega), if_neg (show ¬ (192 ≤ z ∧ z ≤ 214) by omega), if_neg (show ¬ (216 ≤ z ∧ z ≤ 246) by omega), if_neg (show ¬ (248 ≤ z ∧ z ≤ 767) by omega), if_neg (show ¬ (880 ≤ z ∧ z ≤ 893) by omega), if_neg (show ¬ (895 ≤ z ∧ z ≤ 8191) by omega), if_neg (show ¬ (8204 ≤ z ∧ z ≤ 8205) by omega), if_neg (show ¬ (8304 ≤ z ∧ z ≤ 8591) by omega), if_neg (show ¬ (11264 ≤ z ∧ z ≤ 12271) by omega), if_neg (show ¬ (12289 ≤ z ∧ z ≤ 55295) by omega), if_neg (show ¬ (63744 ≤ z ∧ z ≤ 64975) by omega), if_neg (show ¬ (65008 ≤ z ∧ z ≤ 65533) by omega), if_neg (show ¬ (65536 ≤ z ∧ z ≤ 983039) by omega), if_neg (show ¬ z < 65 by omega), if_neg (show ¬ z < 91 by omega), if_neg (show ¬ z < 95 by omega), if_neg (show ¬ z < 96 by omega), if_neg (show ¬ z < 97 by omega), if_neg (show ¬ z < 123 by omega), if_neg (show ¬ z < 192 by omega), if_neg (show ¬ z < 215 by omega), if_neg (show ¬ z < 216 by omega), if_neg (show ¬ z < 247 by omega), if_neg (show ¬ z < 248 by omega), if_neg (show ¬ z < 768 by omega), if_neg (show ¬ z < 880 by omega), if_neg (show ¬ z < 894 by omega), if_neg (show ¬ z < 895 by omega), if_neg (show ¬ z < 8192 by omega), if_neg (show ¬ z < 8204 by omega), if_neg (show ¬ z < 8206 by omega), if_neg (show ¬ z < 8304 by omega), if_neg (show ¬ z < 8592 by omega), if_neg (show ¬ z < 11264 by omega), if_neg (show ¬ z < 12272 by omega), if_neg (show ¬ z < 12289 by omega), if_neg (show ¬ z < 55296 by omega), if_neg (show ¬ z < 63744 by omega), if_neg (show ¬ z < 64976 by omega), if_pos (show z < 65008 by omega)]
theorem own_r27 (z : Int) (h1 : 65008 ≤ z) (h2 : z < 65534) : own_f z = own_g z := by
  unfold own_f own_g
  rw [if_neg (show ¬ (97 ≤ z ∧ z ≤ 122) by omega), if_neg (show ¬ (65 ≤ z ∧ z ≤ 90) by omega), if_neg (show ¬ (95 ≤ z ∧ z ≤ 95) by omega), if_neg (show ¬ (192 ≤ z ∧ z ≤ 214) by omega), if_neg (show ¬ (216 ≤ z ∧ z ≤ 246) by omega), if_neg (show ¬ (248 ≤ z ∧ z ≤ 767) by omega), if_neg (show ¬ (880 ≤ z ∧ z ≤ 893) by omega), if_neg (show ¬ (895 ≤ z ∧ z ≤ 8191) by omega), if_neg (show ¬ (8204 ≤ z ∧ z ≤ 8205) by omega), if_neg (show ¬ (8304 ≤ z ∧ z ≤ 8591) by omega), if_neg (show ¬ (11264 ≤ z ∧ z ≤ 12271) by omega), if_neg (show ¬ (12289 ≤ z ∧ z ≤ 55295) by omega), if_neg (show ¬ (63744 ≤ z ∧ z ≤ 64975) by omega), if_pos (show 65008 ≤ z ∧ z ≤ 65533 by omega), if_neg (show ¬ z < 65 by omega), if_neg (show ¬ z < 91 by omega), if_neg (show ¬ z < 95 by omega), if_neg (show ¬ z < 96 by omega), if_neg (show ¬ z < 97 by omega), if_neg (show ¬ z < 123 by omega), if_neg (show ¬ z < 192 by omega), if_neg (show ¬ z < 215 by omega), if_neg (show ¬ z < 216 by omega), if_neg (show ¬ z < 247 by omega), if_neg (show ¬ z < 248 by omega), if_neg (show ¬ z < 768 by omega), if_neg (show ¬ z < 880 by omega), if_neg (show ¬ z < 894 by omega), if_neg (show ¬ z < 895 by omega), if_neg (show ¬ z < 8192 by omega), if_neg (show ¬ z < 8204 by omega), if_neg (show ¬ z < 8206 by omega), if_neg (show ¬ z < 8304 by omega), if_neg (show ¬ z < 8592 by omega), if_neg (show ¬ z < 11264 by omega), if_neg (show ¬ z < 12272 by omega), if_neg (show ¬ z < 12289 by omega), if_neg (show ¬ z < 55296 by omega), if_neg (show ¬ z < 63744 by omega), if_neg (show ¬ z < 64976 by omega), if_neg (show ¬ z < 65008 by omega), if_pos (show z < 65534 by omega)]
theorem own_r28 (z : Int) (h1 : 65534 ≤ z) (h2 : z < 65536) : own_f z = own_g z := by
  unfold own_f own_g
  rw [if_neg (show ¬ (97 ≤ z ∧ z ≤ 122) by omega), if_neg (show ¬ (65 ≤ z ∧ z ≤ 90) by omega), if_neg (show ¬ (95 ≤ z ∧ z ≤ 95) by omega), if_neg (show ¬ (192 ≤ z ∧ z ≤ 214) by omega), if_neg (show ¬ (216 ≤ z ∧ z ≤ 246) by omega), if_neg (show ¬ (248 ≤ z ∧ z ≤ 767) by omega), if_neg (show ¬ (880 ≤ z ∧ z ≤ 893) by omega), if_neg (show ¬ (895 ≤ z ∧ z ≤ 8191) by omega), if_neg (show ¬ (8204 ≤ z ∧ z ≤ 8205) by omega), if_neg (show ¬ (8304 ≤ z ∧ z ≤ 8591) by omega), if_neg (show ¬ (11264 ≤ z ∧ z ≤ 12271) by omega), if_neg (show ¬ (12289 ≤ z ∧ z ≤ 55295) by omega), if_neg (show ¬ (63744 ≤ z ∧ z ≤ 64975) by omega), if_neg (show ¬ (65008 ≤ z ∧ z ≤ 65533) by omega), if_neg (show ¬ (65536 ≤ z ∧ z ≤ 983039) by omega), if_neg (show ¬ z < 65 by omega), if_neg (show ¬ z < 91 by omega), if_neg (show ¬ z < 95 by omega), if_neg (show ¬ z < 96 by omega), if_neg (show ¬ z < 97 by omega), if_neg (show ¬ z < 123 by omega), if_neg (show ¬ z < 192 by omega), if_neg (show ¬ z < 215 by omega), if_neg (show ¬ z < 216 by omega), if_neg (show ¬ z < 247 by omega), if_neg (show ¬ z < 248 by omega), if_neg (show ¬ z < 768 by omega), if_neg (show ¬ z < 880 by omega), if_neg (show ¬ z < 894 by omega), if_neg (show ¬ z < 895 by omega), if_neg (show ¬ z < 8192 by omega), if_neg (show ¬ z < 8204 by omega), if_neg (show ¬ z < 8206 by omega), if_neg (show ¬ z < 8304 by omega), if_neg (show ¬ z < 8592 by omega), if_neg (show ¬ z < 11264 by omega), if_neg (show ¬ z < 12272 by omega), if_neg (show ¬ z < 12289 by omega), if_neg (show ¬ z < 55296 by omega), if_neg (show ¬ z < 63744 by omega), if_neg (show ¬ z < 64976 by omega), if_neg (show ¬ z < 65008 by omega), if_neg (show ¬ z < 65534 by omega), if_pos (show z < 65536 by omega)]
theorem own_r29 (z : Int) (h1 : 65536 ≤ z) (h2 : z < 983040) : own_f z = own_g z := by
  unfold own_f own_g
  rw [if_neg (show ¬ (97 ≤ z ∧ z ≤ 122) by omega), if_neg (show ¬ (65 ≤ z ∧ z ≤ 90) by omega), if_neg (show ¬ (95 ≤ z ∧ z ≤ 95) by omega), if_neg (show ¬ (192 ≤ z ∧ z ≤ 214) by omega), if_neg (show ¬ (216 ≤ z ∧ z ≤ 246) by omega), if_neg (show ¬ (248 ≤ z ∧ z ≤ 767) by omega), if_neg (show ¬ (880 ≤ z ∧ z ≤ 893) by omega), if_neg (show ¬ (895 ≤ z ∧ z ≤ 8191) by omega), if_neg (show ¬ (8204 ≤ z ∧ z ≤ 8205) by omega), if_neg (show ¬ (8304 ≤ z ∧ z ≤ 8591) by omega), if_neg (show ¬ (11264 ≤ z ∧ z ≤ 12271) by omega), if_neg (show ¬ (12289 ≤ z ∧ z ≤ 55295) by omega), if_neg (show ¬ (63744 ≤ z ∧ z ≤ 64975) by omega), if_neg (show ¬ (65008 ≤ z ∧ z ≤ 65533) by omega), if_pos (show 65536 ≤ z ∧ z ≤ 983039 by omega), if_neg (show ¬ z < 65 by omega), if_neg (show ¬ z < 91 by omega), if_neg (show ¬ z < 95 by omega), if_neg (show ¬ z < 96 by omega), if_neg (show ¬ z < 97 by omega), if_neg (show ¬ z < 123 by omega), if_neg (show ¬ z < 192 by omega), if_neg (show ¬ z < 215 by omega), if_neg (show ¬ z < 216 by omega), if_neg (show ¬ z < 247 by omega), if_neg (show ¬ z < 248 by omega), if_neg (show ¬ z < 768 by omega), if_neg (show ¬ z < 880 by omega), if_neg (show ¬ z < 894 by omega), if_neg (show ¬ z < 895 by omega), if_neg (show ¬ z < 8192 by omega), if_neg (show ¬ z < 8204 by omega), if_neg (show ¬ z < 8206 by omega), if_neg (show ¬ z < 8304 by omega), if_neg (show ¬ z < 8592 by omega), if_neg (show ¬ z < 11264 by omega), if_neg (show ¬ z < 12272 by omega), if_neg (show ¬ z < 12289 by omega), if_neg (show ¬ z < 55296 by omega), if_neg (show ¬ z < 63744 by omega), if_neg (show ¬ z < 64976 by omega), if_neg (show ¬ z < 65008 by omega), if_neg (show ¬ z < 65534 by omega), if_neg (show ¬ z < 65536 by omega), if_pos (show z < 983040 by omega)]
theorem own_r30 (z : Int) (h1 : 983040 ≤ z) : own_f z = own_g z := by
  unfold own_f own_g
  rw [if_neg (show ¬ (97 ≤ z ∧ z ≤ 122) by omega), if_neg (show ¬ (65 ≤ z ∧ z ≤ 90) by omega), if_neg (show ¬ (95 ≤ z ∧ z ≤ 95) by omega), if_neg (show ¬ (192 ≤ z ∧ z ≤ 214) by omega), if_neg (show ¬ (216 ≤ z ∧ z ≤ 246) by omega), if_neg (show ¬ (248 ≤ z ∧ z ≤ 767) by omega), if_neg (show ¬ (880 ≤ z ∧ z ≤ 893) by omega), if_neg (show ¬ (895 ≤ z ∧ z ≤ 8191) by omega), if_neg (show ¬ (8204 ≤ z ∧ z ≤ 8205) by omega), if_neg (show ¬ (8304 ≤ z ∧ z ≤ 8591) by omega), if_neg (show ¬ (11264 ≤ z ∧ z ≤ 12271) by omega), if_neg (show ¬ (12289 ≤ z ∧ z ≤ 55295) by omega), if_neg (show ¬ (63744 ≤ z ∧ z ≤ 64975) by omega), if_neg (show ¬ (65008 ≤ z ∧ z ≤ 65533) by omega), if_neg (show ¬ (65536 ≤ z ∧ z ≤ 983039) by omega), if_neg (show ¬ z < 65 by omega), if_neg (show ¬ z < 91 by omega), if_neg (show ¬ z < 95 by omega), if_neg (show ¬ z < 96 by omega), if_neg (show ¬ z < 97 by omega), if_neg (show ¬ z < 123 by omega), if_neg (show ¬ z < 192 by omega), if_neg (show ¬ z < 215 by omega), if_neg (show ¬ z < 216 by omega), if_neg (show ¬ z < 247 by omega), if_neg (show ¬ z < 248 by omega), if_neg (show ¬ z < 768 by omega), if_neg (show ¬ z < 880 by omega), if_neg (show ¬ z < 894 by omega), if_neg (show ¬ z < 895 by omega), if_neg (show ¬ z < 8192 by omega), if_neg (show ¬ z < 8204 by omega), if_neg (show ¬ z < 8206 by omega), if_neg (show ¬ z < 8304 by omega), if_neg (show ¬ z < 8592 by omega), if_neg (show ¬ z < 11264 by omega), if_neg (show ¬ z < 12272 by omega), if_neg (show ¬ z < 12289 by omega), if_neg (show ¬ z < 55296 by omega), if_neg (show ¬ z < 63744 by omega), if_neg (show ¬ z < 64976 by omega), if_neg (show ¬ z < 65008 by omega), if_neg (show ¬ z < 65534 by omega), if_neg (show ¬ z < 65536 by omega), if_neg (show ¬ z < 983040 by omega)]
theorem own_same (c : Int32) : own_1_0 c = own_2_0 c := by
  rw [own_fe, own_ge]
  generalize c.toInt = z
  by_cases h1 : z < 65
  · exact own_r0 z h1
  by_cases h2 : z < 91
  · exact own_r1 z (by omega) h2
  by_cases h3 : z < 95
  · exact own_r2 z (by omega) h3
  by_cases h4 : z < 96
  · exact own_r3 z (by omega) h4
  by_cases h5 : z < 97
  · exact own_r4 z (by omega) h5
  by_cases h6 : z < 123
  · exact own_r5 z (by omega) h6
  by_cases h7 : z < 192
  · exact own_r6 z (by omega) h7
  by_cases h8 : z < 215
  · exact own_r7 z (by omega) h8
  by_cases h9 : z < 216
  · exact own_r8 z (by omega) h9
  by_cases h10 : z < 247
  · exact own_r9 z (by omega) h10
  by_cases h11 : z < 248
  · exact own_r10 z (by omega) h11
  by_cases h12 : z < 768
  · exact own_r11 z (by omega) h12
  by_cases h13 : z < 880
  · exact own_r12 z (by omega) h13
  by_cases h14 : z < 894
  · exact own_r13 z (by omega) h14
  by_cases h15 : z < 895
  · exact own_r14 z (by omega) h15
  by_cases h16 : z < 8192
  · exact own_r15 z (by omega) h16
  by_cases h17 : z < 8204
  · exact own_r16 z (by omega) h17
  by_cases h18 : z < 8206
  · exact own_r17 z (by omega) h18
  by_cases h19 : z < 8304
  · exact own_r18 z (by omega) h19
  by_cases h20 : z < 8592
  · exact own_r19 z (by omega) h20
  by_cases h21 : z < 11264
  · exact own_r20 z (by omega) h21
  by_cases h22 : z < 12272
  · exact own_r21 z (by omega) h22
  by_cases h23 : z < 12289
  · exact own_r22 z (by omega) h23
  by_cases h24 : z < 55296
  · exact own_r23 z (by omega) h24
  by_cases h25 : z < 63744
  · exact own_r24 z (by omega) h25
  by_cases h26 : z < 64976
  · exact own_r25 z (by omega) h26
  by_cases h27 : z < 65008
  · exact own_r26 z (by omega) h27
  by_cases h28 : z < 65534
  · exact own_r27 z (by omega) h28
  by_cases h29 : z < 65536
  · exact own_r28 z (by omega) h29
  by_cases h30 : z < 983040
  · exact own_r29 z (by omega) h30
  exact own_r30 z (by omega)
theorem pn_0 : plainName "com/example/keyref/keyref/model/XmlCharsIsNameStartCharPinLaw" = true := by first | (simp [plainName, overriddenIn]; done) | decide +kernel
theorem pd_0_0 : parseMethodDescriptor "(I)Z" = some ⟨[.int], some .boolean⟩ := by decide +kernel
theorem ef_0 (m : MethodId) (x0 : Int32) (x1 : Int32) (x2 : Int32) (x3 : Int32) : entryFrame m #[(.int x0), (.int x1), (.int x2), (.int x3)] maxLocals = mkF m 0 #[.val (.int x0), .val (.int x1), .val (.int x2), .val (.int x3), .unset, .unset, .unset, .unset, .unset, .unset] [] := by first | (simp [entryFrame, mkF, argsToLocals, Value.category, maxLocals]; done) | rfl
def Q0 (Z : State) (p1 : Int32) (p2 : Int32) (p3 : Int32) (p4 : Int32) (h0 : Heap) (n0 : Nat) (v : Option Value) (h : Heap) (L : List Loc) : Prop := v = some (.int (1 : Int32)) ∧ Fr n0 L
set_option maxRecDepth 65536 in
set_option maxHeartbeats 40000000 in
theorem rm0 (l : Launch) (Z : State) (a0 : Array Value) (hw : ∀ d ∈ tables_1, d.before a0 Z = true) (ws : List Jvm.Cond) (p1 : Int32) (p2 : Int32) (p3 : Int32) (p4 : Int32) (h0 : Heap) (n0 : Nat) (Z0 : n0 ≤ h0.size) :
    MetFree l x (head1 (Jvm.Cond.code x code maxLocals ret :: ws) room_1) (fun a U => a = #[(.int p1), (.int p2), (.int p3), (.int p4)] ∧ Z.Warmed39 U.vm ∧ U.heap = h0) (fun _ _ _ _ _ => True) (fun _ U o U' => ∃ v L, o = .returned v ∧ Q0 Z p1 p2 p3 p4 h0 n0 v U'.heap L ∧ FrameEnd U o U' L room_1.cells room_1.slots) := by
  refine MetFree.of_bodySF (plainFor_of_name pn_0) hisR ?_
  intro p e s m args below meth c s₁ Bd hml0 hP hK
  obtain ⟨rfl, hZ, hh⟩ := hP
  have hx := Bd.exec
  have hby := Bd.bytes
  have hml : c.maxLocals = 10 := hml0
  have hown : s.vm.findClass "com/example/keyref/keyref/model/XmlCharsIsNameStartCharPinLaw" = some m.cls := findClass_of_methodNamed Bd.named
  have hnm := (name_of_methodNamed Bd.named Bd.method).1
  have X0 : Stand p l e room_1 s m #[(.int p1), (.int p2), (.int p3), (.int p4)] below meth c s₁ [] 0 0 := Stand.of_body Bd
  have e0 : s₁.heap = h0 := by rw [← hh, Bd.state]; rfl
  have N0 := Fr.nil n0
  have pre0 : ∀ t, Steps p.tables e below (s₁.setTop (mkF m 0 #[.val (.int p1), .val (.int p2), .val (.int p3), .val (.int p4), .unset, .unset, .unset, .unset, .unset, .unset] [])) t → Steps p.tables e below (s₁.setTop (entryFrame m #[(.int p1), (.int p2), (.int p3), (.int p4)] maxLocals)) t := fun t k => castTop (ef_0 m p1 p2 p3 p4) k
  obtain ⟨T5, h5, k5, X5, e5, E5, A5, st5⟩ := newP X0 hx hZ (hw _ (List.mem_of_getElem? (i := 0) rfl)) e0 (g := (mkF m 2 #[.val (.int p1), .val (.int p2), .val (.int p3), .val (.int p4), .unset, .unset, .unset, .unset, .unset, .unset] [(.int (32 : Int32))])) rfl (hb hby at_2) rfl (by decide) (cap := 32) (by decide) (by decide) (by decide) (by decide)
  obtain ⟨b5, g5⟩ : ∃ z, z = h0.size := ⟨_, rfl⟩
  rw [← g5] at A5 st5
  have V_b5 : Arv Z h5 b5 k5 .int (32 : Int32) [(.int (0 : Int32)), (.int (0 : Int32)), (.int (0 : Int32)), (.int (0 : Int32)), (.int (0 : Int32)), (.int (0 : Int32)), (.int (0 : Int32)), (.int (0 : Int32)), (.int (0 : Int32)), (.int (0 : Int32)), (.int (0 : Int32)), (.int (0 : Int32)), (.int (0 : Int32)), (.int (0 : Int32)), (.int (0 : Int32)), (.int (0 : Int32)), (.int (0 : Int32)), (.int (0 : Int32)), (.int (0 : Int32)), (.int (0 : Int32)), (.int (0 : Int32)), (.int (0 : Int32)), (.int (0 : Int32)), (.int (0 : Int32)), (.int (0 : Int32)), (.int (0 : Int32)), (.int (0 : Int32)), (.int (0 : Int32)), (.int (0 : Int32)), (.int (0 : Int32)), (.int (0 : Int32)), (.int (0 : Int32))] (.int (0 : Int32)) := (Arv.new A5 (by decide)).pad (pad_rep [] (.int (0 : Int32)) 32)
  obtain ⟨vs5, hl5, V_b5⟩ : ∃ vs : List Value, vs.length = 32 ∧ Arv Z h5 b5 k5 .int (32 : Int32) vs (.int (0 : Int32)) := ⟨_, rfl, V_b5⟩
  have g_b5 : n0 ≤ b5 := Nat.le_trans Z0 (Nat.le_of_eq g5.symm)
  have sz_b5 : h0.size ≤ b5 := (Nat.le_trans (Keep.refl h0 []).1 (Nat.le_of_eq g5.symm))
  have K5 : Keep h0 h5 [] := (Keep.refl h0 []).ext E5
  obtain ⟨cl_b5_7, Ar_b5, q_b5, S_b5, N_b5, H_b5, G_b5⟩ := V_b5
  have hin7 : ¬ ((0 : Int32) < 0 ∨ cl_b5_7.slots.size ≤ ((0 : Int32)).toNatClampNeg) := inb_of S_b5 ⟨by decide, by decide⟩
  obtain ⟨T6, h6, X6, e6, W6, st6⟩ := stI X5 hx hZ e5 Ar_b5 (j := (0 : Int32)) hin7 (g := (mkF m 7 #[.val (.int p1), .val (.int p2), .val (.int p3), .val (.int p4), .unset, .unset, .unset, .unset, .unset, .unset] [(.int (0 : Int32)), (.int (0 : Int32)), (.ref b5), (.ref b5)])) rfl rfl (hb hby at_7)
  obtain ⟨vs6, hl6, V_b5_6⟩ := own_aset Ar_b5 q_b5 S_b5 N_b5 H_b5 G_b5 rfl W6 0 rfl hl5 (by decide)
  have K6 : Keep h0 h6 [] := K5.wr W6 (Or.inr sz_b5)
  have N6 := Fr.snoc X6 N0 g_b5
  obtain ⟨lo6, X6, N6⟩ : ∃ lo : List Loc, Stand p l e room_1 s m #[(.int p1), (.int p2), (.int p3), (.int p4)] below meth c T6 lo 1 32 ∧ Fr n0 lo := ⟨_, X6, N6⟩
  obtain ⟨cl_b5_12, Ar_b5, q_b5, S_b5, N_b5, H_b5, G_b5⟩ := V_b5_6
  have hin12 : ¬ ((1 : Int32) < 0 ∨ cl_b5_12.slots.size ≤ ((1 : Int32)).toNatClampNeg) := inb_of S_b5 ⟨by decide, by decide⟩
  obtain ⟨T7, h7, X7, e7, W7, st7⟩ := stI X6 hx hZ e6 Ar_b5 (j := (1 : Int32)) hin12 (g := (mkF m 12 #[.val (.int p1), .val (.int p2), .val (.int p3), .val (.int p4), .unset, .unset, .unset, .unset, .unset, .unset] [(.int (58 : Int32)), (.int (1 : Int32)), (.ref b5), (.ref b5)])) rfl rfl (hb hby at_12)
  obtain ⟨vs7, hl7, V_b5_7⟩ := own_aset Ar_b5 q_b5 S_b5 N_b5 H_b5 G_b5 rfl W7 1 rfl hl6 (by decide)
  have K7 : Keep h0 h7 [] := K6.wr W7 (Or.inr sz_b5)
  have N7 := Fr.snoc X7 N6 g_b5
  obtain ⟨lo7, X7, N7⟩ : ∃ lo : List Loc, Stand p l e room_1 s m #[(.int p1), (.int p2), (.int p3), (.int p4)] below meth c T7 lo 1 32 ∧ Fr n0 lo := ⟨_, X7, N7⟩
  obtain ⟨cl_b5_17, Ar_b5, q_b5, S_b5, N_b5, H_b5, G_b5⟩ := V_b5_7
  have hin17 : ¬ ((2 : Int32) < 0 ∨ cl_b5_17.slots.size ≤ ((2 : Int32)).toNatClampNeg) := inb_of S_b5 ⟨by decide, by decide⟩
  obtain ⟨T8, h8, X8, e8, W8, st8⟩ := stI X7 hx hZ e7 Ar_b5 (j := (2 : Int32)) hin17 (g := (mkF m 17 #[.val (.int p1), .val (.int p2), .val (.int p3), .val (.int p4), .unset, .unset, .unset, .unset, .unset, .unset] [(.int (65 : Int32)), (.int (2 : Int32)), (.ref b5), (.ref b5)])) rfl rfl (hb hby at_17)
  obtain ⟨vs8, hl8, V_b5_8⟩ := own_aset Ar_b5 q_b5 S_b5 N_b5 H_b5 G_b5 rfl W8 2 rfl hl7 (by decide)
  have K8 : Keep h0 h8 [] := K7.wr W8 (Or.inr sz_b5)
  have N8 := Fr.snoc X8 N7 g_b5
  obtain ⟨lo8, X8, N8⟩ : ∃ lo : List Loc, Stand p l e room_1 s m #[(.int p1), (.int p2), (.int p3), (.int p4)] below meth c T8 lo 1 32 ∧ Fr n0 lo := ⟨_, X8, N8⟩
  obtain ⟨cl_b5_22, Ar_b5, q_b5, S_b5, N_b5, H_b5, G_b5⟩ := V_b5_8
  have hin22 : ¬ ((3 : Int32) < 0 ∨ cl_b5_22.slots.size ≤ ((3 : Int32)).toNatClampNeg) := inb_of S_b5 ⟨by decide, by decide⟩
  obtain ⟨T9, h9, X9, e9, W9, st9⟩ := stI X8 hx hZ e8 Ar_b5 (j := (3 : Int32)) hin22 (g := (mkF m 22 #[.val (.int p1), .val (.int p2), .val (.int p3), .val (.int p4), .unset, .unset, .unset, .unset, .unset, .unset] [(.int (91 : Int32)), (.int (3 : Int32)), (.ref b5), (.ref b5)])) rfl rfl (hb hby at_22)
  obtain ⟨vs9, hl9, V_b5_9⟩ := own_aset Ar_b5 q_b5 S_b5 N_b5 H_b5 G_b5 rfl W9 3 rfl hl8 (by decide)
  have K9 : Keep h0 h9 [] := K8.wr W9 (Or.inr sz_b5)
  have N9 := Fr.snoc X9 N8 g_b5
  obtain ⟨lo9, X9, N9⟩ : ∃ lo : List Loc, Stand p l e room_1 s m #[(.int p1), (.int p2), (.int p3), (.int p4)] below meth c T9 lo 1 32 ∧ Fr n0 lo := ⟨_, X9, N9⟩
  obtain ⟨cl_b5_27, Ar_b5, q_b5, S_b5, N_b5, H_b5, G_b5⟩ := V_b5_9
  have hin27 : ¬ ((4 : Int32) < 0 ∨ cl_b5_27.slots.size ≤ ((4 : Int32)).toNatClampNeg) := inb_of S_b5 ⟨by decide, by decide⟩
  obtain ⟨T10, h10, X10, e10, W10, st10⟩ := stI X9 hx hZ e9 Ar_b5 (j := (4 : Int32)) hin27 (g := (mkF m 27 #[.val (.int p1), .val (.int p2), .val (.int p3), .val (.int p4), .unset, .unset, .unset, .unset, .unset, .unset] [(.int (95 : Int32)), (.int (4 : Int32)), (.ref b5), (.ref b5)])) rfl rfl (hb hby at_27)
  obtain ⟨vs10, hl10, V_b5_10⟩ := own_aset Ar_b5 q_b5 S_b5 N_b5 H_b5 G_b5 rfl W10 4 rfl hl9 (by decide)
  have K10 : Keep h0 h10 [] := K9.wr W10 (Or.inr sz_b5)
  have N10 := Fr.snoc X10 N9 g_b5
  obtain ⟨lo10, X10, N10⟩ : ∃ lo : List Loc, Stand p l e room_1 s m #[(.int p1), (.int p2), (.int p3), (.int p4)] below meth c T10 lo 1 32 ∧ Fr n0 lo := ⟨_, X10, N10⟩
  obtain ⟨cl_b5_32, Ar_b5, q_b5, S_b5, N_b5, H_b5, G_b5⟩ := V_b5_10
  have hin32 : ¬ ((5 : Int32) < 0 ∨ cl_b5_32.slots.size ≤ ((5 : Int32)).toNatClampNeg) := inb_of S_b5 ⟨by decide, by decide⟩
  obtain ⟨T11, h11, X11, e11, W11, st11⟩ := stI X10 hx hZ e10 Ar_b5 (j := (5 : Int32)) hin32 (g := (mkF m 32 #[.val (.int p1), .val (.int p2), .val (.int p3), .val (.int p4), .unset, .unset, .unset, .unset, .unset, .unset] [(.int (96 : Int32)), (.int (5 : Int32)), (.ref b5), (.ref b5)])) rfl rfl (hb hby at_32)
  obtain ⟨vs11, hl11, V_b5_11⟩ := own_aset Ar_b5 q_b5 S_b5 N_b5 H_b5 G_b5 rfl W11 5 rfl hl10 (by decide)
  have K11 : Keep h0 h11 [] := K10.wr W11 (Or.inr sz_b5)
  have N11 := Fr.snoc X11 N10 g_b5
  obtain ⟨lo11, X11, N11⟩ : ∃ lo : List Loc, Stand p l e room_1 s m #[(.int p1), (.int p2), (.int p3), (.int p4)] below meth c T11 lo 1 32 ∧ Fr n0 lo := ⟨_, X11, N11⟩
  obtain ⟨cl_b5_38, Ar_b5, q_b5, S_b5, N_b5, H_b5, G_b5⟩ := V_b5_11
  have hin38 : ¬ ((6 : Int32) < 0 ∨ cl_b5_38.slots.size ≤ ((6 : Int32)).toNatClampNeg) := inb_of S_b5 ⟨by decide, by decide⟩
  obtain ⟨T12, h12, X12, e12, W12, st12⟩ := stI X11 hx hZ e11 Ar_b5 (j := (6 : Int32)) hin38 (g := (mkF m 38 #[.val (.int p1), .val (.int p2), .val (.int p3), .val (.int p4), .unset, .unset, .unset, .unset, .unset, .unset] [(.int (97 : Int32)), (.int (6 : Int32)), (.ref b5), (.ref b5)])) rfl rfl (hb hby at_38)
  obtain ⟨vs12, hl12, V_b5_12⟩ := own_aset Ar_b5 q_b5 S_b5 N_b5 H_b5 G_b5 rfl W12 6 rfl hl11 (by decide)
  have K12 : Keep h0 h12 [] := K11.wr W12 (Or.inr sz_b5)
  have N12 := Fr.snoc X12 N11 g_b5
  obtain ⟨lo12, X12, N12⟩ : ∃ lo : List Loc, Stand p l e room_1 s m #[(.int p1), (.int p2), (.int p3), (.int p4)] below meth c T12 lo 1 32 ∧ Fr n0 lo := ⟨_, X12, N12⟩
  obtain ⟨cl_b5_44, Ar_b5, q_b5, S_b5, N_b5, H_b5, G_b5⟩ := V_b5_12
  have hin44 : ¬ ((7 : Int32) < 0 ∨ cl_b5_44.slots.size ≤ ((7 : Int32)).toNatClampNeg) := inb_of S_b5 ⟨by decide, by decide⟩
  obtain ⟨T13, h13, X13, e13, W13, st13⟩ := stI X12 hx hZ e12 Ar_b5 (j := (7 : Int32)) hin44 (g := (mkF m 44 #[.val (.int p1), .val (.int p2), .val (.int p3), .val (.int p4), .unset, .unset, .unset, .unset, .unset, .unset] [(.int (123 : Int32)), (.int (7 : Int32)), (.ref b5), (.ref b5)])) rfl rfl (hb hby at_44)
  obtain ⟨vs13, hl13, V_b5_13⟩ := own_aset Ar_b5 q_b5 S_b5 N_b5 H_b5 G_b5 rfl W13 7 rfl hl12 (by decide)
  have K13 : Keep h0 h13 [] := K12.wr W13 (Or.inr sz_b5)
  have N13 := Fr.snoc X13 N12 g_b5
  obtain ⟨lo13, X13, N13⟩ : ∃ lo : List Loc, Stand p l e room_1 s m #[(.int p1), (.int p2), (.int p3), (.int p4)] below meth c T13 lo 1 32 ∧ Fr n0 lo := ⟨_, X13, N13⟩
  obtain ⟨cl_b5_51, Ar_b5, q_b5, S_b5, N_b5, H_b5, G_b5⟩ := V_b5_13
  have hin51 : ¬ ((8 : Int32) < 0 ∨ cl_b5_51.slots.size ≤ ((8 : Int32)).toNatClampNeg) := inb_of S_b5 ⟨by decide, by decide⟩
  obtain ⟨T14, h14, X14, e14, W14, st14⟩ := stI X13 hx hZ e13 Ar_b5 (j := (8 : Int32)) hin51 (g := (mkF m 51 #[.val (.int p1), .val (.int p2), .val (.int p3), .val (.int p4), .unset, .unset, .unset, .unset, .unset, .unset] [(.int (192 : Int32)), (.int (8 : Int32)), (.ref b5), (.ref b5)])) rfl rfl (hb hby at_51)
  obtain ⟨vs14, hl14, V_b5_14⟩ := own_aset Ar_b5 q_b5 S_b5 N_b5 H_b5 G_b5 rfl W14 8 rfl hl13 (by decide)
  have K14 : Keep h0 h14 [] := K13.wr W14 (Or.inr sz_b5)
  have N14 := Fr.snoc X14 N13 g_b5
  obtain ⟨lo14, X14, N14⟩ : ∃ lo : List Loc, Stand p l e room_1 s m #[(.int p1), (.int p2), (.int p3), (.int p4)] below meth c T14 lo 1 32 ∧ Fr n0 lo := ⟨_, X14, N14⟩
  obtain ⟨cl_b5_58, Ar_b5, q_b5, S_b5, N_b5, H_b5, G_b5⟩ := V_b5_14
  have hin58 : ¬ ((9 : Int32) < 0 ∨ cl_b5_58.slots.size ≤ ((9 : Int32)).toNatClampNeg) := inb_of S_b5 ⟨by decide, by decide⟩
  obtain ⟨T15, h15, X15, e15, W15, st15⟩ := stI X14 hx hZ e14 Ar_b5 (j := (9 : Int32)) hin58 (g := (mkF m 58 #[.val (.int p1), .val (.int p2), .val (.int p3), .val (.int p4), .unset, .unset, .unset, .unset, .unset, .unset] [(.int (215 : Int32)), (.int (9 : Int32)), (.ref b5), (.ref b5)])) rfl rfl (hb hby at_58)
  obtain ⟨vs15, hl15, V_b5_15⟩ := own_aset Ar_b5 q_b5 S_b5 N_b5 H_b5 G_b5 rfl W15 9 rfl hl14 (by decide)
  have K15 : Keep h0 h15 [] := K14.wr W15 (Or.inr sz_b5)
  have N15 := Fr.snoc X15 N14 g_b5
  obtain ⟨lo15, X15, N15⟩ : ∃ lo : List Loc, Stand p l e room_1 s m #[(.int p1), (.int p2), (.int p3), (.int p4)] below meth c T15 lo 1 32 ∧ Fr n0 lo := ⟨_, X15, N15⟩
  obtain ⟨cl_b5_65, Ar_b5, q_b5, S_b5, N_b5, H_b5, G_b5⟩ := V_b5_15
  have hin65 : ¬ ((10 : Int32) < 0 ∨ cl_b5_65.slots.size ≤ ((10 : Int32)).toNatClampNeg) := inb_of S_b5 ⟨by decide, by decide⟩
  obtain ⟨T16, h16, X16, e16, W16, st16⟩ := stI X15 hx hZ e15 Ar_b5 (j := (10 : Int32)) hin65 (g := (mkF m 65 #[.val (.int p1), .val (.int p2), .val (.int p3), .val (.int p4), .unset, .unset, .unset, .unset, .unset, .unset] [(.int (216 : Int32)), (.int (10 : Int32)), (.ref b5), (.ref b5)])) rfl rfl (hb hby at_65)
  obtain ⟨vs16, hl16, V_b5_16⟩ := own_aset Ar_b5 q_b5 S_b5 N_b5 H_b5 G_b5 rfl W16 10 rfl hl15 (by decide)
  have K16 : Keep h0 h16 [] := K15.wr W16 (Or.inr sz_b5)
  have N16 := Fr.snoc X16 N15 g_b5
  obtain ⟨lo16, X16, N16⟩ : ∃ lo : List Loc, Stand p l e room_1 s m #[(.int p1), (.int p2), (.int p3), (.int p4)] below meth c T16 lo 1 32 ∧ Fr n0 lo := ⟨_, X16, N16⟩
  obtain ⟨cl_b5_72, Ar_b5, q_b5, S_b5, N_b5, H_b5, G_b5⟩ := V_b5_16
  have hin72 : ¬ ((11 : Int32) < 0 ∨ cl_b5_72.slots.size ≤ ((11 : Int32)).toNatClampNeg) := inb_of S_b5 ⟨by decide, by decide⟩
  obtain ⟨T17, h17, X17, e17, W17, st17⟩ := stI X16 hx hZ e16 Ar_b5 (j := (11 : Int32)) hin72 (g := (mkF m 72 #[.val (.int p1), .val (.int p2), .val (.int p3), .val (.int p4), .unset, .unset, .unset, .unset, .unset, .unset] [(.int (247 : Int32)), (.int (11 : Int32)), (.ref b5), (.ref b5)])) rfl rfl (hb hby at_72)
  obtain ⟨vs17, hl17, V_b5_17⟩ := own_aset Ar_b5 q_b5 S_b5 N_b5 H_b5 G_b5 rfl W17 11 rfl hl16 (by decide)
  have K17 : Keep h0 h17 [] := K16.wr W17 (Or.inr sz_b5)
  have N17 := Fr.snoc X17 N16 g_b5
  obtain ⟨lo17, X17, N17⟩ : ∃ lo : List Loc, Stand p l e room_1 s m #[(.int p1), (.int p2), (.int p3), (.int p4)] below meth c T17 lo 1 32 ∧ Fr n0 lo := ⟨_, X17, N17⟩
  obtain ⟨cl_b5_79, Ar_b5, q_b5, S_b5, N_b5, H_b5, G_b5⟩ := V_b5_17
  have hin79 : ¬ ((12 : Int32) < 0 ∨ cl_b5_79.slots.size ≤ ((12 : Int32)).toNatClampNeg) := inb_of S_b5 ⟨by decide, by decide⟩
  obtain ⟨T18, h18, X18, e18, W18, st18⟩ := stI X17 hx hZ e17 Ar_b5 (j := (12 : Int32)) hin79 (g := (mkF m 79 #[.val (.int p1), .val (.int p2), .val (.int p3), .val (.int p4), .unset, .unset, .unset, .unset, .unset, .unset] [(.int (248 : Int32)), (.int (12 : Int32)), (.ref b5), (.ref b5)])) rfl rfl (hb hby at_79)
  obtain ⟨vs18, hl18, V_b5_18⟩ := own_aset Ar_b5 q_b5 S_b5 N_b5 H_b5 G_b5 rfl W18 12 rfl hl17 (by decide)
  have K18 : Keep h0 h18 [] := K17.wr W18 (Or.inr sz_b5)
  have N18 := Fr.snoc X18 N17 g_b5
  obtain ⟨lo18, X18, N18⟩ : ∃ lo : List Loc, Stand p l e room_1 s m #[(.int p1), (.int p2), (.int p3), (.int p4)] below meth c T18 lo 1 32 ∧ Fr n0 lo := ⟨_, X18, N18⟩
  obtain ⟨cl_b5_86, Ar_b5, q_b5, S_b5, N_b5, H_b5, G_b5⟩ := V_b5_18
  have hin86 : ¬ ((13 : Int32) < 0 ∨ cl_b5_86.slots.size ≤ ((13 : Int32)).toNatClampNeg) := inb_of S_b5 ⟨by decide, by decide⟩
  obtain ⟨T19, h19, X19, e19, W19, st19⟩ := stI X18 hx hZ e18 Ar_b5 (j := (13 : Int32)) hin86 (g := (mkF m 86 #[.val (.int p1), .val (.int p2), .val (.int p3), .val (.int p4), .unset, .unset, .unset, .unset, .unset, .unset] [(.int (768 : Int32)), (.int (13 : Int32)), (.ref b5), (.ref b5)])) rfl rfl (hb hby at_86)
  obtain ⟨vs19, hl19, V_b5_19⟩ := own_aset Ar_b5 q_b5 S_b5 N_b5 H_b5 G_b5 rfl W19 13 rfl hl18 (by decide)
  have K19 : Keep h0 h19 [] := K18.wr W19 (Or.inr sz_b5)
  have N19 := Fr.snoc X19 N18 g_b5
  obtain ⟨lo19, X19, N19⟩ : ∃ lo : List Loc, Stand p l e room_1 s m #[(.int p1), (.int p2), (.int p3), (.int p4)] below meth c T19 lo 1 32 ∧ Fr n0 lo := ⟨_, X19, N19⟩
  obtain ⟨cl_b5_93, Ar_b5, q_b5, S_b5, N_b5, H_b5, G_b5⟩ := V_b5_19
  have hin93 : ¬ ((14 : Int32) < 0 ∨ cl_b5_93.slots.size ≤ ((14 : Int32)).toNatClampNeg) := inb_of S_b5 ⟨by decide, by decide⟩
  obtain ⟨T20, h20, X20, e20, W20, st20⟩ := stI X19 hx hZ e19 Ar_b5 (j := (14 : Int32)) hin93 (g := (mkF m 93 #[.val (.int p1), .val (.int p2), .val (.int p3), .val (.int p4), .unset, .unset, .unset, .unset, .unset, .unset] [(.int (880 : Int32)), (.int (14 : Int32)), (.ref b5), (.ref b5)])) rfl rfl (hb hby at_93)
  obtain ⟨vs20, hl20, V_b5_20⟩ := own_aset Ar_b5 q_b5 S_b5 N_b5 H_b5 G_b5 rfl W20 14 rfl hl19 (by decide)
  have K20 : Keep h0 h20 [] := K19.wr W20 (Or.inr sz_b5)
  have N20 := Fr.snoc X20 N19 g_b5
  obtain ⟨lo20, X20, N20⟩ : ∃ lo : List Loc, Stand p l e room_1 s m #[(.int p1), (.int p2), (.int p3), (.int p4)] below meth c T20 lo 1 32 ∧ Fr n0 lo := ⟨_, X20, N20⟩
  obtain ⟨cl_b5_100, Ar_b5, q_b5, S_b5, N_b5, H_b5, G_b5⟩ := V_b5_20
  have hin100 : ¬ ((15 : Int32) < 0 ∨ cl_b5_100.slots.size ≤ ((15 : Int32)).toNatClampNeg) := inb_of S_b5 ⟨by decide, by decide⟩
  obtain ⟨T21, h21, X21, e21, W21, st21⟩ := stI X20 hx hZ e20 Ar_b5 (j := (15 : Int32)) hin100 (g := (mkF m 100 #[.val (.int p1), .val (.int p2), .val (.int p3), .val (.int p4), .unset, .unset, .unset, .unset, .unset, .unset] [(.int (894 : Int32)), (.int (15 : Int32)), (.ref b5), (.ref b5)])) rfl rfl (hb hby at_100)
  obtain ⟨vs21, hl21, V_b5_21⟩ := own_aset Ar_b5 q_b5 S_b5 N_b5 H_b5 G_b5 rfl W21 15 rfl hl20 (by decide)
  have K21 : Keep h0 h21 [] := K20.wr W21 (Or.inr sz_b5)
  have N21 := Fr.snoc X21 N20 g_b5
  obtain ⟨lo21, X21, N21⟩ : ∃ lo : List Loc, Stand p l e room_1 s m #[(.int p1), (.int p2), (.int p3), (.int p4)] below meth c T21 lo 1 32 ∧ Fr n0 lo := ⟨_, X21, N21⟩
  obtain ⟨cl_b5_107, Ar_b5, q_b5, S_b5, N_b5, H_b5, G_b5⟩ := V_b5_21
  have hin107 : ¬ ((16 : Int32) < 0 ∨ cl_b5_107.slots.size ≤ ((16 : Int32)).toNatClampNeg) := inb_of S_b5 ⟨by decide, by decide⟩
  obtain ⟨T22, h22, X22, e22, W22, st22⟩ := stI X21 hx hZ e21 Ar_b5 (j := (16 : Int32)) hin107 (g := (mkF m 107 #[.val (.int p1), .val (.int p2), .val (.int p3), .val (.int p4), .unset, .unset, .unset, .unset, .unset, .unset] [(.int (895 : Int32)), (.int (16 : Int32)), (.ref b5), (.ref b5)])) rfl rfl (hb hby at_107)
  obtain ⟨vs22, hl22, V_b5_22⟩ := own_aset Ar_b5 q_b5 S_b5 N_b5 H_b5 G_b5 rfl W22 16 rfl hl21 (by decide)
  have K22 : Keep h0 h22 [] := K21.wr W22 (Or.inr sz_b5)
  have N22 := Fr.snoc X22 N21 g_b5
  obtain ⟨lo22, X22, N22⟩ : ∃ lo : List Loc, Stand p l e room_1 s m #[(.int p1), (.int p2), (.int p3), (.int p4)] below meth c T22 lo 1 32 ∧ Fr n0 lo := ⟨_, X22, N22⟩
  obtain ⟨cl_b5_114, Ar_b5, q_b5, S_b5, N_b5, H_b5, G_b5⟩ := V_b5_22
  have hin114 : ¬ ((17 : Int32) < 0 ∨ cl_b5_114.slots.size ≤ ((17 : Int32)).toNatClampNeg) := inb_of S_b5 ⟨by decide, by decide⟩
  obtain ⟨T23, h23, X23, e23, W23, st23⟩ := stI X22 hx hZ e22 Ar_b5 (j := (17 : Int32)) hin114 (g := (mkF m 114 #[.val (.int p1), .val (.int p2), .val (.int p3), .val (.int p4), .unset, .unset, .unset, .unset, .unset, .unset] [(.int (8192 : Int32)), (.int (17 : Int32)), (.ref b5), (.ref b5)])) rfl rfl (hb hby at_114)
  obtain ⟨vs23, hl23, V_b5_23⟩ := own_aset Ar_b5 q_b5 S_b5 N_b5 H_b5 G_b5 rfl W23 17 rfl hl22 (by decide)
  have K23 : Keep h0 h23 [] := K22.wr W23 (Or.inr sz_b5)
  have N23 := Fr.snoc X23 N22 g_b5
  obtain ⟨lo23, X23, N23⟩ : ∃ lo : List Loc, Stand p l e room_1 s m #[(.int p1), (.int p2), (.int p3), (.int p4)] below meth c T23 lo 1 32 ∧ Fr n0 lo := ⟨_, X23, N23⟩
  obtain ⟨cl_b5_121, Ar_b5, q_b5, S_b5, N_b5, H_b5, G_b5⟩ := V_b5_23
  have hin121 : ¬ ((18 : Int32) < 0 ∨ cl_b5_121.slots.size ≤ ((18 : Int32)).toNatClampNeg) := inb_of S_b5 ⟨by decide, by decide⟩
  obtain ⟨T24, h24, X24, e24, W24, st24⟩ := stI X23 hx hZ e23 Ar_b5 (j := (18 : Int32)) hin121 (g := (mkF m 121 #[.val (.int p1), .val (.int p2), .val (.int p3), .val (.int p4), .unset, .unset, .unset, .unset, .unset, .unset] [(.int (8204 : Int32)), (.int (18 : Int32)), (.ref b5), (.ref b5)])) rfl rfl (hb hby at_121)
  obtain ⟨vs24, hl24, V_b5_24⟩ := own_aset Ar_b5 q_b5 S_b5 N_b5 H_b5 G_b5 rfl W24 18 rfl hl23 (by decide)
  have K24 : Keep h0 h24 [] := K23.wr W24 (Or.inr sz_b5)
  have N24 := Fr.snoc X24 N23 g_b5
  obtain ⟨lo24, X24, N24⟩ : ∃ lo : List Loc, Stand p l e room_1 s m #[(.int p1), (.int p2), (.int p3), (.int p4)] below meth c T24 lo 1 32 ∧ Fr n0 lo := ⟨_, X24, N24⟩
  obtain ⟨cl_b5_128, Ar_b5, q_b5, S_b5, N_b5, H_b5, G_b5⟩ := V_b5_24
  have hin128 : ¬ ((19 : Int32) < 0 ∨ cl_b5_128.slots.size ≤ ((19 : Int32)).toNatClampNeg) := inb_of S_b5 ⟨by decide, by decide⟩
  obtain ⟨T25, h25, X25, e25, W25, st25⟩ := stI X24 hx hZ e24 Ar_b5 (j := (19 : Int32)) hin128 (g := (mkF m 128 #[.val (.int p1), .val (.int p2), .val (.int p3), .val (.int p4), .unset, .unset, .unset, .unset, .unset, .unset] [(.int (8206 : Int32)), (.int (19 : Int32)), (.ref b5), (.ref b5)])) rfl rfl (hb hby at_128)
  obtain ⟨vs25, hl25, V_b5_25⟩ := own_aset Ar_b5 q_b5 S_b5 N_b5 H_b5 G_b5 rfl W25 19 rfl hl24 (by decide)
  have K25 : Keep h0 h25 [] := K24.wr W25 (Or.inr sz_b5)
  have N25 := Fr.snoc X25 N24 g_b5
  obtain ⟨lo25, X25, N25⟩ : ∃ lo : List Loc, Stand p l e room_1 s m #[(.int p1), (.int p2), (.int p3), (.int p4)] below meth c T25 lo 1 32 ∧ Fr n0 lo := ⟨_, X25, N25⟩
  obtain ⟨cl_b5_135, Ar_b5, q_b5, S_b5, N_b5, H_b5, G_b5⟩ := V_b5_25
  have hin135 : ¬ ((20 : Int32) < 0 ∨ cl_b5_135.slots.size ≤ ((20 : Int32)).toNatClampNeg) := inb_of S_b5 ⟨by decide, by decide⟩
  obtain ⟨T26, h26, X26, e26, W26, st26⟩ := stI X25 hx hZ e25 Ar_b5 (j := (20 : Int32)) hin135 (g := (mkF m 135 #[.val (.int p1), .val (.int p2), .val (.int p3), .val (.int p4), .unset, .unset, .unset, .unset, .unset, .unset] [(.int (8304 : Int32)), (.int (20 : Int32)), (.ref b5), (.ref b5)])) rfl rfl (hb hby at_135)
  obtain ⟨vs26, hl26, V_b5_26⟩ := own_aset Ar_b5 q_b5 S_b5 N_b5 H_b5 G_b5 rfl W26 20 rfl hl25 (by decide)
  have K26 : Keep h0 h26 [] := K25.wr W26 (Or.inr sz_b5)
  have N26 := Fr.snoc X26 N25 g_b5
  obtain ⟨lo26, X26, N26⟩ : ∃ lo : List Loc, Stand p l e room_1 s m #[(.int p1), (.int p2), (.int p3), (.int p4)] below meth c T26 lo 1 32 ∧ Fr n0 lo := ⟨_, X26, N26⟩
  obtain ⟨cl_b5_142, Ar_b5, q_b5, S_b5, N_b5, H_b5, G_b5⟩ := V_b5_26
  have hin142 : ¬ ((21 : Int32) < 0 ∨ cl_b5_142.slots.size ≤ ((21 : Int32)).toNatClampNeg) := inb_of S_b5 ⟨by decide, by decide⟩
  obtain ⟨T27, h27, X27, e27, W27, st27⟩ := stI X26 hx hZ e26 Ar_b5 (j := (21 : Int32)) hin142 (g := (mkF m 142 #[.val (.int p1), .val (.int p2), .val (.int p3), .val (.int p4), .unset, .unset, .unset, .unset, .unset, .unset] [(.int (8592 : Int32)), (.int (21 : Int32)), (.ref b5), (.ref b5)])) rfl rfl (hb hby at_142)
  obtain ⟨vs27, hl27, V_b5_27⟩ := own_aset Ar_b5 q_b5 S_b5 N_b5 H_b5 G_b5 rfl W27 21 rfl hl26 (by decide)
  have K27 : Keep h0 h27 [] := K26.wr W27 (Or.inr sz_b5)
  have N27 := Fr.snoc X27 N26 g_b5
  obtain ⟨lo27, X27, N27⟩ : ∃ lo : List Loc, Stand p l e room_1 s m #[(.int p1), (.int p2), (.int p3), (.int p4)] below meth c T27 lo 1 32 ∧ Fr n0 lo := ⟨_, X27, N27⟩
  obtain ⟨cl_b5_149, Ar_b5, q_b5, S_b5, N_b5, H_b5, G_b5⟩ := V_b5_27
  have hin149 : ¬ ((22 : Int32) < 0 ∨ cl_b5_149.slots.size ≤ ((22 : Int32)).toNatClampNeg) := inb_of S_b5 ⟨by decide, by decide⟩
  obtain ⟨T28, h28, X28, e28, W28, st28⟩ := stI X27 hx hZ e27 Ar_b5 (j := (22 : Int32)) hin149 (g := (mkF m 149 #[.val (.int p1), .val (.int p2), .val (.int p3), .val (.int p4), .unset, .unset, .unset, .unset, .unset, .unset] [(.int (11264 : Int32)), (.int (22 : Int32)), (.ref b5), (.ref b5)])) rfl rfl (hb hby at_149)
  obtain ⟨vs28, hl28, V_b5_28⟩ := own_aset Ar_b5 q_b5 S_b5 N_b5 H_b5 G_b5 rfl W28 22 rfl hl27 (by decide)
  have K28 : Keep h0 h28 [] := K27.wr W28 (Or.inr sz_b5)
  have N28 := Fr.snoc X28 N27 g_b5
  obtain ⟨lo28, X28, N28⟩ : ∃ lo : List Loc, Stand p l e room_1 s m #[(.int p1), (.int p2), (.int p3), (.int p4)] below meth c T28 lo 1 32 ∧ Fr n0 lo := ⟨_, X28, N28⟩
  obtain ⟨cl_b5_156, Ar_b5, q_b5, S_b5, N_b5, H_b5, G_b5⟩ := V_b5_28
  have hin156 : ¬ ((23 : Int32) < 0 ∨ cl_b5_156.slots.size ≤ ((23 : Int32)).toNatClampNeg) := inb_of S_b5 ⟨by decide, by decide⟩
  obtain ⟨T29, h29, X29, e29, W29, st29⟩ := stI X28 hx hZ e28 Ar_b5 (j := (23 : Int32)) hin156 (g := (mkF m 156 #[.val (.int p1), .val (.int p2), .val (.int p3), .val (.int p4), .unset, .unset, .unset, .unset, .unset, .unset] [(.int (12272 : Int32)), (.int (23 : Int32)), (.ref b5), (.ref b5)])) rfl rfl (hb hby at_156)
  obtain ⟨vs29, hl29, V_b5_29⟩ := own_aset Ar_b5 q_b5 S_b5 N_b5 H_b5 G_b5 rfl W29 23 rfl hl28 (by decide)
  have K29 : Keep h0 h29 [] := K28.wr W29 (Or.inr sz_b5)
  have N29 := Fr.snoc X29 N28 g_b5
  obtain ⟨lo29, X29, N29⟩ : ∃ lo : List Loc, Stand p l e room_1 s m #[(.int p1), (.int p2), (.int p3), (.int p4)] below meth c T29 lo 1 32 ∧ Fr n0 lo := ⟨_, X29, N29⟩
  obtain ⟨cl_b5_163, Ar_b5, q_b5, S_b5, N_b5, H_b5, G_b5⟩ := V_b5_29
  have hin163 : ¬ ((24 : Int32) < 0 ∨ cl_b5_163.slots.size ≤ ((24 : Int32)).toNatClampNeg) := inb_of S_b5 ⟨by decide, by decide⟩
  obtain ⟨T30, h30, X30, e30, W30, st30⟩ := stI X29 hx hZ e29 Ar_b5 (j := (24 : Int32)) hin163 (g := (mkF m 163 #[.val (.int p1), .val (.int p2), .val (.int p3), .val (.int p4), .unset, .unset, .unset, .unset, .unset, .unset] [(.int (12289 : Int32)), (.int (24 : Int32)), (.ref b5), (.ref b5)])) rfl rfl (hb hby at_163)
  obtain ⟨vs30, hl30, V_b5_30⟩ := own_aset Ar_b5 q_b5 S_b5 N_b5 H_b5 G_b5 rfl W30 24 rfl hl29 (by decide)
  have K30 : Keep h0 h30 [] := K29.wr W30 (Or.inr sz_b5)
  have N30 := Fr.snoc X30 N29 g_b5
  obtain ⟨lo30, X30, N30⟩ : ∃ lo : List Loc, Stand p l e room_1 s m #[(.int p1), (.int p2), (.int p3), (.int p4)] below meth c T30 lo 1 32 ∧ Fr n0 lo := ⟨_, X30, N30⟩
  obtain ⟨cl_b5_169, Ar_b5, q_b5, S_b5, N_b5, H_b5, G_b5⟩ := V_b5_30
  have hin169 : ¬ ((25 : Int32) < 0 ∨ cl_b5_169.slots.size ≤ ((25 : Int32)).toNatClampNeg) := inb_of S_b5 ⟨by decide, by decide⟩
  obtain ⟨T31, h31, X31, e31, W31, st31⟩ := stI X30 hx hZ e30 Ar_b5 (j := (25 : Int32)) hin169 (g := (mkF m 169 #[.val (.int p1), .val (.int p2), .val (.int p3), .val (.int p4), .unset, .unset, .unset, .unset, .unset, .unset] [(.int (55296 : Int32)), (.int (25 : Int32)), (.ref b5), (.ref b5)])) rfl rfl (hb hby at_169)
  obtain ⟨vs31, hl31, V_b5_31⟩ := own_aset Ar_b5 q_b5 S_b5 N_b5 H_b5 G_b5 rfl W31 25 rfl hl30 (by decide)
  have K31 : Keep h0 h31 [] := K30.wr W31 (Or.inr sz_b5)
  have N31 := Fr.snoc X31 N30 g_b5
  obtain ⟨lo31, X31, N31⟩ : ∃ lo : List Loc, Stand p l e room_1 s m #[(.int p1), (.int p2), (.int p3), (.int p4)] below meth c T31 lo 1 32 ∧ Fr n0 lo := ⟨_, X31, N31⟩
  obtain ⟨cl_b5_175, Ar_b5, q_b5, S_b5, N_b5, H_b5, G_b5⟩ := V_b5_31
  have hin175 : ¬ ((26 : Int32) < 0 ∨ cl_b5_175.slots.size ≤ ((26 : Int32)).toNatClampNeg) := inb_of S_b5 ⟨by decide, by decide⟩
  obtain ⟨T32, h32, X32, e32, W32, st32⟩ := stI X31 hx hZ e31 Ar_b5 (j := (26 : Int32)) hin175 (g := (mkF m 175 #[.val (.int p1), .val (.int p2), .val (.int p3), .val (.int p4), .unset, .unset, .unset, .unset, .unset, .unset] [(.int (63744 : Int32)), (.int (26 : Int32)), (.ref b5), (.ref b5)])) rfl rfl (hb hby at_175)
  obtain ⟨vs32, hl32, V_b5_32⟩ := own_aset Ar_b5 q_b5 S_b5 N_b5 H_b5 G_b5 rfl W32 26 rfl hl31 (by decide)
  have K32 : Keep h0 h32 [] := K31.wr W32 (Or.inr sz_b5)
  have N32 := Fr.snoc X32 N31 g_b5
  obtain ⟨lo32, X32, N32⟩ : ∃ lo : List Loc, Stand p l e room_1 s m #[(.int p1), (.int p2), (.int p3), (.int p4)] below meth c T32 lo 1 32 ∧ Fr n0 lo := ⟨_, X32, N32⟩
  obtain ⟨cl_b5_181, Ar_b5, q_b5, S_b5, N_b5, H_b5, G_b5⟩ := V_b5_32
  have hin181 : ¬ ((27 : Int32) < 0 ∨ cl_b5_181.slots.size ≤ ((27 : Int32)).toNatClampNeg) := inb_of S_b5 ⟨by decide, by decide⟩
  obtain ⟨T33, h33, X33, e33, W33, st33⟩ := stI X32 hx hZ e32 Ar_b5 (j := (27 : Int32)) hin181 (g := (mkF m 181 #[.val (.int p1), .val (.int p2), .val (.int p3), .val (.int p4), .unset, .unset, .unset, .unset, .unset, .unset] [(.int (64976 : Int32)), (.int (27 : Int32)), (.ref b5), (.ref b5)])) rfl rfl (hb hby at_181)
  obtain ⟨vs33, hl33, V_b5_33⟩ := own_aset Ar_b5 q_b5 S_b5 N_b5 H_b5 G_b5 rfl W33 27 rfl hl32 (by decide)
  have K33 : Keep h0 h33 [] := K32.wr W33 (Or.inr sz_b5)
  have N33 := Fr.snoc X33 N32 g_b5
  obtain ⟨lo33, X33, N33⟩ : ∃ lo : List Loc, Stand p l e room_1 s m #[(.int p1), (.int p2), (.int p3), (.int p4)] below meth c T33 lo 1 32 ∧ Fr n0 lo := ⟨_, X33, N33⟩
  obtain ⟨cl_b5_187, Ar_b5, q_b5, S_b5, N_b5, H_b5, G_b5⟩ := V_b5_33
  have hin187 : ¬ ((28 : Int32) < 0 ∨ cl_b5_187.slots.size ≤ ((28 : Int32)).toNatClampNeg) := inb_of S_b5 ⟨by decide, by decide⟩
  obtain ⟨T34, h34, X34, e34, W34, st34⟩ := stI X33 hx hZ e33 Ar_b5 (j := (28 : Int32)) hin187 (g := (mkF m 187 #[.val (.int p1), .val (.int p2), .val (.int p3), .val (.int p4), .unset, .unset, .unset, .unset, .unset, .unset] [(.int (65008 : Int32)), (.int (28 : Int32)), (.ref b5), (.ref b5)])) rfl rfl (hb hby at_187)
  obtain ⟨vs34, hl34, V_b5_34⟩ := own_aset Ar_b5 q_b5 S_b5 N_b5 H_b5 G_b5 rfl W34 28 rfl hl33 (by decide)
  have K34 : Keep h0 h34 [] := K33.wr W34 (Or.inr sz_b5)
  have N34 := Fr.snoc X34 N33 g_b5
  obtain ⟨lo34, X34, N34⟩ : ∃ lo : List Loc, Stand p l e room_1 s m #[(.int p1), (.int p2), (.int p3), (.int p4)] below meth c T34 lo 1 32 ∧ Fr n0 lo := ⟨_, X34, N34⟩
  obtain ⟨cl_b5_193, Ar_b5, q_b5, S_b5, N_b5, H_b5, G_b5⟩ := V_b5_34
  have hin193 : ¬ ((29 : Int32) < 0 ∨ cl_b5_193.slots.size ≤ ((29 : Int32)).toNatClampNeg) := inb_of S_b5 ⟨by decide, by decide⟩
  obtain ⟨T35, h35, X35, e35, W35, st35⟩ := stI X34 hx hZ e34 Ar_b5 (j := (29 : Int32)) hin193 (g := (mkF m 193 #[.val (.int p1), .val (.int p2), .val (.int p3), .val (.int p4), .unset, .unset, .unset, .unset, .unset, .unset] [(.int (65534 : Int32)), (.int (29 : Int32)), (.ref b5), (.ref b5)])) rfl rfl (hb hby at_193)
  obtain ⟨vs35, hl35, V_b5_35⟩ := own_aset Ar_b5 q_b5 S_b5 N_b5 H_b5 G_b5 rfl W35 29 rfl hl34 (by decide)
  have K35 : Keep h0 h35 [] := K34.wr W35 (Or.inr sz_b5)
  have N35 := Fr.snoc X35 N34 g_b5
  obtain ⟨lo35, X35, N35⟩ : ∃ lo : List Loc, Stand p l e room_1 s m #[(.int p1), (.int p2), (.int p3), (.int p4)] below meth c T35 lo 1 32 ∧ Fr n0 lo := ⟨_, X35, N35⟩
  obtain ⟨cl_b5_199, Ar_b5, q_b5, S_b5, N_b5, H_b5, G_b5⟩ := V_b5_35
  have hin199 : ¬ ((30 : Int32) < 0 ∨ cl_b5_199.slots.size ≤ ((30 : Int32)).toNatClampNeg) := inb_of S_b5 ⟨by decide, by decide⟩
  obtain ⟨T36, h36, X36, e36, W36, st36⟩ := stI X35 hx hZ e35 Ar_b5 (j := (30 : Int32)) hin199 (g := (mkF m 199 #[.val (.int p1), .val (.int p2), .val (.int p3), .val (.int p4), .unset, .unset, .unset, .unset, .unset, .unset] [(.int (65536 : Int32)), (.int (30 : Int32)), (.ref b5), (.ref b5)])) rfl rfl (hb hby at_199)
  obtain ⟨vs36, hl36, V_b5_36⟩ := own_aset Ar_b5 q_b5 S_b5 N_b5 H_b5 G_b5 rfl W36 30 rfl hl35 (by decide)
  have K36 : Keep h0 h36 [] := K35.wr W36 (Or.inr sz_b5)
  have N36 := Fr.snoc X36 N35 g_b5
  obtain ⟨lo36, X36, N36⟩ : ∃ lo : List Loc, Stand p l e room_1 s m #[(.int p1), (.int p2), (.int p3), (.int p4)] below meth c T36 lo 1 32 ∧ Fr n0 lo := ⟨_, X36, N36⟩
  obtain ⟨cl_b5_205, Ar_b5, q_b5, S_b5, N_b5, H_b5, G_b5⟩ := V_b5_36
  have hin205 : ¬ ((31 : Int32) < 0 ∨ cl_b5_205.slots.size ≤ ((31 : Int32)).toNatClampNeg) := inb_of S_b5 ⟨by decide, by decide⟩
  obtain ⟨T37, h37, X37, e37, W37, st37⟩ := stI X36 hx hZ e36 Ar_b5 (j := (31 : Int32)) hin205 (g := (mkF m 205 #[.val (.int p1), .val (.int p2), .val (.int p3), .val (.int p4), .unset, .unset, .unset, .unset, .unset, .unset] [(.int (983040 : Int32)), (.int (31 : Int32)), (.ref b5), (.ref b5)])) rfl rfl (hb hby at_205)
  obtain ⟨vs37, hl37, V_b5_37⟩ := own_aset Ar_b5 q_b5 S_b5 N_b5 H_b5 G_b5 rfl W37 31 rfl hl36 (by decide)
  have K37 : Keep h0 h37 [] := K36.wr W37 (Or.inr sz_b5)
  have N37 := Fr.snoc X37 N36 g_b5
  obtain ⟨lo37, X37, N37⟩ : ∃ lo : List Loc, Stand p l e room_1 s m #[(.int p1), (.int p2), (.int p3), (.int p4)] below meth c T37 lo 1 32 ∧ Fr n0 lo := ⟨_, X37, N37⟩
  obtain ⟨cl_b5_216, Ar_b5, -, S_b5, N_b5, H_b5, G_b5⟩ := V_b5_37
  have hin218 := inb_of S_b5 (own_rem (own_mask31 p3) (by decide : (0 : Int) < (32 : Int32).toInt))
  obtain ⟨w38, hw38⟩ := own_fitI (G_b5 _ (Nat.lt_of_not_le fun y => hin218 (Or.inr y)))
  have hat218 := Has.at H_b5 hin218 hw38
  obtain ⟨_, _, ⟨T39, L39, k39, n39⟩, -, X39, ⟨Lc39, hQ39, l39, y39, z39⟩, st39⟩ := Jvm.LawKit.callS X37 hx (y := (⟨"com/example/keyref/keyref/model/XmlChars", "isNameStartChar", "(I)Z"⟩ : MethodName)) hown (mvT hZ (hw _ (List.mem_of_getElem? (i := 10) rfl))) (mvT hZ (hw _ (List.mem_of_getElem? (i := 11) rfl))) (mvT hZ (hw _ (List.mem_of_getElem? (i := 12) rfl))) (mvT hZ (hw _ (List.mem_of_getElem? (i := 13) rfl))) (by decide) (backOf (W := 0) (rm1 l Z a0 hw [] p1 h37 n0 (Nat.le_trans Z0 K37.1)) hZ (hw _ (List.mem_of_getElem? (i := 13) rfl)) (hw _ (List.mem_of_getElem? (i := 12) rfl)) (by decide) (by decide)) (g := (mkF m 237 #[.val (.int p1), .val (.int p2), .val (.int p3), .val (.int p4), .val (.ref b5), .val (.int ((w38 + ((p4 &&& (2147483647 : Int32)) % (5 : Int32))) - (2 : Int32))), .val (.int (p2 &&& (1048575 : Int32))), .unset, .unset, .unset] [(.int p1)])) rfl (by rw [hml]; rfl) (argsL := [(.int p1)]) (rest := []) (lenOf pd_0_0 rfl) rfl (by show 2 * 0 + _ ≤ _; exact Nat.le_of_eq rfl) (hb hby at_237) (fun _ _ => ⟨rfl, e37, (by decide : 1 + 0 ≤ _), (by decide : 32 + 0 ≤ _)⟩)
  dsimp only [Pt.U, Pt.locs, Pt.cells, Pt.slots] at X39 l39 y39 z39 st39 hQ39
  subst l39 y39 z39
  obtain ⟨rfl, N39q, eh39⟩ := hQ39
  have N39 := Fr.app N37 N39q
  obtain ⟨lo39, X39, N39⟩ : ∃ lo : List Loc, Stand p l e room_1 s m #[(.int p1), (.int p2), (.int p3), (.int p4)] below meth c T39 lo 1 32 ∧ Fr n0 lo := ⟨_, X39, N39⟩
  obtain ⟨_, _, ⟨T40, L40, k40, n40⟩, -, X40, ⟨Lc40, hQ40, l40, y40, z40⟩, st40⟩ := Jvm.LawKit.callS X39 hx (y := (⟨"com/example/keyref/keyref/model/XmlCharsIsNameStartCharPinLaw", "ref", "(I)Z"⟩ : MethodName)) hown (mvT hZ (hw _ (List.mem_of_getElem? (i := 17) rfl))) (mvT hZ (hw _ (List.mem_of_getElem? (i := 18) rfl))) (mvT hZ (hw _ (List.mem_of_getElem? (i := 19) rfl))) (mvT hZ (hw _ (List.mem_of_getElem? (i := 20) rfl))) (by decide) (backOf (W := 1) (rm2 l Z a0 hw [] p1 T39.heap n0 (by rw [eh39]; exact Nat.le_trans Z0 K37.1)) hZ (hw _ (List.mem_of_getElem? (i := 20) rfl)) (hw _ (List.mem_of_getElem? (i := 19) rfl)) (by decide) (by decide)) (g := (mkF m 241 #[.val (.int p1), .val (.int p2), .val (.int p3), .val (.int p4), .val (.ref b5), .val (.int ((w38 + ((p4 &&& (2147483647 : Int32)) % (5 : Int32))) - (2 : Int32))), .val (.int (p2 &&& (1048575 : Int32))), .unset, .unset, .unset] [(.int p1), (.int (own_1_0 p1))])) rfl (by rw [hml]; rfl) (argsL := [(.int p1)]) (rest := [(.int (own_1_0 p1))]) (lenOf pd_0_0 rfl) rfl (by show 2 * 0 + _ ≤ _; exact Nat.le_of_eq rfl) (hb hby at_241) (fun _ _ => ⟨rfl, rfl, (by decide : 1 + 0 ≤ _), (by decide : 32 + 0 ≤ _)⟩)
  dsimp only [Pt.U, Pt.locs, Pt.cells, Pt.slots] at X40 l40 y40 z40 st40 hQ40
  subst l40 y40 z40
  obtain ⟨rfl, N40q, eh40⟩ := hQ40
  have N40 := Fr.app N39 N40q
  obtain ⟨lo40, X40, N40⟩ : ∃ lo : List Loc, Stand p l e room_1 s m #[(.int p1), (.int p2), (.int p3), (.int p4)] below meth c T40 lo 1 32 ∧ Fr n0 lo := ⟨_, X40, N40⟩
  obtain ⟨_, _, ⟨T41, L41, k41, n41⟩, -, X41, ⟨Lc41, hQ41, l41, y41, z41⟩, st41⟩ := Jvm.LawKit.callS X40 hx (y := (⟨"com/example/keyref/keyref/model/XmlChars", "isNameStartChar", "(I)Z"⟩ : MethodName)) hown (mvT hZ (hw _ (List.mem_of_getElem? (i := 10) rfl))) (mvT hZ (hw _ (List.mem_of_getElem? (i := 11) rfl))) (mvT hZ (hw _ (List.mem_of_getElem? (i := 12) rfl))) (mvT hZ (hw _ (List.mem_of_getElem? (i := 13) rfl))) (by decide) (backOf (W := 0) (rm1 l Z a0 hw [] (p2 &&& (1048575 : Int32)) T40.heap n0 (by rw [eh40, eh39]; exact Nat.le_trans Z0 K37.1)) hZ (hw _ (List.mem_of_getElem? (i := 13) rfl)) (hw _ (List.mem_of_getElem? (i := 12) rfl)) (by decide) (by decide)) (g := (mkF m 256 #[.val (.int p1), .val (.int p2), .val (.int p3), .val (.int p4), .val (.ref b5), .val (.int ((w38 + ((p4 &&& (2147483647 : Int32)) % (5 : Int32))) - (2 : Int32))), .val (.int (p2 &&& (1048575 : Int32))), .val (.int (1 : Int32)), .unset, .unset] [(.int (p2 &&& (1048575 : Int32)))])) rfl (by rw [hml]; rfl) (argsL := [(.int (p2 &&& (1048575 : Int32)))]) (rest := []) (lenOf pd_0_0 rfl) rfl (by show 2 * 0 + _ ≤ _; exact Nat.le_of_eq rfl) (hb hby at_256) (fun _ _ => ⟨rfl, rfl, (by decide : 1 + 0 ≤ _), (by decide : 32 + 0 ≤ _)⟩)
  dsimp only [Pt.U, Pt.locs, Pt.cells, Pt.slots] at X41 l41 y41 z41 st41 hQ41
  subst l41 y41 z41
  obtain ⟨rfl, N41q, eh41⟩ := hQ41
  have N41 := Fr.app N40 N41q
  obtain ⟨lo41, X41, N41⟩ : ∃ lo : List Loc, Stand p l e room_1 s m #[(.int p1), (.int p2), (.int p3), (.int p4)] below meth c T41 lo 1 32 ∧ Fr n0 lo := ⟨_, X41, N41⟩
  obtain ⟨_, _, ⟨T42, L42, k42, n42⟩, -, X42, ⟨Lc42, hQ42, l42, y42, z42⟩, st42⟩ := Jvm.LawKit.callS X41 hx (y := (⟨"com/example/keyref/keyref/model/XmlCharsIsNameStartCharPinLaw", "ref", "(I)Z"⟩ : MethodName)) hown (mvT hZ (hw _ (List.mem_of_getElem? (i := 17) rfl))) (mvT hZ (hw _ (List.mem_of_getElem? (i := 18) rfl))) (mvT hZ (hw _ (List.mem_of_getElem? (i := 19) rfl))) (mvT hZ (hw _ (List.mem_of_getElem? (i := 20) rfl))) (by decide) (backOf (W := 1) (rm2 l Z a0 hw [] (p2 &&& (1048575 : Int32)) T41.heap n0 (by rw [eh41, eh40, eh39]; exact Nat.le_trans Z0 K37.1)) hZ (hw _ (List.mem_of_getElem? (i := 20) rfl)) (hw _ (List.mem_of_getElem? (i := 19) rfl)) (by decide) (by decide)) (g := (mkF m 261 #[.val (.int p1), .val (.int p2), .val (.int p3), .val (.int p4), .val (.ref b5), .val (.int ((w38 + ((p4 &&& (2147483647 : Int32)) % (5 : Int32))) - (2 : Int32))), .val (.int (p2 &&& (1048575 : Int32))), .val (.int (1 : Int32)), .unset, .unset] [(.int (p2 &&& (1048575 : Int32))), (.int (own_1_0 (p2 &&& (1048575 : Int32))))])) rfl (by rw [hml]; rfl) (argsL := [(.int (p2 &&& (1048575 : Int32)))]) (rest := [(.int (own_1_0 (p2 &&& (1048575 : Int32))))]) (lenOf pd_0_0 rfl) rfl (by show 2 * 0 + _ ≤ _; exact Nat.le_of_eq rfl) (hb hby at_261) (fun _ _ => ⟨rfl, rfl, (by decide : 1 + 0 ≤ _), (by decide : 32 + 0 ≤ _)⟩)
  dsimp only [Pt.U, Pt.locs, Pt.cells, Pt.slots] at X42 l42 y42 z42 st42 hQ42
  subst l42 y42 z42
  obtain ⟨rfl, N42q, eh42⟩ := hQ42
  have N42 := Fr.app N41 N42q
  obtain ⟨lo42, X42, N42⟩ : ∃ lo : List Loc, Stand p l e room_1 s m #[(.int p1), (.int p2), (.int p3), (.int p4)] below meth c T42 lo 1 32 ∧ Fr n0 lo := ⟨_, X42, N42⟩
  obtain ⟨_, _, ⟨T43, L43, k43, n43⟩, -, X43, ⟨Lc43, hQ43, l43, y43, z43⟩, st43⟩ := Jvm.LawKit.callS X42 hx (y := (⟨"com/example/keyref/keyref/model/XmlChars", "isNameStartChar", "(I)Z"⟩ : MethodName)) hown (mvT hZ (hw _ (List.mem_of_getElem? (i := 10) rfl))) (mvT hZ (hw _ (List.mem_of_getElem? (i := 11) rfl))) (mvT hZ (hw _ (List.mem_of_getElem? (i := 12) rfl))) (mvT hZ (hw _ (List.mem_of_getElem? (i := 13) rfl))) (by decide) (backOf (W := 0) (rm1 l Z a0 hw [] ((w38 + ((p4 &&& (2147483647 : Int32)) % (5 : Int32))) - (2 : Int32)) T42.heap n0 (by rw [eh42, eh41, eh40, eh39]; exact Nat.le_trans Z0 K37.1)) hZ (hw _ (List.mem_of_getElem? (i := 13) rfl)) (hw _ (List.mem_of_getElem? (i := 12) rfl)) (by decide) (by decide)) (g := (mkF m 276 #[.val (.int p1), .val (.int p2), .val (.int p3), .val (.int p4), .val (.ref b5), .val (.int ((w38 + ((p4 &&& (2147483647 : Int32)) % (5 : Int32))) - (2 : Int32))), .val (.int (p2 &&& (1048575 : Int32))), .val (.int (1 : Int32)), .val (.int (1 : Int32)), .unset] [(.int ((w38 + ((p4 &&& (2147483647 : Int32)) % (5 : Int32))) - (2 : Int32)))])) rfl (by rw [hml]; rfl) (argsL := [(.int ((w38 + ((p4 &&& (2147483647 : Int32)) % (5 : Int32))) - (2 : Int32)))]) (rest := []) (lenOf pd_0_0 rfl) rfl (by show 2 * 0 + _ ≤ _; exact Nat.le_of_eq rfl) (hb hby at_276) (fun _ _ => ⟨rfl, rfl, (by decide : 1 + 0 ≤ _), (by decide : 32 + 0 ≤ _)⟩)
  dsimp only [Pt.U, Pt.locs, Pt.cells, Pt.slots] at X43 l43 y43 z43 st43 hQ43
  subst l43 y43 z43
  obtain ⟨rfl, N43q, eh43⟩ := hQ43
  have N43 := Fr.app N42 N43q
  obtain ⟨lo43, X43, N43⟩ : ∃ lo : List Loc, Stand p l e room_1 s m #[(.int p1), (.int p2), (.int p3), (.int p4)] below meth c T43 lo 1 32 ∧ Fr n0 lo := ⟨_, X43, N43⟩
  obtain ⟨_, _, ⟨T44, L44, k44, n44⟩, -, X44, ⟨Lc44, hQ44, l44, y44, z44⟩, st44⟩ := Jvm.LawKit.callS X43 hx (y := (⟨"com/example/keyref/keyref/model/XmlCharsIsNameStartCharPinLaw", "ref", "(I)Z"⟩ : MethodName)) hown (mvT hZ (hw _ (List.mem_of_getElem? (i := 17) rfl))) (mvT hZ (hw _ (List.mem_of_getElem? (i := 18) rfl))) (mvT hZ (hw _ (List.mem_of_getElem? (i := 19) rfl))) (mvT hZ (hw _ (List.mem_of_getElem? (i := 20) rfl))) (by decide) (backOf (W := 1) (rm2 l Z a0 hw [] ((w38 + ((p4 &&& (2147483647 : Int32)) % (5 : Int32))) - (2 : Int32)) T43.heap n0 (by rw [eh43, eh42, eh41, eh40, eh39]; exact Nat.le_trans Z0 K37.1)) hZ (hw _ (List.mem_of_getElem? (i := 20) rfl)) (hw _ (List.mem_of_getElem? (i := 19) rfl)) (by decide) (by decide)) (g := (mkF m 281 #[.val (.int p1), .val (.int p2), .val (.int p3), .val (.int p4), .val (.ref b5), .val (.int ((w38 + ((p4 &&& (2147483647 : Int32)) % (5 : Int32))) - (2 : Int32))), .val (.int (p2 &&& (1048575 : Int32))), .val (.int (1 : Int32)), .val (.int (1 : Int32)), .unset] [(.int ((w38 + ((p4 &&& (2147483647 : Int32)) % (5 : Int32))) - (2 : Int32))), (.int (own_1_0 ((w38 + ((p4 &&& (2147483647 : Int32)) % (5 : Int32))) - (2 : Int32))))])) rfl (by rw [hml]; rfl) (argsL := [(.int ((w38 + ((p4 &&& (2147483647 : Int32)) % (5 : Int32))) - (2 : Int32)))]) (rest := [(.int (own_1_0 ((w38 + ((p4 &&& (2147483647 : Int32)) % (5 : Int32))) - (2 : Int32))))]) (lenOf pd_0_0 rfl) rfl (by show 2 * 0 + _ ≤ _; exact Nat.le_of_eq rfl) (hb hby at_281) (fun _ _ => ⟨rfl, rfl, (by decide : 1 + 0 ≤ _), (by decide : 32 + 0 ≤ _)⟩)
  dsimp only [Pt.U, Pt.locs, Pt.cells, Pt.slots] at X44 l44 y44 z44 st44 hQ44
  subst l44 y44 z44
  obtain ⟨rfl, N44q, eh44⟩ := hQ44
  have N44 := Fr.app N43 N44q
  obtain ⟨lo44, X44, N44⟩ : ∃ lo : List Loc, Stand p l e room_1 s m #[(.int p1), (.int p2), (.int p3), (.int p4)] below meth c T44 lo 1 32 ∧ Fr n0 lo := ⟨_, X44, N44⟩
  obtain ⟨fs, hr, hrun, hended, hW, hsame⟩ := X44.leave (v := some (.int (1 : Int32))) (fun h => by rw [Bd.returns] at h; cases h)
  refine ⟨_, _, pre0 _ ?_, hrun, hended, _, _, rfl, ?_, ⟨_, rfl⟩, hW, hsame.mono (by decide) (by decide)⟩
  · show Steps p.tables e below (s₁.setTop (mkF m 0 #[.val (.int p1), .val (.int p2), .val (.int p3), .val (.int p4), .unset, .unset, .unset, .unset, .unset, .unset] [])) _
    refine XS.bipush X0.here hx rfl (hb hby at_0) ?_
    show Steps p.tables e below (s₁.setTop (mkF m 2 #[.val (.int p1), .val (.int p2), .val (.int p3), .val (.int p4), .unset, .unset, .unset, .unset, .unset, .unset] [(.int (32 : Int32))])) _
    refine st5 _ ?_
    show Steps p.tables e below (T5.setTop (mkF m 4 #[.val (.int p1), .val (.int p2), .val (.int p3), .val (.int p4), .unset, .unset, .unset, .unset, .unset, .unset] [(.ref b5)])) _
    refine XS.dup X5.here hx rfl (hb hby at_4) rfl rfl ?_
    show Steps p.tables e below (T5.setTop (mkF m 5 #[.val (.int p1), .val (.int p2), .val (.int p3), .val (.int p4), .unset, .unset, .unset, .unset, .unset, .unset] [(.ref b5), (.ref b5)])) _
    refine XS.iconst X5.here hx rfl (hb hby at_5) ?_
    show Steps p.tables e below (T5.setTop (mkF m 6 #[.val (.int p1), .val (.int p2), .val (.int p3), .val (.int p4), .unset, .unset, .unset, .unset, .unset, .unset] [(.int (0 : Int32)), (.ref b5), (.ref b5)])) _
    refine XS.iconst X5.here hx rfl (hb hby at_6) ?_
    show Steps p.tables e below (T5.setTop (mkF m 7 #[.val (.int p1), .val (.int p2), .val (.int p3), .val (.int p4), .unset, .unset, .unset, .unset, .unset, .unset] [(.int (0 : Int32)), (.int (0 : Int32)), (.ref b5), (.ref b5)])) _
    refine st6 _ ?_
    show Steps p.tables e below (T6.setTop (mkF m 8 #[.val (.int p1), .val (.int p2), .val (.int p3), .val (.int p4), .unset, .unset, .unset, .unset, .unset, .unset] [(.ref b5)])) _
    refine XS.dup X6.here hx rfl (hb hby at_8) rfl rfl ?_
    show Steps p.tables e below (T6.setTop (mkF m 9 #[.val (.int p1), .val (.int p2), .val (.int p3), .val (.int p4), .unset, .unset, .unset, .unset, .unset, .unset] [(.ref b5), (.ref b5)])) _
    refine XS.iconst X6.here hx rfl (hb hby at_9) ?_
    show Steps p.tables e below (T6.setTop (mkF m 10 #[.val (.int p1), .val (.int p2), .val (.int p3), .val (.int p4), .unset, .unset, .unset, .unset, .unset, .unset] [(.int (1 : Int32)), (.ref b5), (.ref b5)])) _
    refine XS.bipush X6.here hx rfl (hb hby at_10) ?_
    show Steps p.tables e below (T6.setTop (mkF m 12 #[.val (.int p1), .val (.int p2), .val (.int p3), .val (.int p4), .unset, .unset, .unset, .unset, .unset, .unset] [(.int (58 : Int32)), (.int (1 : Int32)), (.ref b5), (.ref b5)])) _
    refine st7 _ ?_
    show Steps p.tables e below (T7.setTop (mkF m 13 #[.val (.int p1), .val (.int p2), .val (.int p3), .val (.int p4), .unset, .unset, .unset, .unset, .unset, .unset] [(.ref b5)])) _
    refine XS.dup X7.here hx rfl (hb hby at_13) rfl rfl ?_
    show Steps p.tables e below (T7.setTop (mkF m 14 #[.val (.int p1), .val (.int p2), .val (.int p3), .val (.int p4), .unset, .unset, .unset, .unset, .unset, .unset] [(.ref b5), (.ref b5)])) _
    refine XS.iconst X7.here hx rfl (hb hby at_14) ?_
    show Steps p.tables e below (T7.setTop (mkF m 15 #[.val (.int p1), .val (.int p2), .val (.int p3), .val (.int p4), .unset, .unset, .unset, .unset, .unset, .unset] [(.int (2 : Int32)), (.ref b5), (.ref b5)])) _
    refine XS.bipush X7.here hx rfl (hb hby at_15) ?_
    show Steps p.tables e below (T7.setTop (mkF m 17 #[.val (.int p1), .val (.int p2), .val (.int p3), .val (.int p4), .unset, .unset, .unset, .unset, .unset, .unset] [(.int (65 : Int32)), (.int (2 : Int32)), (.ref b5), (.ref b5)])) _
    refine st8 _ ?_
    show Steps p.tables e below (T8.setTop (mkF m 18 #[.val (.int p1), .val (.int p2), .val (.int p3), .val (.int p4), .unset, .unset, .unset, .unset, .unset, .unset] [(.ref b5)])) _
    refine XS.dup X8.here hx rfl (hb hby at_18) rfl rfl ?_
    show Steps p.tables e below (T8.setTop (mkF m 19 #[.val (.int p1), .val (.int p2), .val (.int p3), .val (.int p4), .unset, .unset, .unset, .unset, .unset, .unset] [(.ref b5), (.ref b5)])) _
    refine XS.iconst X8.here hx rfl (hb hby at_19) ?_
    show Steps p.tables e below (T8.setTop (mkF m 20 #[.val (.int p1), .val (.int p2), .val (.int p3), .val (.int p4), .unset, .unset, .unset, .unset, .unset, .unset] [(.int (3 : Int32)), (.ref b5), (.ref b5)])) _
    refine XS.bipush X8.here hx rfl (hb hby at_20) ?_
    show Steps p.tables e below (T8.setTop (mkF m 22 #[.val (.int p1), .val (.int p2), .val (.int p3), .val (.int p4), .unset, .unset, .unset, .unset, .unset, .unset] [(.int (91 : Int32)), (.int (3 : Int32)), (.ref b5), (.ref b5)])) _
    refine st9 _ ?_
    show Steps p.tables e below (T9.setTop (mkF m 23 #[.val (.int p1), .val (.int p2), .val (.int p3), .val (.int p4), .unset, .unset, .unset, .unset, .unset, .unset] [(.ref b5)])) _
    refine XS.dup X9.here hx rfl (hb hby at_23) rfl rfl ?_
    show Steps p.tables e below (T9.setTop (mkF m 24 #[.val (.int p1), .val (.int p2), .val (.int p3), .val (.int p4), .unset, .unset, .unset, .unset, .unset, .unset] [(.ref b5), (.ref b5)])) _
    refine XS.iconst X9.here hx rfl (hb hby at_24) ?_
    show Steps p.tables e below (T9.setTop (mkF m 25 #[.val (.int p1), .val (.int p2), .val (.int p3), .val (.int p4), .unset, .unset, .unset, .unset, .unset, .unset] [(.int (4 : Int32)), (.ref b5), (.ref b5)])) _
    refine XS.bipush X9.here hx rfl (hb hby at_25) ?_
    show Steps p.tables e below (T9.setTop (mkF m 27 #[.val (.int p1), .val (.int p2), .val (.int p3), .val (.int p4), .unset, .unset, .unset, .unset, .unset, .unset] [(.int (95 : Int32)), (.int (4 : Int32)), (.ref b5), (.ref b5)])) _
    refine st10 _ ?_
    show Steps p.tables e below (T10.setTop (mkF m 28 #[.val (.int p1), .val (.int p2), .val (.int p3), .val (.int p4), .unset, .unset, .unset, .unset, .unset, .unset] [(.ref b5)])) _
    refine XS.dup X10.here hx rfl (hb hby at_28) rfl rfl ?_
    show Steps p.tables e below (T10.setTop (mkF m 29 #[.val (.int p1), .val (.int p2), .val (.int p3), .val (.int p4), .unset, .unset, .unset, .unset, .unset, .unset] [(.ref b5), (.ref b5)])) _
    refine XS.iconst X10.here hx rfl (hb hby at_29) ?_
    show Steps p.tables e below (T10.setTop (mkF m 30 #[.val (.int p1), .val (.int p2), .val (.int p3), .val (.int p4), .unset, .unset, .unset, .unset, .unset, .unset] [(.int (5 : Int32)), (.ref b5), (.ref b5)])) _
    refine XS.bipush X10.here hx rfl (hb hby at_30) ?_
    show Steps p.tables e below (T10.setTop (mkF m 32 #[.val (.int p1), .val (.int p2), .val (.int p3), .val (.int p4), .unset, .unset, .unset, .unset, .unset, .unset] [(.int (96 : Int32)), (.int (5 : Int32)), (.ref b5), (.ref b5)])) _
    refine st11 _ ?_
    show Steps p.tables e below (T11.setTop (mkF m 33 #[.val (.int p1), .val (.int p2), .val (.int p3), .val (.int p4), .unset, .unset, .unset, .unset, .unset, .unset] [(.ref b5)])) _
    refine XS.dup X11.here hx rfl (hb hby at_33) rfl rfl ?_
    show Steps p.tables e below (T11.setTop (mkF m 34 #[.val (.int p1), .val (.int p2), .val (.int p3), .val (.int p4), .unset, .unset, .unset, .unset, .unset, .unset] [(.ref b5), (.ref b5)])) _
    refine XS.bipush X11.here hx rfl (hb hby at_34) ?_
    show Steps p.tables e below (T11.setTop (mkF m 36 #[.val (.int p1), .val (.int p2), .val (.int p3), .val (.int p4), .unset, .unset, .unset, .unset, .unset, .unset] [(.int (6 : Int32)), (.ref b5), (.ref b5)])) _
    refine XS.bipush X11.here hx rfl (hb hby at_36) ?_
    show Steps p.tables e below (T11.setTop (mkF m 38 #[.val (.int p1), .val (.int p2), .val (.int p3), .val (.int p4), .unset, .unset, .unset, .unset, .unset, .unset] [(.int (97 : Int32)), (.int (6 : Int32)), (.ref b5), (.ref b5)])) _
    refine st12 _ ?_
    show Steps p.tables e below (T12.setTop (mkF m 39 #[.val (.int p1), .val (.int p2), .val (.int p3), .val (.int p4), .unset, .unset, .unset, .unset, .unset, .unset] [(.ref b5)])) _
    refine XS.dup X12.here hx rfl (hb hby at_39) rfl rfl ?_
    show Steps p.tables e below (T12.setTop (mkF m 40 #[.val (.int p1), .val (.int p2), .val (.int p3), .val (.int p4), .unset, .unset, .unset, .unset, .unset, .unset] [(.ref b5), (.ref b5)])) _
    refine XS.bipush X12.here hx rfl (hb hby at_40) ?_
    show Steps p.tables e below (T12.setTop (mkF m 42 #[.val (.int p1), .val (.int p2), .val (.int p3), .val (.int p4), .unset, .unset, .unset, .unset, .unset, .unset] [(.int (7 : Int32)), (.ref b5), (.ref b5)])) _
    refine XS.bipush X12.here hx rfl (hb hby at_42) ?_
    show Steps p.tables e below (T12.setTop (mkF m 44 #[.val (.int p1), .val (.int p2), .val (.int p3), .val (.int p4), .unset, .unset, .unset, .unset, .unset, .unset] [(.int (123 : Int32)), (.int (7 : Int32)), (.ref b5), (.ref b5)])) _
    refine st13 _ ?_
    show Steps p.tables e below (T13.setTop (mkF m 45 #[.val (.int p1), .val (.int p2), .val (.int p3), .val (.int p4), .unset, .unset, .unset, .unset, .unset, .unset] [(.ref b5)])) _
    refine XS.dup X13.here hx rfl (hb hby at_45) rfl rfl ?_
    show Steps p.tables e below (T13.setTop (mkF m 46 #[.val (.int p1), .val (.int p2), .val (.int p3), .val (.int p4), .unset, .unset, .unset, .unset, .unset, .unset] [(.ref b5), (.ref b5)])) _
    refine XS.bipush X13.here hx rfl (hb hby at_46) ?_
    show Steps p.tables e below (T13.setTop (mkF m 48 #[.val (.int p1), .val (.int p2), .val (.int p3), .val (.int p4), .unset, .unset, .unset, .unset, .unset, .unset] [(.int (8 : Int32)), (.ref b5), (.ref b5)])) _
    refine XS.sipush X13.here hx rfl (hb hby at_48) ?_
    show Steps p.tables e below (T13.setTop (mkF m 51 #[.val (.int p1), .val (.int p2), .val (.int p3), .val (.int p4), .unset, .unset, .unset, .unset, .unset, .unset] [(.int (192 : Int32)), (.int (8 : Int32)), (.ref b5), (.ref b5)])) _
    refine st14 _ ?_
    show Steps p.tables e below (T14.setTop (mkF m 52 #[.val (.int p1), .val (.int p2), .val (.int p3), .val (.int p4), .unset, .unset, .unset, .unset, .unset, .unset] [(.ref b5)])) _
    refine XS.dup X14.here hx rfl (hb hby at_52) rfl rfl ?_
    show Steps p.tables e below (T14.setTop (mkF m 53 #[.val (.int p1), .val (.int p2), .val (.int p3), .val (.int p4), .unset, .unset, .unset, .unset, .unset, .unset] [(.ref b5), (.ref b5)])) _
    refine XS.bipush X14.here hx rfl (hb hby at_53) ?_
    show Steps p.tables e below (T14.setTop (mkF m 55 #[.val (.int p1), .val (.int p2), .val (.int p3), .val (.int p4), .unset, .unset, .unset, .unset, .unset, .unset] [(.int (9 : Int32)), (.ref b5), (.ref b5)])) _
    refine XS.sipush X14.here hx rfl (hb hby at_55) ?_
    show Steps p.tables e below (T14.setTop (mkF m 58 #[.val (.int p1), .val (.int p2), .val (.int p3), .val (.int p4), .unset, .unset, .unset, .unset, .unset, .unset] [(.int (215 : Int32)), (.int (9 : Int32)), (.ref b5), (.ref b5)])) _
    refine st15 _ ?_
    show Steps p.tables e below (T15.setTop (mkF m 59 #[.val (.int p1), .val (.int p2), .val (.int p3), .val (.int p4), .unset, .unset, .unset, .unset, .unset, .unset] [(.ref b5)])) _
    refine XS.dup X15.here hx rfl (hb hby at_59) rfl rfl ?_
    show Steps p.tables e below (T15.setTop (mkF m 60 #[.val (.int p1), .val (.int p2), .val (.int p3), .val (.int p4), .unset, .unset, .unset, .unset, .unset, .unset] [(.ref b5), (.ref b5)])) _
    refine XS.bipush X15.here hx rfl (hb hby at_60) ?_
    show Steps p.tables e below (T15.setTop (mkF m 62 #[.val (.int p1), .val (.int p2), .val (.int p3), .val (.int p4), .unset, .unset, .unset, .unset, .unset, .unset] [(.int (10 : Int32)), (.ref b5), (.ref b5)])) _
    refine XS.sipush X15.here hx rfl (hb hby at_62) ?_
    show Steps p.tables e below (T15.setTop (mkF m 65 #[.val (.int p1), .val (.int p2), .val (.int p3), .val (.int p4), .unset, .unset, .unset, .unset, .unset, .unset] [(.int (216 : Int32)), (.int (10 : Int32)), (.ref b5), (.ref b5)])) _
    refine st16 _ ?_
    show Steps p.tables e below (T16.setTop (mkF m 66 #[.val (.int p1), .val (.int p2), .val (.int p3), .val (.int p4), .unset, .unset, .unset, .unset, .unset, .unset] [(.ref b5)])) _
    refine XS.dup X16.here hx rfl (hb hby at_66) rfl rfl ?_
    show Steps p.tables e below (T16.setTop (mkF m 67 #[.val (.int p1), .val (.int p2), .val (.int p3), .val (.int p4), .unset, .unset, .unset, .unset, .unset, .unset] [(.ref b5), (.ref b5)])) _
    refine XS.bipush X16.here hx rfl (hb hby at_67) ?_
    show Steps p.tables e below (T16.setTop (mkF m 69 #[.val (.int p1), .val (.int p2), .val (.int p3), .val (.int p4), .unset, .unset, .unset, .unset, .unset, .unset] [(.int (11 : Int32)), (.ref b5), (.ref b5)])) _
    refine XS.sipush X16.here hx rfl (hb hby at_69) ?_
    show Steps p.tables e below (T16.setTop (mkF m 72 #[.val (.int p1), .val (.int p2), .val (.int p3), .val (.int p4), .unset, .unset, .unset, .unset, .unset, .unset] [(.int (247 : Int32)), (.int (11 : Int32)), (.ref b5), (.ref b5)])) _
    refine st17 _ ?_
    show Steps p.tables e below (T17.setTop (mkF m 73 #[.val (.int p1), .val (.int p2), .val (.int p3), .val (.int p4), .unset, .unset, .unset, .unset, .unset, .unset] [(.ref b5)])) _
    refine XS.dup X17.here hx rfl (hb hby at_73) rfl rfl ?_
    show Steps p.tables e below (T17.setTop (mkF m 74 #[.val (.int p1), .val (.int p2), .val (.int p3), .val (.int p4), .unset, .unset, .unset, .unset, .unset, .unset] [(.ref b5), (.ref b5)])) _
    refine XS.bipush X17.here hx rfl (hb hby at_74) ?_
    show Steps p.tables e below (T17.setTop (mkF m 76 #[.val (.int p1), .val (.int p2), .val (.int p3), .val (.int p4), .unset, .unset, .unset, .unset, .unset, .unset] [(.int (12 : Int32)), (.ref b5), (.ref b5)])) _
    refine XS.sipush X17.here hx rfl (hb hby at_76) ?_
    show Steps p.tables e below (T17.setTop (mkF m 79 #[.val (.int p1), .val (.int p2), .val (.int p3), .val (.int p4), .unset, .unset, .unset, .unset, .unset, .unset] [(.int (248 : Int32)), (.int (12 : Int32)), (.ref b5), (.ref b5)])) _
    refine st18 _ ?_
    show Steps p.tables e below (T18.setTop (mkF m 80 #[.val (.int p1), .val (.int p2), .val (.int p3), .val (.int p4), .unset, .unset, .unset, .unset, .unset, .unset] [(.ref b5)])) _
    refine XS.dup X18.here hx rfl (hb hby at_80) rfl rfl ?_
    show Steps p.tables e below (T18.setTop (mkF m 81 #[.val (.int p1), .val (.int p2), .val (.int p3), .val (.int p4), .unset, .unset, .unset, .unset, .unset, .unset] [(.ref b5), (.ref b5)])) _
    refine XS.bipush X18.here hx rfl (hb hby at_81) ?_
    show Steps p.tables e below (T18.setTop (mkF m 83 #[.val (.int p1), .val (.int p2), .val (.int p3), .val (.int p4), .unset, .unset, .unset, .unset, .unset, .unset] [(.int (13 : Int32)), (.ref b5), (.ref b5)])) _
    refine XS.sipush X18.here hx rfl (hb hby at_83) ?_
    show Steps p.tables e below (T18.setTop (mkF m 86 #[.val (.int p1), .val (.int p2), .val (.int p3), .val (.int p4), .unset, .unset, .unset, .unset, .unset, .unset] [(.int (768 : Int32)), (.int (13 : Int32)), (.ref b5), (.ref b5)])) _
    refine st19 _ ?_
    show Steps p.tables e below (T19.setTop (mkF m 87 #[.val (.int p1), .val (.int p2), .val (.int p3), .val (.int p4), .unset, .unset, .unset, .unset, .unset, .unset] [(.ref b5)])) _
    refine XS.dup X19.here hx rfl (hb hby at_87) rfl rfl ?_
    show Steps p.tables e below (T19.setTop (mkF m 88 #[.val (.int p1), .val (.int p2), .val (.int p3), .val (.int p4), .unset, .unset, .unset, .unset, .unset, .unset] [(.ref b5), (.ref b5)])) _
    refine XS.bipush X19.here hx rfl (hb hby at_88) ?_
    show Steps p.tables e below (T19.setTop (mkF m 90 #[.val (.int p1), .val (.int p2), .val (.int p3), .val (.int p4), .unset, .unset, .unset, .unset, .unset, .unset] [(.int (14 : Int32)), (.ref b5), (.ref b5)])) _
    refine XS.sipush X19.here hx rfl (hb hby at_90) ?_
    show Steps p.tables e below (T19.setTop (mkF m 93 #[.val (.int p1), .val (.int p2), .val (.int p3), .val (.int p4), .unset, .unset, .unset, .unset, .unset, .unset] [(.int (880 : Int32)), (.int (14 : Int32)), (.ref b5), (.ref b5)])) _
    refine st20 _ ?_
    show Steps p.tables e below (T20.setTop (mkF m 94 #[.val (.int p1), .val (.int p2), .val (.int p3), .val (.int p4), .unset, .unset, .unset, .unset, .unset, .unset] [(.ref b5)])) _
    refine XS.dup X20.here hx rfl (hb hby at_94) rfl rfl ?_
    show Steps p.tables e below (T20.setTop (mkF m 95 #[.val (.int p1), .val (.int p2), .val (.int p3), .val (.int p4), .unset, .unset, .unset, .unset, .unset, .unset] [(.ref b5), (.ref b5)])) _
    refine XS.bipush X20.here hx rfl (hb hby at_95) ?_
    show Steps p.tables e below (T20.setTop (mkF m 97 #[.val (.int p1), .val (.int p2), .val (.int p3), .val (.int p4), .unset, .unset, .unset, .unset, .unset, .unset] [(.int (15 : Int32)), (.ref b5), (.ref b5)])) _
    refine XS.sipush X20.here hx rfl (hb hby at_97) ?_
    show Steps p.tables e below (T20.setTop (mkF m 100 #[.val (.int p1), .val (.int p2), .val (.int p3), .val (.int p4), .unset, .unset, .unset, .unset, .unset, .unset] [(.int (894 : Int32)), (.int (15 : Int32)), (.ref b5), (.ref b5)])) _
    refine st21 _ ?_
    show Steps p.tables e below (T21.setTop (mkF m 101 #[.val (.int p1), .val (.int p2), .val (.int p3), .val (.int p4), .unset, .unset, .unset, .unset, .unset, .unset] [(.ref b5)])) _
    refine XS.dup X21.here hx rfl (hb hby at_101) rfl rfl ?_
    show Steps p.tables e below (T21.setTop (mkF m 102 #[.val (.int p1), .val (.int p2), .val (.int p3), .val (.int p4), .unset, .unset, .unset, .unset, .unset, .unset] [(.ref b5), (.ref b5)])) _
    refine XS.bipush X21.here hx rfl (hb hby at_102) ?_
    show Steps p.tables e below (T21.setTop (mkF m 104 #[.val (.int p1), .val (.int p2), .val (.int p3), .val (.int p4), .unset, .unset, .unset, .unset, .unset, .unset] [(.int (16 : Int32)), (.ref b5), (.ref b5)])) _
    refine XS.sipush X21.here hx rfl (hb hby at_104) ?_
    show Steps p.tables e below (T21.setTop (mkF m 107 #[.val (.int p1), .val (.int p2), .val (.int p3), .val (.int p4), .unset, .unset, .unset, .unset, .unset, .unset] [(.int (895 : Int32)), (.int (16 : Int32)), (.ref b5), (.ref b5)])) _
    refine st22 _ ?_
    show Steps p.tables e below (T22.setTop (mkF m 108 #[.val (.int p1), .val (.int p2), .val (.int p3), .val (.int p4), .unset, .unset, .unset, .unset, .unset, .unset] [(.ref b5)])) _
    refine XS.dup X22.here hx rfl (hb hby at_108) rfl rfl ?_
    show Steps p.tables e below (T22.setTop (mkF m 109 #[.val (.int p1), .val (.int p2), .val (.int p3), .val (.int p4), .unset, .unset, .unset, .unset, .unset, .unset] [(.ref b5), (.ref b5)])) _
    refine XS.bipush X22.here hx rfl (hb hby at_109) ?_
    show Steps p.tables e below (T22.setTop (mkF m 111 #[.val (.int p1), .val (.int p2), .val (.int p3), .val (.int p4), .unset, .unset, .unset, .unset, .unset, .unset] [(.int (17 : Int32)), (.ref b5), (.ref b5)])) _
    refine XS.sipush X22.here hx rfl (hb hby at_111) ?_
    show Steps p.tables e below (T22.setTop (mkF m 114 #[.val (.int p1), .val (.int p2), .val (.int p3), .val (.int p4), .unset, .unset, .unset, .unset, .unset, .unset] [(.int (8192 : Int32)), (.int (17 : Int32)), (.ref b5), (.ref b5)])) _
    refine st23 _ ?_
    show Steps p.tables e below (T23.setTop (mkF m 115 #[.val (.int p1), .val (.int p2), .val (.int p3), .val (.int p4), .unset, .unset, .unset, .unset, .unset, .unset] [(.ref b5)])) _
    refine XS.dup X23.here hx rfl (hb hby at_115) rfl rfl ?_
    show Steps p.tables e below (T23.setTop (mkF m 116 #[.val (.int p1), .val (.int p2), .val (.int p3), .val (.int p4), .unset, .unset, .unset, .unset, .unset, .unset] [(.ref b5), (.ref b5)])) _
    refine XS.bipush X23.here hx rfl (hb hby at_116) ?_
    show Steps p.tables e below (T23.setTop (mkF m 118 #[.val (.int p1), .val (.int p2), .val (.int p3), .val (.int p4), .unset, .unset, .unset, .unset, .unset, .unset] [(.int (18 : Int32)), (.ref b5), (.ref b5)])) _
    refine XS.sipush X23.here hx rfl (hb hby at_118) ?_
    show Steps p.tables e below (T23.setTop (mkF m 121 #[.val (.int p1), .val (.int p2), .val (.int p3), .val (.int p4), .unset, .unset, .unset, .unset, .unset, .unset] [(.int (8204 : Int32)), (.int (18 : Int32)), (.ref b5), (.ref b5)])) _
    refine st24 _ ?_
    show Steps p.tables e below (T24.setTop (mkF m 122 #[.val (.int p1), .val (.int p2), .val (.int p3), .val (.int p4), .unset, .unset, .unset, .unset, .unset, .unset] [(.ref b5)])) _
    refine XS.dup X24.here hx rfl (hb hby at_122) rfl rfl ?_
    show Steps p.tables e below (T24.setTop (mkF m 123 #[.val (.int p1), .val (.int p2), .val (.int p3), .val (.int p4), .unset, .unset, .unset, .unset, .unset, .unset] [(.ref b5), (.ref b5)])) _
    refine XS.bipush X24.here hx rfl (hb hby at_123) ?_
    show Steps p.tables e below (T24.setTop (mkF m 125 #[.val (.int p1), .val (.int p2), .val (.int p3), .val (.int p4), .unset, .unset, .unset, .unset, .unset, .unset] [(.int (19 : Int32)), (.ref b5), (.ref b5)])) _
    refine XS.sipush X24.here hx rfl (hb hby at_125) ?_
    show Steps p.tables e below (T24.setTop (mkF m 128 #[.val (.int p1), .val (.int p2), .val (.int p3), .val (.int p4), .unset, .unset, .unset, .unset, .unset, .unset] [(.int (8206 : Int32)), (.int (19 : Int32)), (.ref b5), (.ref b5)])) _
    refine st25 _ ?_
    show Steps p.tables e below (T25.setTop (mkF m 129 #[.val (.int p1), .val (.int p2), .val (.int p3), .val (.int p4), .unset, .unset, .unset, .unset, .unset, .unset] [(.ref b5)])) _
    refine XS.dup X25.here hx rfl (hb hby at_129) rfl rfl ?_
    show Steps p.tables e below (T25.setTop (mkF m 130 #[.val (.int p1), .val (.int p2), .val (.int p3), .val (.int p4), .unset, .unset, .unset, .unset, .unset, .unset] [(.ref b5), (.ref b5)])) _
    refine XS.bipush X25.here hx rfl (hb hby at_130) ?_
    show Steps p.tables e below (T25.setTop (mkF m 132 #[.val (.int p1), .val (.int p2), .val (.int p3), .val (.int p4), .unset, .unset, .unset, .unset, .unset, .unset] [(.int (20 : Int32)), (.ref b5), (.ref b5)])) _
    refine XS.sipush X25.here hx rfl (hb hby at_132) ?_
    show Steps p.tables e below (T25.setTop (mkF m 135 #[.val (.int p1), .val (.int p2), .val (.int p3), .val (.int p4), .unset, .unset, .unset, .unset, .unset, .unset] [(.int (8304 : Int32)), (.int (20 : Int32)), (.ref b5), (.ref b5)])) _
    refine st26 _ ?_
    show Steps p.tables e below (T26.setTop (mkF m 136 #[.val (.int p1), .val (.int p2), .val (.int p3), .val (.int p4), .unset, .unset, .unset, .unset, .unset, .unset] [(.ref b5)])) _
    refine XS.dup X26.here hx rfl (hb hby at_136) rfl rfl ?_
    show Steps p.tables e below (T26.setTop (mkF m 137 #[.val (.int p1), .val (.int p2), .val (.int p3), .val (.int p4), .unset, .unset, .unset, .unset, .unset, .unset] [(.ref b5), (.ref b5)])) _
    refine XS.bipush X26.here hx rfl (hb hby at_137) ?_
    show Steps p.tables e below (T26.setTop (mkF m 139 #[.val (.int p1), .val (.int p2), .val (.int p3), .val (.int p4), .unset, .unset, .unset, .unset, .unset, .unset] [(.int (21 : Int32)), (.ref b5), (.ref b5)])) _
    refine XS.sipush X26.here hx rfl (hb hby at_139) ?_
    show Steps p.tables e below (T26.setTop (mkF m 142 #[.val (.int p1), .val (.int p2), .val (.int p3), .val (.int p4), .unset, .unset, .unset, .unset, .unset, .unset] [(.int (8592 : Int32)), (.int (21 : Int32)), (.ref b5), (.ref b5)])) _
    refine st27 _ ?_
    show Steps p.tables e below (T27.setTop (mkF m 143 #[.val (.int p1), .val (.int p2), .val (.int p3), .val (.int p4), .unset, .unset, .unset, .unset, .unset, .unset] [(.ref b5)])) _
    refine XS.dup X27.here hx rfl (hb hby at_143) rfl rfl ?_
    show Steps p.tables e below (T27.setTop (mkF m 144 #[.val (.int p1), .val (.int p2), .val (.int p3), .val (.int p4), .unset, .unset, .unset, .unset, .unset, .unset] [(.ref b5), (.ref b5)])) _
    refine XS.bipush X27.here hx rfl (hb hby at_144) ?_
    show Steps p.tables e below (T27.setTop (mkF m 146 #[.val (.int p1), .val (.int p2), .val (.int p3), .val (.int p4), .unset, .unset, .unset, .unset, .unset, .unset] [(.int (22 : Int32)), (.ref b5), (.ref b5)])) _
    refine XS.sipush X27.here hx rfl (hb hby at_146) ?_
    show Steps p.tables e below (T27.setTop (mkF m 149 #[.val (.int p1), .val (.int p2), .val (.int p3), .val (.int p4), .unset, .unset, .unset, .unset, .unset, .unset] [(.int (11264 : Int32)), (.int (22 : Int32)), (.ref b5), (.ref b5)])) _
    refine st28 _ ?_
    show Steps p.tables e below (T28.setTop (mkF m 150 #[.val (.int p1), .val (.int p2), .val (.int p3), .val (.int p4), .unset, .unset, .unset, .unset, .unset, .unset] [(.ref b5)])) _
    refine XS.dup X28.here hx rfl (hb hby at_150) rfl rfl ?_
    show Steps p.tables e below (T28.setTop (mkF m 151 #[.val (.int p1), .val (.int p2), .val (.int p3), .val (.int p4), .unset, .unset, .unset, .unset, .unset, .unset] [(.ref b5), (.ref b5)])) _
    refine XS.bipush X28.here hx rfl (hb hby at_151) ?_
    show Steps p.tables e below (T28.setTop (mkF m 153 #[.val (.int p1), .val (.int p2), .val (.int p3), .val (.int p4), .unset, .unset, .unset, .unset, .unset, .unset] [(.int (23 : Int32)), (.ref b5), (.ref b5)])) _
    refine XS.sipush X28.here hx rfl (hb hby at_153) ?_
    show Steps p.tables e below (T28.setTop (mkF m 156 #[.val (.int p1), .val (.int p2), .val (.int p3), .val (.int p4), .unset, .unset, .unset, .unset, .unset, .unset] [(.int (12272 : Int32)), (.int (23 : Int32)), (.ref b5), (.ref b5)])) _
    refine st29 _ ?_
    show Steps p.tables e below (T29.setTop (mkF m 157 #[.val (.int p1), .val (.int p2), .val (.int p3), .val (.int p4), .unset, .unset, .unset, .unset, .unset, .unset] [(.ref b5)])) _
    refine XS.dup X29.here hx rfl (hb hby at_157) rfl rfl ?_
    show Steps p.tables e below (T29.setTop (mkF m 158 #[.val (.int p1), .val (.int p2), .val (.int p3), .val (.int p4), .unset, .unset, .unset, .unset, .unset, .unset] [(.ref b5), (.ref b5)])) _
    refine XS.bipush X29.here hx rfl (hb hby at_158) ?_
    show Steps p.tables e below (T29.setTop (mkF m 160 #[.val (.int p1), .val (.int p2), .val (.int p3), .val (.int p4), .unset, .unset, .unset, .unset, .unset, .unset] [(.int (24 : Int32)), (.ref b5), (.ref b5)])) _
    refine XS.sipush X29.here hx rfl (hb hby at_160) ?_
    show Steps p.tables e below (T29.setTop (mkF m 163 #[.val (.int p1), .val (.int p2), .val (.int p3), .val (.int p4), .unset, .unset, .unset, .unset, .unset, .unset] [(.int (12289 : Int32)), (.int (24 : Int32)), (.ref b5), (.ref b5)])) _
    refine st30 _ ?_
    show Steps p.tables e below (T30.setTop (mkF m 164 #[.val (.int p1), .val (.int p2), .val (.int p3), .val (.int p4), .unset, .unset, .unset, .unset, .unset, .unset] [(.ref b5)])) _
    refine XS.dup X30.here hx rfl (hb hby at_164) rfl rfl ?_
    show Steps p.tables e below (T30.setTop (mkF m 165 #[.val (.int p1), .val (.int p2), .val (.int p3), .val (.int p4), .unset, .unset, .unset, .unset, .unset, .unset] [(.ref b5), (.ref b5)])) _
    refine XS.bipush X30.here hx rfl (hb hby at_165) ?_
    show Steps p.tables e below (T30.setTop (mkF m 167 #[.val (.int p1), .val (.int p2), .val (.int p3), .val (.int p4), .unset, .unset, .unset, .unset, .unset, .unset] [(.int (25 : Int32)), (.ref b5), (.ref b5)])) _
    refine X30.ldcInt hx hown (mvT hZ (hw _ (List.mem_of_getElem? (i := 1) rfl))) (g := (mkF m 167 #[.val (.int p1), .val (.int p2), .val (.int p3), .val (.int p4), .unset, .unset, .unset, .unset, .unset, .unset] [(.int (25 : Int32)), (.ref b5), (.ref b5)])) rfl (hb hby at_167) _ ?_
    show Steps p.tables e below (T30.setTop (mkF m 169 #[.val (.int p1), .val (.int p2), .val (.int p3), .val (.int p4), .unset, .unset, .unset, .unset, .unset, .unset] [(.int (55296 : Int32)), (.int (25 : Int32)), (.ref b5), (.ref b5)])) _
    refine st31 _ ?_
    show Steps p.tables e below (T31.setTop (mkF m 170 #[.val (.int p1), .val (.int p2), .val (.int p3), .val (.int p4), .unset, .unset, .unset, .unset, .unset, .unset] [(.ref b5)])) _
    refine XS.dup X31.here hx rfl (hb hby at_170) rfl rfl ?_
    show Steps p.tables e below (T31.setTop (mkF m 171 #[.val (.int p1), .val (.int p2), .val (.int p3), .val (.int p4), .unset, .unset, .unset, .unset, .unset, .unset] [(.ref b5), (.ref b5)])) _
    refine XS.bipush X31.here hx rfl (hb hby at_171) ?_
    show Steps p.tables e below (T31.setTop (mkF m 173 #[.val (.int p1), .val (.int p2), .val (.int p3), .val (.int p4), .unset, .unset, .unset, .unset, .unset, .unset] [(.int (26 : Int32)), (.ref b5), (.ref b5)])) _
    refine X31.ldcInt hx hown (mvT hZ (hw _ (List.mem_of_getElem? (i := 2) rfl))) (g := (mkF m 173 #[.val (.int p1), .val (.int p2), .val (.int p3), .val (.int p4), .unset, .unset, .unset, .unset, .unset, .unset] [(.int (26 : Int32)), (.ref b5), (.ref b5)])) rfl (hb hby at_173) _ ?_
    show Steps p.tables e below (T31.setTop (mkF m 175 #[.val (.int p1), .val (.int p2), .val (.int p3), .val (.int p4), .unset, .unset, .unset, .unset, .unset, .unset] [(.int (63744 : Int32)), (.int (26 : Int32)), (.ref b5), (.ref b5)])) _
    refine st32 _ ?_
    show Steps p.tables e below (T32.setTop (mkF m 176 #[.val (.int p1), .val (.int p2), .val (.int p3), .val (.int p4), .unset, .unset, .unset, .unset, .unset, .unset] [(.ref b5)])) _
    refine XS.dup X32.here hx rfl (hb hby at_176) rfl rfl ?_
    show Steps p.tables e below (T32.setTop (mkF m 177 #[.val (.int p1), .val (.int p2), .val (.int p3), .val (.int p4), .unset, .unset, .unset, .unset, .unset, .unset] [(.ref b5), (.ref b5)])) _
    refine XS.bipush X32.here hx rfl (hb hby at_177) ?_
    show Steps p.tables e below (T32.setTop (mkF m 179 #[.val (.int p1), .val (.int p2), .val (.int p3), .val (.int p4), .unset, .unset, .unset, .unset, .unset, .unset] [(.int (27 : Int32)), (.ref b5), (.ref b5)])) _
    refine X32.ldcInt hx hown (mvT hZ (hw _ (List.mem_of_getElem? (i := 3) rfl))) (g := (mkF m 179 #[.val (.int p1), .val (.int p2), .val (.int p3), .val (.int p4), .unset, .unset, .unset, .unset, .unset, .unset] [(.int (27 : Int32)), (.ref b5), (.ref b5)])) rfl (hb hby at_179) _ ?_
    show Steps p.tables e below (T32.setTop (mkF m 181 #[.val (.int p1), .val (.int p2), .val (.int p3), .val (.int p4), .unset, .unset, .unset, .unset, .unset, .unset] [(.int (64976 : Int32)), (.int (27 : Int32)), (.ref b5), (.ref b5)])) _
    refine st33 _ ?_
    show Steps p.tables e below (T33.setTop (mkF m 182 #[.val (.int p1), .val (.int p2), .val (.int p3), .val (.int p4), .unset, .unset, .unset, .unset, .unset, .unset] [(.ref b5)])) _
    refine XS.dup X33.here hx rfl (hb hby at_182) rfl rfl ?_
    show Steps p.tables e below (T33.setTop (mkF m 183 #[.val (.int p1), .val (.int p2), .val (.int p3), .val (.int p4), .unset, .unset, .unset, .unset, .unset, .unset] [(.ref b5), (.ref b5)])) _
    refine XS.bipush X33.here hx rfl (hb hby at_183) ?_
    show Steps p.tables e below (T33.setTop (mkF m 185 #[.val (.int p1), .val (.int p2), .val (.int p3), .val (.int p4), .unset, .unset, .unset, .unset, .unset, .unset] [(.int (28 : Int32)), (.ref b5), (.ref b5)])) _
    refine X33.ldcInt hx hown (mvT hZ (hw _ (List.mem_of_getElem? (i := 4) rfl))) (g := (mkF m 185 #[.val (.int p1), .val (.int p2), .val (.int p3), .val (.int p4), .unset, .unset, .unset, .unset, .unset, .unset] [(.int (28 : Int32)), (.ref b5), (.ref b5)])) rfl (hb hby at_185) _ ?_
    show Steps p.tables e below (T33.setTop (mkF m 187 #[.val (.int p1), .val (.int p2), .val (.int p3), .val (.int p4), .unset, .unset, .unset, .unset, .unset, .unset] [(.int (65008 : Int32)), (.int (28 : Int32)), (.ref b5), (.ref b5)])) _
    refine st34 _ ?_
    show Steps p.tables e below (T34.setTop (mkF m 188 #[.val (.int p1), .val (.int p2), .val (.int p3), .val (.int p4), .unset, .unset, .unset, .unset, .unset, .unset] [(.ref b5)])) _
    refine XS.dup X34.here hx rfl (hb hby at_188) rfl rfl ?_
    show Steps p.tables e below (T34.setTop (mkF m 189 #[.val (.int p1), .val (.int p2), .val (.int p3), .val (.int p4), .unset, .unset, .unset, .unset, .unset, .unset] [(.ref b5), (.ref b5)])) _
    refine XS.bipush X34.here hx rfl (hb hby at_189) ?_
    show Steps p.tables e below (T34.setTop (mkF m 191 #[.val (.int p1), .val (.int p2), .val (.int p3), .val (.int p4), .unset, .unset, .unset, .unset, .unset, .unset] [(.int (29 : Int32)), (.ref b5), (.ref b5)])) _
    refine X34.ldcInt hx hown (mvT hZ (hw _ (List.mem_of_getElem? (i := 5) rfl))) (g := (mkF m 191 #[.val (.int p1), .val (.int p2), .val (.int p3), .val (.int p4), .unset, .unset, .unset, .unset, .unset, .unset] [(.int (29 : Int32)), (.ref b5), (.ref b5)])) rfl (hb hby at_191) _ ?_
    show Steps p.tables e below (T34.setTop (mkF m 193 #[.val (.int p1), .val (.int p2), .val (.int p3), .val (.int p4), .unset, .unset, .unset, .unset, .unset, .unset] [(.int (65534 : Int32)), (.int (29 : Int32)), (.ref b5), (.ref b5)])) _
    refine st35 _ ?_
    show Steps p.tables e below (T35.setTop (mkF m 194 #[.val (.int p1), .val (.int p2), .val (.int p3), .val (.int p4), .unset, .unset, .unset, .unset, .unset, .unset] [(.ref b5)])) _
    refine XS.dup X35.here hx rfl (hb hby at_194) rfl rfl ?_
    show Steps p.tables e below (T35.setTop (mkF m 195 #[.val (.int p1), .val (.int p2), .val (.int p3), .val (.int p4), .unset, .unset, .unset, .unset, .unset, .unset] [(.ref b5), (.ref b5)])) _
    refine XS.bipush X35.here hx rfl (hb hby at_195) ?_
    show Steps p.tables e below (T35.setTop (mkF m 197 #[.val (.int p1), .val (.int p2), .val (.int p3), .val (.int p4), .unset, .unset, .unset, .unset, .unset, .unset] [(.int (30 : Int32)), (.ref b5), (.ref b5)])) _
    refine X35.ldcInt hx hown (mvT hZ (hw _ (List.mem_of_getElem? (i := 6) rfl))) (g := (mkF m 197 #[.val (.int p1), .val (.int p2), .val (.int p3), .val (.int p4), .unset, .unset, .unset, .unset, .unset, .unset] [(.int (30 : Int32)), (.ref b5), (.ref b5)])) rfl (hb hby at_197) _ ?_
    show Steps p.tables e below (T35.setTop (mkF m 199 #[.val (.int p1), .val (.int p2), .val (.int p3), .val (.int p4), .unset, .unset, .unset, .unset, .unset, .unset] [(.int (65536 : Int32)), (.int (30 : Int32)), (.ref b5), (.ref b5)])) _
    refine st36 _ ?_
    show Steps p.tables e below (T36.setTop (mkF m 200 #[.val (.int p1), .val (.int p2), .val (.int p3), .val (.int p4), .unset, .unset, .unset, .unset, .unset, .unset] [(.ref b5)])) _
    refine XS.dup X36.here hx rfl (hb hby at_200) rfl rfl ?_
    show Steps p.tables e below (T36.setTop (mkF m 201 #[.val (.int p1), .val (.int p2), .val (.int p3), .val (.int p4), .unset, .unset, .unset, .unset, .unset, .unset] [(.ref b5), (.ref b5)])) _
    refine XS.bipush X36.here hx rfl (hb hby at_201) ?_
    show Steps p.tables e below (T36.setTop (mkF m 203 #[.val (.int p1), .val (.int p2), .val (.int p3), .val (.int p4), .unset, .unset, .unset, .unset, .unset, .unset] [(.int (31 : Int32)), (.ref b5), (.ref b5)])) _
    refine X36.ldcInt hx hown (mvT hZ (hw _ (List.mem_of_getElem? (i := 7) rfl))) (g := (mkF m 203 #[.val (.int p1), .val (.int p2), .val (.int p3), .val (.int p4), .unset, .unset, .unset, .unset, .unset, .unset] [(.int (31 : Int32)), (.ref b5), (.ref b5)])) rfl (hb hby at_203) _ ?_
    show Steps p.tables e below (T36.setTop (mkF m 205 #[.val (.int p1), .val (.int p2), .val (.int p3), .val (.int p4), .unset, .unset, .unset, .unset, .unset, .unset] [(.int (983040 : Int32)), (.int (31 : Int32)), (.ref b5), (.ref b5)])) _
    refine st37 _ ?_
    show Steps p.tables e below (T37.setTop (mkF m 206 #[.val (.int p1), .val (.int p2), .val (.int p3), .val (.int p4), .unset, .unset, .unset, .unset, .unset, .unset] [(.ref b5)])) _
    refine XS.astore X37.here hx rfl (hb hby at_206) rfl rfl (l' := #[.val (.int p1), .val (.int p2), .val (.int p3), .val (.int p4), .val (.ref b5), .unset, .unset, .unset, .unset, .unset]) rfl ?_
    show Steps p.tables e below (T37.setTop (mkF m 208 #[.val (.int p1), .val (.int p2), .val (.int p3), .val (.int p4), .val (.ref b5), .unset, .unset, .unset, .unset, .unset] [])) _
    refine XS.aload X37.here hx rfl (hb hby at_208) rfl rfl ?_
    show Steps p.tables e below (T37.setTop (mkF m 210 #[.val (.int p1), .val (.int p2), .val (.int p3), .val (.int p4), .val (.ref b5), .unset, .unset, .unset, .unset, .unset] [(.ref b5)])) _
    refine XS.iloadN X37.here hx rfl (hb hby at_210) rfl ?_
    show Steps p.tables e below (T37.setTop (mkF m 211 #[.val (.int p1), .val (.int p2), .val (.int p3), .val (.int p4), .val (.ref b5), .unset, .unset, .unset, .unset, .unset] [(.int p3), (.ref b5)])) _
    refine X37.ldcInt hx hown (mvT hZ (hw _ (List.mem_of_getElem? (i := 8) rfl))) (g := (mkF m 211 #[.val (.int p1), .val (.int p2), .val (.int p3), .val (.int p4), .val (.ref b5), .unset, .unset, .unset, .unset, .unset] [(.int p3), (.ref b5)])) rfl (hb hby at_211) _ ?_
    show Steps p.tables e below (T37.setTop (mkF m 213 #[.val (.int p1), .val (.int p2), .val (.int p3), .val (.int p4), .val (.ref b5), .unset, .unset, .unset, .unset, .unset] [(.int (2147483647 : Int32)), (.int p3), (.ref b5)])) _
    refine XS.iand X37.here hx rfl (hb hby at_213) rfl ?_
    show Steps p.tables e below (T37.setTop (mkF m 214 #[.val (.int p1), .val (.int p2), .val (.int p3), .val (.int p4), .val (.ref b5), .unset, .unset, .unset, .unset, .unset] [(.int (p3 &&& (2147483647 : Int32))), (.ref b5)])) _
    refine XS.aload X37.here hx rfl (hb hby at_214) rfl rfl ?_
    show Steps p.tables e below (T37.setTop (mkF m 216 #[.val (.int p1), .val (.int p2), .val (.int p3), .val (.int p4), .val (.ref b5), .unset, .unset, .unset, .unset, .unset] [(.ref b5), (.int (p3 &&& (2147483647 : Int32))), (.ref b5)])) _
    refine X37.arraylength hx (by rw [e37]; exact Ar_b5.1) (State.isArrayOf_alike hZ.alike Ar_b5.2.1) (g := (mkF m 216 #[.val (.int p1), .val (.int p2), .val (.int p3), .val (.int p4), .val (.ref b5), .unset, .unset, .unset, .unset, .unset] [(.ref b5), (.int (p3 &&& (2147483647 : Int32))), (.ref b5)])) rfl rfl (hb hby at_216) _ ?_
    rw [len_of S_b5 N_b5]
    show Steps p.tables e below (T37.setTop (mkF m 217 #[.val (.int p1), .val (.int p2), .val (.int p3), .val (.int p4), .val (.ref b5), .unset, .unset, .unset, .unset, .unset] [(.int (32 : Int32)), (.int (p3 &&& (2147483647 : Int32))), (.ref b5)])) _
    refine iremM X37 hx rfl (hb hby at_217) rfl (by decide) ?_
    show Steps p.tables e below (T37.setTop (mkF m 218 #[.val (.int p1), .val (.int p2), .val (.int p3), .val (.int p4), .val (.ref b5), .unset, .unset, .unset, .unset, .unset] [(.int ((p3 &&& (2147483647 : Int32)) % (32 : Int32))), (.ref b5)])) _
    refine X37.iaload hx (j := ((p3 &&& (2147483647 : Int32)) % (32 : Int32))) (v := (.int w38)) (by rw [e37]; exact Ar_b5.1) (State.isArrayOf_alike hZ.alike Ar_b5.2.1) Ar_b5.2.2 hin218 hat218 (g := (mkF m 218 #[.val (.int p1), .val (.int p2), .val (.int p3), .val (.int p4), .val (.ref b5), .unset, .unset, .unset, .unset, .unset] [(.int ((p3 &&& (2147483647 : Int32)) % (32 : Int32))), (.ref b5)])) rfl rfl (hb hby at_218) _ ?_
    show Steps p.tables e below (T37.setTop (mkF m 219 #[.val (.int p1), .val (.int p2), .val (.int p3), .val (.int p4), .val (.ref b5), .unset, .unset, .unset, .unset, .unset] [(.int w38)])) _
    refine XS.iloadN X37.here hx rfl (hb hby at_219) rfl ?_
    show Steps p.tables e below (T37.setTop (mkF m 220 #[.val (.int p1), .val (.int p2), .val (.int p3), .val (.int p4), .val (.ref b5), .unset, .unset, .unset, .unset, .unset] [(.int p4), (.int w38)])) _
    refine X37.ldcInt hx hown (mvT hZ (hw _ (List.mem_of_getElem? (i := 8) rfl))) (g := (mkF m 220 #[.val (.int p1), .val (.int p2), .val (.int p3), .val (.int p4), .val (.ref b5), .unset, .unset, .unset, .unset, .unset] [(.int p4), (.int w38)])) rfl (hb hby at_220) _ ?_
    show Steps p.tables e below (T37.setTop (mkF m 222 #[.val (.int p1), .val (.int p2), .val (.int p3), .val (.int p4), .val (.ref b5), .unset, .unset, .unset, .unset, .unset] [(.int (2147483647 : Int32)), (.int p4), (.int w38)])) _
    refine XS.iand X37.here hx rfl (hb hby at_222) rfl ?_
    show Steps p.tables e below (T37.setTop (mkF m 223 #[.val (.int p1), .val (.int p2), .val (.int p3), .val (.int p4), .val (.ref b5), .unset, .unset, .unset, .unset, .unset] [(.int (p4 &&& (2147483647 : Int32))), (.int w38)])) _
    refine XS.iconst X37.here hx rfl (hb hby at_223) ?_
    show Steps p.tables e below (T37.setTop (mkF m 224 #[.val (.int p1), .val (.int p2), .val (.int p3), .val (.int p4), .val (.ref b5), .unset, .unset, .unset, .unset, .unset] [(.int (5 : Int32)), (.int (p4 &&& (2147483647 : Int32))), (.int w38)])) _
    refine iremM X37 hx rfl (hb hby at_224) rfl (by decide) ?_
    show Steps p.tables e below (T37.setTop (mkF m 225 #[.val (.int p1), .val (.int p2), .val (.int p3), .val (.int p4), .val (.ref b5), .unset, .unset, .unset, .unset, .unset] [(.int ((p4 &&& (2147483647 : Int32)) % (5 : Int32))), (.int w38)])) _
    refine XS.iadd X37.here hx rfl (hb hby at_225) rfl ?_
    show Steps p.tables e below (T37.setTop (mkF m 226 #[.val (.int p1), .val (.int p2), .val (.int p3), .val (.int p4), .val (.ref b5), .unset, .unset, .unset, .unset, .unset] [(.int (w38 + ((p4 &&& (2147483647 : Int32)) % (5 : Int32))))])) _
    refine XS.iconst X37.here hx rfl (hb hby at_226) ?_
    show Steps p.tables e below (T37.setTop (mkF m 227 #[.val (.int p1), .val (.int p2), .val (.int p3), .val (.int p4), .val (.ref b5), .unset, .unset, .unset, .unset, .unset] [(.int (2 : Int32)), (.int (w38 + ((p4 &&& (2147483647 : Int32)) % (5 : Int32))))])) _
    refine XS.isub X37.here hx rfl (hb hby at_227) rfl ?_
    show Steps p.tables e below (T37.setTop (mkF m 228 #[.val (.int p1), .val (.int p2), .val (.int p3), .val (.int p4), .val (.ref b5), .unset, .unset, .unset, .unset, .unset] [(.int ((w38 + ((p4 &&& (2147483647 : Int32)) % (5 : Int32))) - (2 : Int32)))])) _
    refine XS.istore X37.here hx rfl (hb hby at_228) rfl (l' := #[.val (.int p1), .val (.int p2), .val (.int p3), .val (.int p4), .val (.ref b5), .val (.int ((w38 + ((p4 &&& (2147483647 : Int32)) % (5 : Int32))) - (2 : Int32))), .unset, .unset, .unset, .unset]) rfl ?_
    show Steps p.tables e below (T37.setTop (mkF m 230 #[.val (.int p1), .val (.int p2), .val (.int p3), .val (.int p4), .val (.ref b5), .val (.int ((w38 + ((p4 &&& (2147483647 : Int32)) % (5 : Int32))) - (2 : Int32))), .unset, .unset, .unset, .unset] [])) _
    refine XS.iloadN X37.here hx rfl (hb hby at_230) rfl ?_
    show Steps p.tables e below (T37.setTop (mkF m 231 #[.val (.int p1), .val (.int p2), .val (.int p3), .val (.int p4), .val (.ref b5), .val (.int ((w38 + ((p4 &&& (2147483647 : Int32)) % (5 : Int32))) - (2 : Int32))), .unset, .unset, .unset, .unset] [(.int p2)])) _
    refine X37.ldcInt hx hown (mvT hZ (hw _ (List.mem_of_getElem? (i := 9) rfl))) (g := (mkF m 231 #[.val (.int p1), .val (.int p2), .val (.int p3), .val (.int p4), .val (.ref b5), .val (.int ((w38 + ((p4 &&& (2147483647 : Int32)) % (5 : Int32))) - (2 : Int32))), .unset, .unset, .unset, .unset] [(.int p2)])) rfl (hb hby at_231) _ ?_
    show Steps p.tables e below (T37.setTop (mkF m 233 #[.val (.int p1), .val (.int p2), .val (.int p3), .val (.int p4), .val (.ref b5), .val (.int ((w38 + ((p4 &&& (2147483647 : Int32)) % (5 : Int32))) - (2 : Int32))), .unset, .unset, .unset, .unset] [(.int (1048575 : Int32)), (.int p2)])) _
    refine XS.iand X37.here hx rfl (hb hby at_233) rfl ?_
    show Steps p.tables e below (T37.setTop (mkF m 234 #[.val (.int p1), .val (.int p2), .val (.int p3), .val (.int p4), .val (.ref b5), .val (.int ((w38 + ((p4 &&& (2147483647 : Int32)) % (5 : Int32))) - (2 : Int32))), .unset, .unset, .unset, .unset] [(.int (p2 &&& (1048575 : Int32)))])) _
    refine XS.istore X37.here hx rfl (hb hby at_234) rfl (l' := #[.val (.int p1), .val (.int p2), .val (.int p3), .val (.int p4), .val (.ref b5), .val (.int ((w38 + ((p4 &&& (2147483647 : Int32)) % (5 : Int32))) - (2 : Int32))), .val (.int (p2 &&& (1048575 : Int32))), .unset, .unset, .unset]) rfl ?_
    show Steps p.tables e below (T37.setTop (mkF m 236 #[.val (.int p1), .val (.int p2), .val (.int p3), .val (.int p4), .val (.ref b5), .val (.int ((w38 + ((p4 &&& (2147483647 : Int32)) % (5 : Int32))) - (2 : Int32))), .val (.int (p2 &&& (1048575 : Int32))), .unset, .unset, .unset] [])) _
    refine XS.iloadN X37.here hx rfl (hb hby at_236) rfl ?_
    show Steps p.tables e below (T37.setTop (mkF m 237 #[.val (.int p1), .val (.int p2), .val (.int p3), .val (.int p4), .val (.ref b5), .val (.int ((w38 + ((p4 &&& (2147483647 : Int32)) % (5 : Int32))) - (2 : Int32))), .val (.int (p2 &&& (1048575 : Int32))), .unset, .unset, .unset] [(.int p1)])) _
    refine st39 _ ?_
    show Steps p.tables e below (T39.setTop (mkF m 240 #[.val (.int p1), .val (.int p2), .val (.int p3), .val (.int p4), .val (.ref b5), .val (.int ((w38 + ((p4 &&& (2147483647 : Int32)) % (5 : Int32))) - (2 : Int32))), .val (.int (p2 &&& (1048575 : Int32))), .unset, .unset, .unset] [(.int (own_1_0 p1))])) _
    refine XS.iloadN X39.here hx rfl (hb hby at_240) rfl ?_
    show Steps p.tables e below (T39.setTop (mkF m 241 #[.val (.int p1), .val (.int p2), .val (.int p3), .val (.int p4), .val (.ref b5), .val (.int ((w38 + ((p4 &&& (2147483647 : Int32)) % (5 : Int32))) - (2 : Int32))), .val (.int (p2 &&& (1048575 : Int32))), .unset, .unset, .unset] [(.int p1), (.int (own_1_0 p1))])) _
    refine st40 _ ?_
    show Steps p.tables e below (T40.setTop (mkF m 244 #[.val (.int p1), .val (.int p2), .val (.int p3), .val (.int p4), .val (.ref b5), .val (.int ((w38 + ((p4 &&& (2147483647 : Int32)) % (5 : Int32))) - (2 : Int32))), .val (.int (p2 &&& (1048575 : Int32))), .unset, .unset, .unset] [(.int (own_2_0 p1)), (.int (own_1_0 p1))])) _
    refine XS.icmpNo X40.here hx rfl (hb hby at_244) rfl (teq (own_same p1 : (own_1_0 p1) = (own_2_0 p1))).2 ?_
    show Steps p.tables e below (T40.setTop (mkF m 247 #[.val (.int p1), .val (.int p2), .val (.int p3), .val (.int p4), .val (.ref b5), .val (.int ((w38 + ((p4 &&& (2147483647 : Int32)) % (5 : Int32))) - (2 : Int32))), .val (.int (p2 &&& (1048575 : Int32))), .unset, .unset, .unset] [])) _
    refine XS.iconst X40.here hx rfl (hb hby at_247) ?_
    show Steps p.tables e below (T40.setTop (mkF m 248 #[.val (.int p1), .val (.int p2), .val (.int p3), .val (.int p4), .val (.ref b5), .val (.int ((w38 + ((p4 &&& (2147483647 : Int32)) % (5 : Int32))) - (2 : Int32))), .val (.int (p2 &&& (1048575 : Int32))), .unset, .unset, .unset] [(.int (1 : Int32))])) _
    refine XS.goto X40.here hx rfl (pc0 := 248) (pc' := 252) rfl (hb hby at_248) (by decide) (by decide) ?_
    show Steps p.tables e below (T40.setTop (mkF m 252 #[.val (.int p1), .val (.int p2), .val (.int p3), .val (.int p4), .val (.ref b5), .val (.int ((w38 + ((p4 &&& (2147483647 : Int32)) % (5 : Int32))) - (2 : Int32))), .val (.int (p2 &&& (1048575 : Int32))), .unset, .unset, .unset] [(.int (1 : Int32))])) _
    refine XS.istore X40.here hx rfl (hb hby at_252) rfl (l' := #[.val (.int p1), .val (.int p2), .val (.int p3), .val (.int p4), .val (.ref b5), .val (.int ((w38 + ((p4 &&& (2147483647 : Int32)) % (5 : Int32))) - (2 : Int32))), .val (.int (p2 &&& (1048575 : Int32))), .val (.int (1 : Int32)), .unset, .unset]) rfl ?_
    show Steps p.tables e below (T40.setTop (mkF m 254 #[.val (.int p1), .val (.int p2), .val (.int p3), .val (.int p4), .val (.ref b5), .val (.int ((w38 + ((p4 &&& (2147483647 : Int32)) % (5 : Int32))) - (2 : Int32))), .val (.int (p2 &&& (1048575 : Int32))), .val (.int (1 : Int32)), .unset, .unset] [])) _
    refine XS.iload X40.here hx rfl (hb hby at_254) rfl ?_
    show Steps p.tables e below (T40.setTop (mkF m 256 #[.val (.int p1), .val (.int p2), .val (.int p3), .val (.int p4), .val (.ref b5), .val (.int ((w38 + ((p4 &&& (2147483647 : Int32)) % (5 : Int32))) - (2 : Int32))), .val (.int (p2 &&& (1048575 : Int32))), .val (.int (1 : Int32)), .unset, .unset] [(.int (p2 &&& (1048575 : Int32)))])) _
    refine st41 _ ?_
    show Steps p.tables e below (T41.setTop (mkF m 259 #[.val (.int p1), .val (.int p2), .val (.int p3), .val (.int p4), .val (.ref b5), .val (.int ((w38 + ((p4 &&& (2147483647 : Int32)) % (5 : Int32))) - (2 : Int32))), .val (.int (p2 &&& (1048575 : Int32))), .val (.int (1 : Int32)), .unset, .unset] [(.int (own_1_0 (p2 &&& (1048575 : Int32))))])) _
    refine XS.iload X41.here hx rfl (hb hby at_259) rfl ?_
    show Steps p.tables e below (T41.setTop (mkF m 261 #[.val (.int p1), .val (.int p2), .val (.int p3), .val (.int p4), .val (.ref b5), .val (.int ((w38 + ((p4 &&& (2147483647 : Int32)) % (5 : Int32))) - (2 : Int32))), .val (.int (p2 &&& (1048575 : Int32))), .val (.int (1 : Int32)), .unset, .unset] [(.int (p2 &&& (1048575 : Int32))), (.int (own_1_0 (p2 &&& (1048575 : Int32))))])) _
    refine st42 _ ?_
    show Steps p.tables e below (T42.setTop (mkF m 264 #[.val (.int p1), .val (.int p2), .val (.int p3), .val (.int p4), .val (.ref b5), .val (.int ((w38 + ((p4 &&& (2147483647 : Int32)) % (5 : Int32))) - (2 : Int32))), .val (.int (p2 &&& (1048575 : Int32))), .val (.int (1 : Int32)), .unset, .unset] [(.int (own_2_0 (p2 &&& (1048575 : Int32)))), (.int (own_1_0 (p2 &&& (1048575 : Int32))))])) _
    refine XS.icmpNo X42.here hx rfl (hb hby at_264) rfl (teq (own_same (p2 &&& (1048575 : Int32)) : (own_1_0 (p2 &&& (1048575 : Int32))) = (own_2_0 (p2 &&& (1048575 : Int32))))).2 ?_
    show Steps p.tables e below (T42.setTop (mkF m 267 #[.val (.int p1), .val (.int p2), .val (.int p3), .val (.int p4), .val (.ref b5), .val (.int ((w38 + ((p4 &&& (2147483647 : Int32)) % (5 : Int32))) - (2 : Int32))), .val (.int (p2 &&& (1048575 : Int32))), .val (.int (1 : Int32)), .unset, .unset] [])) _
    refine XS.iconst X42.here hx rfl (hb hby at_267) ?_
    show Steps p.tables e below (T42.setTop (mkF m 268 #[.val (.int p1), .val (.int p2), .val (.int p3), .val (.int p4), .val (.ref b5), .val (.int ((w38 + ((p4 &&& (2147483647 : Int32)) % (5 : Int32))) - (2 : Int32))), .val (.int (p2 &&& (1048575 : Int32))), .val (.int (1 : Int32)), .unset, .unset] [(.int (1 : Int32))])) _
    refine XS.goto X42.here hx rfl (pc0 := 268) (pc' := 272) rfl (hb hby at_268) (by decide) (by decide) ?_
    show Steps p.tables e below (T42.setTop (mkF m 272 #[.val (.int p1), .val (.int p2), .val (.int p3), .val (.int p4), .val (.ref b5), .val (.int ((w38 + ((p4 &&& (2147483647 : Int32)) % (5 : Int32))) - (2 : Int32))), .val (.int (p2 &&& (1048575 : Int32))), .val (.int (1 : Int32)), .unset, .unset] [(.int (1 : Int32))])) _
    refine XS.istore X42.here hx rfl (hb hby at_272) rfl (l' := #[.val (.int p1), .val (.int p2), .val (.int p3), .val (.int p4), .val (.ref b5), .val (.int ((w38 + ((p4 &&& (2147483647 : Int32)) % (5 : Int32))) - (2 : Int32))), .val (.int (p2 &&& (1048575 : Int32))), .val (.int (1 : Int32)), .val (.int (1 : Int32)), .unset]) rfl ?_
    show Steps p.tables e below (T42.setTop (mkF m 274 #[.val (.int p1), .val (.int p2), .val (.int p3), .val (.int p4), .val (.ref b5), .val (.int ((w38 + ((p4 &&& (2147483647 : Int32)) % (5 : Int32))) - (2 : Int32))), .val (.int (p2 &&& (1048575 : Int32))), .val (.int (1 : Int32)), .val (.int (1 : Int32)), .unset] [])) _
    refine XS.iload X42.here hx rfl (hb hby at_274) rfl ?_
    show Steps p.tables e below (T42.setTop (mkF m 276 #[.val (.int p1), .val (.int p2), .val (.int p3), .val (.int p4), .val (.ref b5), .val (.int ((w38 + ((p4 &&& (2147483647 : Int32)) % (5 : Int32))) - (2 : Int32))), .val (.int (p2 &&& (1048575 : Int32))), .val (.int (1 : Int32)), .val (.int (1 : Int32)), .unset] [(.int ((w38 + ((p4 &&& (2147483647 : Int32)) % (5 : Int32))) - (2 : Int32)))])) _
    refine st43 _ ?_
    show Steps p.tables e below (T43.setTop (mkF m 279 #[.val (.int p1), .val (.int p2), .val (.int p3), .val (.int p4), .val (.ref b5), .val (.int ((w38 + ((p4 &&& (2147483647 : Int32)) % (5 : Int32))) - (2 : Int32))), .val (.int (p2 &&& (1048575 : Int32))), .val (.int (1 : Int32)), .val (.int (1 : Int32)), .unset] [(.int (own_1_0 ((w38 + ((p4 &&& (2147483647 : Int32)) % (5 : Int32))) - (2 : Int32))))])) _
    refine XS.iload X43.here hx rfl (hb hby at_279) rfl ?_
    show Steps p.tables e below (T43.setTop (mkF m 281 #[.val (.int p1), .val (.int p2), .val (.int p3), .val (.int p4), .val (.ref b5), .val (.int ((w38 + ((p4 &&& (2147483647 : Int32)) % (5 : Int32))) - (2 : Int32))), .val (.int (p2 &&& (1048575 : Int32))), .val (.int (1 : Int32)), .val (.int (1 : Int32)), .unset] [(.int ((w38 + ((p4 &&& (2147483647 : Int32)) % (5 : Int32))) - (2 : Int32))), (.int (own_1_0 ((w38 + ((p4 &&& (2147483647 : Int32)) % (5 : Int32))) - (2 : Int32))))])) _
    refine st44 _ ?_
    show Steps p.tables e below (T44.setTop (mkF m 284 #[.val (.int p1), .val (.int p2), .val (.int p3), .val (.int p4), .val (.ref b5), .val (.int ((w38 + ((p4 &&& (2147483647 : Int32)) % (5 : Int32))) - (2 : Int32))), .val (.int (p2 &&& (1048575 : Int32))), .val (.int (1 : Int32)), .val (.int (1 : Int32)), .unset] [(.int (own_2_0 ((w38 + ((p4 &&& (2147483647 : Int32)) % (5 : Int32))) - (2 : Int32)))), (.int (own_1_0 ((w38 + ((p4 &&& (2147483647 : Int32)) % (5 : Int32))) - (2 : Int32))))])) _
    refine XS.icmpNo X44.here hx rfl (hb hby at_284) rfl (teq (own_same ((w38 + ((p4 &&& (2147483647 : Int32)) % (5 : Int32))) - (2 : Int32)) : (own_1_0 ((w38 + ((p4 &&& (2147483647 : Int32)) % (5 : Int32))) - (2 : Int32))) = (own_2_0 ((w38 + ((p4 &&& (2147483647 : Int32)) % (5 : Int32))) - (2 : Int32))))).2 ?_
    show Steps p.tables e below (T44.setTop (mkF m 287 #[.val (.int p1), .val (.int p2), .val (.int p3), .val (.int p4), .val (.ref b5), .val (.int ((w38 + ((p4 &&& (2147483647 : Int32)) % (5 : Int32))) - (2 : Int32))), .val (.int (p2 &&& (1048575 : Int32))), .val (.int (1 : Int32)), .val (.int (1 : Int32)), .unset] [])) _
    refine XS.iconst X44.here hx rfl (hb hby at_287) ?_
    show Steps p.tables e below (T44.setTop (mkF m 288 #[.val (.int p1), .val (.int p2), .val (.int p3), .val (.int p4), .val (.ref b5), .val (.int ((w38 + ((p4 &&& (2147483647 : Int32)) % (5 : Int32))) - (2 : Int32))), .val (.int (p2 &&& (1048575 : Int32))), .val (.int (1 : Int32)), .val (.int (1 : Int32)), .unset] [(.int (1 : Int32))])) _
    refine XS.goto X44.here hx rfl (pc0 := 288) (pc' := 292) rfl (hb hby at_288) (by decide) (by decide) ?_
    show Steps p.tables e below (T44.setTop (mkF m 292 #[.val (.int p1), .val (.int p2), .val (.int p3), .val (.int p4), .val (.ref b5), .val (.int ((w38 + ((p4 &&& (2147483647 : Int32)) % (5 : Int32))) - (2 : Int32))), .val (.int (p2 &&& (1048575 : Int32))), .val (.int (1 : Int32)), .val (.int (1 : Int32)), .unset] [(.int (1 : Int32))])) _
    refine XS.istore X44.here hx rfl (hb hby at_292) rfl (l' := #[.val (.int p1), .val (.int p2), .val (.int p3), .val (.int p4), .val (.ref b5), .val (.int ((w38 + ((p4 &&& (2147483647 : Int32)) % (5 : Int32))) - (2 : Int32))), .val (.int (p2 &&& (1048575 : Int32))), .val (.int (1 : Int32)), .val (.int (1 : Int32)), .val (.int (1 : Int32))]) rfl ?_
    show Steps p.tables e below (T44.setTop (mkF m 294 #[.val (.int p1), .val (.int p2), .val (.int p3), .val (.int p4), .val (.ref b5), .val (.int ((w38 + ((p4 &&& (2147483647 : Int32)) % (5 : Int32))) - (2 : Int32))), .val (.int (p2 &&& (1048575 : Int32))), .val (.int (1 : Int32)), .val (.int (1 : Int32)), .val (.int (1 : Int32))] [])) _
    refine XS.iload X44.here hx rfl (hb hby at_294) rfl ?_
    show Steps p.tables e below (T44.setTop (mkF m 296 #[.val (.int p1), .val (.int p2), .val (.int p3), .val (.int p4), .val (.ref b5), .val (.int ((w38 + ((p4 &&& (2147483647 : Int32)) % (5 : Int32))) - (2 : Int32))), .val (.int (p2 &&& (1048575 : Int32))), .val (.int (1 : Int32)), .val (.int (1 : Int32)), .val (.int (1 : Int32))] [(.int (1 : Int32))])) _
    refine XS.ifNo X44.here hx rfl (hb hby at_296) rfl ((if0 _ _).trans (feq (by decide)).1) ?_
    show Steps p.tables e below (T44.setTop (mkF m 299 #[.val (.int p1), .val (.int p2), .val (.int p3), .val (.int p4), .val (.ref b5), .val (.int ((w38 + ((p4 &&& (2147483647 : Int32)) % (5 : Int32))) - (2 : Int32))), .val (.int (p2 &&& (1048575 : Int32))), .val (.int (1 : Int32)), .val (.int (1 : Int32)), .val (.int (1 : Int32))] [])) _
    refine XS.iload X44.here hx rfl (hb hby at_299) rfl ?_
    show Steps p.tables e below (T44.setTop (mkF m 301 #[.val (.int p1), .val (.int p2), .val (.int p3), .val (.int p4), .val (.ref b5), .val (.int ((w38 + ((p4 &&& (2147483647 : Int32)) % (5 : Int32))) - (2 : Int32))), .val (.int (p2 &&& (1048575 : Int32))), .val (.int (1 : Int32)), .val (.int (1 : Int32)), .val (.int (1 : Int32))] [(.int (1 : Int32))])) _
    refine XS.ifNo X44.here hx rfl (hb hby at_301) rfl ((if0 _ _).trans (feq (by decide)).1) ?_
    show Steps p.tables e below (T44.setTop (mkF m 304 #[.val (.int p1), .val (.int p2), .val (.int p3), .val (.int p4), .val (.ref b5), .val (.int ((w38 + ((p4 &&& (2147483647 : Int32)) % (5 : Int32))) - (2 : Int32))), .val (.int (p2 &&& (1048575 : Int32))), .val (.int (1 : Int32)), .val (.int (1 : Int32)), .val (.int (1 : Int32))] [])) _
    refine XS.iload X44.here hx rfl (hb hby at_304) rfl ?_
    show Steps p.tables e below (T44.setTop (mkF m 306 #[.val (.int p1), .val (.int p2), .val (.int p3), .val (.int p4), .val (.ref b5), .val (.int ((w38 + ((p4 &&& (2147483647 : Int32)) % (5 : Int32))) - (2 : Int32))), .val (.int (p2 &&& (1048575 : Int32))), .val (.int (1 : Int32)), .val (.int (1 : Int32)), .val (.int (1 : Int32))] [(.int (1 : Int32))])) _
    refine XS.ifNo X44.here hx rfl (hb hby at_306) rfl ((if0 _ _).trans (feq (by decide)).1) ?_
    show Steps p.tables e below (T44.setTop (mkF m 309 #[.val (.int p1), .val (.int p2), .val (.int p3), .val (.int p4), .val (.ref b5), .val (.int ((w38 + ((p4 &&& (2147483647 : Int32)) % (5 : Int32))) - (2 : Int32))), .val (.int (p2 &&& (1048575 : Int32))), .val (.int (1 : Int32)), .val (.int (1 : Int32)), .val (.int (1 : Int32))] [])) _
    refine XS.iconst X44.here hx rfl (hb hby at_309) ?_
    show Steps p.tables e below (T44.setTop (mkF m 310 #[.val (.int p1), .val (.int p2), .val (.int p3), .val (.int p4), .val (.ref b5), .val (.int ((w38 + ((p4 &&& (2147483647 : Int32)) % (5 : Int32))) - (2 : Int32))), .val (.int (p2 &&& (1048575 : Int32))), .val (.int (1 : Int32)), .val (.int (1 : Int32)), .val (.int (1 : Int32))] [(.int (1 : Int32))])) _
    refine XS.goto X44.here hx rfl (pc0 := 310) (pc' := 314) rfl (hb hby at_310) (by decide) (by decide) ?_
    show Steps p.tables e below (T44.setTop (mkF m 314 #[.val (.int p1), .val (.int p2), .val (.int p3), .val (.int p4), .val (.ref b5), .val (.int ((w38 + ((p4 &&& (2147483647 : Int32)) % (5 : Int32))) - (2 : Int32))), .val (.int (p2 &&& (1048575 : Int32))), .val (.int (1 : Int32)), .val (.int (1 : Int32)), .val (.int (1 : Int32))] [(.int (1 : Int32))])) _
    exact retN X44 hx (t := .boolean) Bd.returns (by simp) (hb hby at_314) hr
  · show Q0 Z p1 p2 p3 p4 h0 n0 _ T44.heap _
    exact ⟨rfl, N44⟩
set_option maxRecDepth 65536 in
set_option maxHeartbeats 40000000 in
theorem comes_1 {Post : Tables → Env → Array Value → State → Outcome → State → Prop} (hpost : ∀ tb e args s v u, (limb_1_1.after args s (.returned v) u = true ∧ limb_1_2.after args s (.returned v) u = true ∧ True) → FrameEnd s (.returned v) u (Jvm.fieldLocs frame_1_writes args s ++ Jvm.arrayLocs frame_1_arrays args s ++ Jvm.staticLocs frame_1_statics s) 16 128 → Post tb e args s (.returned v) u) :
    ArmFor flags0 classFile x code maxLocals ret World_1 tables_1 room_1 Calls_1 rest_1 Pre_1 Post := by
  intro l hfl _ _ p e ha hc hk s m args below hf hA hF happ hP
  obtain ⟨hcalls, hrest, hpre⟩ := hP
  obtain ⟨-, -, -, hnamed, -, -, -, hat⟩ := (Spec.applies_iff hf).mp happ
  obtain ⟨hg, hn⟩ := and_e (Cond.before_iff.mp (show (Jvm.Cond.and given_1 narrow_1).before args s = true from hpre))
  obtain ⟨g45, g46⟩ := and_e hg
  obtain ⟨g47, g48⟩ := and_e g46
  obtain ⟨g49, g50⟩ := and_e g48
  obtain ⟨g51, g52⟩ := and_e g50
  obtain ⟨w0, w1, w2, w3, rfl⟩ : ∃ w0 w1 w2 w3 : Value, args = #[w0, w1, w2, w3] := by
    have hs : args.size = 4 := by simpa [Cond.value, given_1] using g45
    obtain ⟨L⟩ := args
    match L, hs with
    | [w0, w1, w2, w3], _ => exact ⟨w0, w1, w2, w3, rfl⟩
  have hw := fun d (hd : d ∈ tables_1) => atoms_spec (ws := Jvm.Cond.code x code maxLocals ret :: tables_1) hat d (List.mem_cons_of_mem _ hd)
  have hfit : Fit s := fun {y c} hc i hi => by
    obtain ⟨ha, rfl⟩ := Array.getElem?_eq_some_iff.mp hc
    have q := List.all_eq_true.mp ((Array.all_eq_true_iff_forall_mem.mp hF) _ (Array.getElem_mem ha)) i (List.mem_range.mpr hi)
    simpa [Array.getElem?_eq_getElem hi] using q
  obtain ⟨i0, ei0⟩ := is_v g47
  obtain rfl : w0 = (.int i0) := Option.some.inj ei0
  obtain ⟨i1, ei1⟩ := is_v g49
  obtain rfl : w1 = (.int i1) := Option.some.inj ei1
  obtain ⟨i2, ei2⟩ := is_v g51
  obtain rfl : w2 = (.int i2) := Option.some.inj ei2
  obtain ⟨i3, ei3⟩ := is_v g52
  obtain rfl : w3 = (.int i3) := Option.some.inj ei3
  obtain ⟨n, o, h1, h2, h3, _, L, rfl, ⟨rfl, N⟩, hq⟩ := rm0 l s _ hw tables_1 i0 i1 i2 i3 s.heap s.heap.size (Nat.le_refl _) p e ha hc hk s m _ below hf ((Spec.applies_iff_loose hf).mp happ).1 ⟨rfl, State.Warmed39.refl s, rfl⟩ trivial
  refine ⟨n, _, h1, h2, h3, hpost _ _ _ _ _ _ ⟨Cond.after_iff.mpr rfl, Cond.after_iff.mpr (eq_i res_at (Term.int_eval (1)) rfl), trivial⟩ ⟨hq.1, hq.2.1, (hq.2.2.sift fun y hy => Or.inr (N y hy)).mono (by decide) (by decide)⟩⟩
theorem main_1_1 : Claimed_1_1 := comes_1 fun _ _ _ _ _ _ h hF => ⟨h.1, hF⟩
theorem main_1_2 : Claimed_1_2 := comes_1 fun _ _ _ _ _ _ h hF => ⟨h.2.1, hF⟩
end Jvm.Pilot.@@N@@
namespace Jvm.Pilot.@@N@@
open Jvm Jvm.ClassFile Sem Op Lib Jvm.Free Jvm.Stand Jvm.Pilot.@@N@@.Jvm.D
/-! MADE BY PROGRAM (witnessworld.py) out of the Statement's table words and the real class files: 9 classes; the members and pool entries that the words name. The judged class is class 1, her method 2. -/
namespace start1
open Jvm.ClassFile
def u (s : String) : CpInfo := .utf8 (stringToUtf16 s)
/-- a pool by its gaps: so many unusable entries, then the entry; so many at the end -/
def gap : Nat → List CpInfo → List CpInfo
  | 0, r => r
  | n + 1, r => .unusable :: gap n r
def poolList (es : List (Nat × CpInfo)) (last : Nat) : List CpInfo := es.foldr (fun e r => gap e.1 (e.2 :: r)) (gap last [])
def pool (es : List (Nat × CpInfo)) (last : Nat) : Array CpInfo := ⟨poolList es last⟩
def fileOf (pool : Array CpInfo) (this : Nat) (attrs : Array Attribute := #[]) (ms : Array MethodInfo := #[]) (fl : Nat := 33) (sup : Nat := 0) (ifs : Array Nat := #[]) (fds : Array FieldInfo := #[]) : ClassFile where
  minorVersion := 0
  majorVersion := 65
  constantPool := pool
  accessFlags := fl
  thisClass := this
  superClass := sup
  interfaces := ifs
  fields := fds
  methods := ms
  attributes := attrs
def plain (name : String) (sup : Option ClassId) : Class where
  name := name
  kind := .ordinary
  loader := none
  accessFlags := 33
  super := sup
  interfaces := #[]
  cf := none
  fields := #[]
  methods := #[]
  instanceTypes := #[]
  staticTypes := #[]
  resolved := #[]
  callSites := []
  init := .initialized
  statics := none
  mirror := none

def pool0 : Array CpInfo := pool [(5, u "<init>"), (0, u "()V"), (1, .class_ 10), (1, u "java/lang/Object")] 113

def k0m0 : Method := { name := "<init>", desc := "()V", sig := { parameters := [], returnType := none }, accessFlags := 1, code := none }
/-- java/lang/Object -/
def k0 : Class := { plain "java/lang/Object" none with
  accessFlags := 33
  interfaces := #[]
  cf := some (fileOf pool0 8 #[] #[{ accessFlags := 1, nameIndex := 5, descriptorIndex := 6, attributes := #[] }] 33 0 #[] #[])
  fields := #[]
  methods := #[k0m0]
  instanceTypes := #[]
  staticTypes := #[]
  resolved := Array.replicate 124 none
  statics := none }

def pool1 : Array CpInfo := pool [(2, .class_ 4), (1, u "java/lang/Object"), (0, u "<init>"), (0, u "()V"), (0, .integer 55296), (0, .integer 63744), (0, .integer 64976), (0, .integer 65008), (0, .integer 65534), (0, .integer 65536), (0, .integer 983040), (0, .integer 2147483647), (0, .integer 1048575), (0, .methodref 17 18), (0, .class_ 19), (0, .nameAndType 20 21), (0, u "com/example/keyref/keyref/model/XmlChars"), (0, u "isNameStartChar"), (0, u "(I)Z"), (0, .methodref 23 24), (0, .class_ 25), (0, .nameAndType 26 21), (0, u "com/example/keyref/keyref/model/XmlCharsIsNameStartCharPinLaw"), (0, u "ref"), (3, u "law"), (0, u "(IIII)Z")] 4

def k1m0 : Method := { name := "<init>", desc := "()V", sig := { parameters := [], returnType := none }, accessFlags := 2, code := none }
def k1c1 : Code := { maxStack := 2, maxLocals := 1, code := method_2_code, exceptionTable := #[], attributes := #[] }
def k1m1 : Method := { name := "ref", desc := "(I)Z", sig := { parameters := [.int], returnType := some .boolean }, accessFlags := 10, code := some k1c1 }
def k1c2 : Code := { maxStack := 4, maxLocals := 10, code := code, exceptionTable := #[], attributes := #[] }
def k1m2 : Method := { name := "law", desc := "(IIII)Z", sig := { parameters := [.int, .int, .int, .int], returnType := some .boolean }, accessFlags := 9, code := some k1c2 }
/-- com/example/keyref/keyref/model/XmlCharsIsNameStartCharPinLaw -/
def k1 : Class := { plain "com/example/keyref/keyref/model/XmlCharsIsNameStartCharPinLaw" (some 0) with
  accessFlags := 49
  interfaces := #[]
  cf := some (fileOf pool1 23 #[] #[{ accessFlags := 2, nameIndex := 5, descriptorIndex := 6, attributes := #[] }, { accessFlags := 10, nameIndex := 26, descriptorIndex := 21, attributes := #[] }, { accessFlags := 9, nameIndex := 30, descriptorIndex := 31, attributes := #[] }] 49 2 #[] #[])
  fields := #[]
  methods := #[k1m0, k1m1, k1m2]
  instanceTypes := #[]
  staticTypes := #[]
  resolved := Array.replicate 36 none
  statics := none }

def pool2 : Array CpInfo := pool [(2, .class_ 4), (1, u "java/lang/Object"), (0, u "<init>"), (0, u "()V"), (0, .integer 55295), (0, .integer 63744), (0, .integer 64975), (0, .integer 65008), (0, .integer 65533), (0, .integer 65536), (0, .integer 983039), (1, .class_ 17), (1, u "com/example/keyref/keyref/model/XmlChars"), (0, u "isNameStartChar"), (0, u "(I)Z")] 33

def k2m0 : Method := { name := "<init>", desc := "()V", sig := { parameters := [], returnType := none }, accessFlags := 2, code := none }
def k2c1 : Code := { maxStack := 2, maxLocals := 1, code := prog_112_method_3_code, exceptionTable := #[], attributes := #[] }
def k2m1 : Method := { name := "isNameStartChar", desc := "(I)Z", sig := { parameters := [.int], returnType := some .boolean }, accessFlags := 9, code := some k2c1 }
/-- com/example/keyref/keyref/model/XmlChars -/
def k2 : Class := { plain "com/example/keyref/keyref/model/XmlChars" (some 0) with
  accessFlags := 49
  interfaces := #[]
  cf := some (fileOf pool2 15 #[] #[{ accessFlags := 2, nameIndex := 5, descriptorIndex := 6, attributes := #[] }, { accessFlags := 9, nameIndex := 18, descriptorIndex := 19, attributes := #[] }] 49 2 #[] #[])
  fields := #[]
  methods := #[k2m0, k2m1]
  instanceTypes := #[]
  staticTypes := #[]
  resolved := Array.replicate 53 none
  statics := none }

def pool3 : Array CpInfo := pool [(1, u "java/lang/Cloneable"), (0, .class_ 1), (0, u "java/lang/Object"), (0, .class_ 3)] 3

/-- java/lang/Cloneable -/
def k3 : Class := { plain "java/lang/Cloneable" (some 0) with
  accessFlags := 1537
  interfaces := #[]
  cf := some (fileOf pool3 2 #[] #[] 1537 4 #[] #[])
  fields := #[]
  methods := #[]
  instanceTypes := #[]
  staticTypes := #[]
  resolved := Array.replicate 8 none
  statics := none }

def pool4 : Array CpInfo := pool [(1, u "java/io/Serializable"), (0, .class_ 1), (0, u "java/lang/Object"), (0, .class_ 3)] 3

/-- java/io/Serializable -/
def k4 : Class := { plain "java/io/Serializable" (some 0) with
  accessFlags := 1537
  interfaces := #[]
  cf := some (fileOf pool4 2 #[] #[] 1537 4 #[] #[])
  fields := #[]
  methods := #[]
  instanceTypes := #[]
  staticTypes := #[]
  resolved := Array.replicate 8 none
  statics := none }

/-- the primitive byte -/
def k5 : Class := { plain "byte" none with kind := .primitive 'B', accessFlags := 0x411 }
/-- [B -/
def k6 : Class := { plain "[B" (some 0) with kind := .array 5 .byte, interfaces := #[3, 4], accessFlags := 1041 }

/-- the primitive int -/
def k7 : Class := { plain "int" none with kind := .primitive 'I', accessFlags := 0x411 }
/-- [I -/
def k8 : Class := { plain "[I" (some 0) with kind := .array 7 .int, interfaces := #[3, 4], accessFlags := 1041 }

def heap : Heap := #[]
def classes : Array Class := #[k0, k1, k2, k3, k4, k5, k6, k7, k8]
def interned : List (Array UInt16 × Addr) := []
def slotsUsed : Nat := 0
def theMethod : MethodId := ⟨1, 2⟩
def args0 : Array Value := #[.int 5, .int 2, .int 77, .int 3]
def aboutOver (below : List Frame) : State where
  vm := { classes := classes, interned := interned.toArray }
  heap := heap
  slotsUsed := slotsUsed
  threads := #[{ frames := .invoking theMethod args0 :: below }]
def below0 : List Frame := [.native { method := ⟨0, 0⟩, args := #[] }]
def about1 : State := aboutOver below0
def p0 : Program := .bare "" "" ""
def e0 : Env := launch0.env 0 0 0
theorem w_frames : about1.frames = Frame.invoking theMethod args0 :: below0 := rfl
set_option maxRecDepth 65536 in
theorem w_args : argsFit about1.vm theMethod args0 = true := by decide +kernel
set_option maxRecDepth 65536 in
theorem w_heap : heapFits about1 = true := by decide +kernel
set_option maxRecDepth 65536 in
theorem w_runnable : about1.curStatus? = some .runnable := by decide +kernel
set_option maxRecDepth 65536 in
theorem w_alone : about1.alone = true := by decide +kernel
set_option maxRecDepth 65536 in
theorem w_named : about1.methodNamed? x = some theMethod := by decide +kernel
set_option maxRecDepth 65536 in
theorem w_hears : about1.hears theMethod below0 = true := by decide +kernel
set_option maxRecDepth 65536 in
theorem w_ripe : about1.ripe theMethod args0 below0 = true := by decide +kernel
theorem w_running : about1.status = .running := rfl
set_option maxRecDepth 65536 in
theorem w_room : about1.hasRoom e0.platform room_1 = true :=
  launch0.hasRoom_least _ room_1 (by decide +kernel) (by decide +kernel) (by decide +kernel) (by decide +kernel) (by decide +kernel) (by decide +kernel)
theorem allAtoms_all (ts : List Jvm.Cond) (a : Array Jvm.Value) (st : Jvm.State) : (allAtoms ts).before a st = ts.all (fun c => c.before a st) := by
  induction ts with
  | nil => rfl
  | cons c t ih =>
    show (Jvm.Cond.and c (allAtoms t)).before a st = _
    rw [Jvm.Cond.before_and, ih, List.all_cons]
def words1 : List Jvm.Cond := Jvm.Cond.code x code maxLocals ret :: tables_1
/-- a 'code' word, met by the world's own term for the bytes: nothing is compared byte by byte -/
theorem code_word {y : MethodName} {bytes : ByteArray} {mx : Nat} {rt : Option FieldType} {a : Array Value} {s : State} {m : MethodId} {meth : Method} {c : Code} (h1 : s.methodNamed? y = some m) (h2 : s.vm.method? m = some meth) (h3 : meth.code = some c) (h4 : c.code = bytes)
    (h5 : (c.maxLocals == mx && c.exceptionTable.isEmpty && decide (c.maxStack ≤ mostOperands) && decide (meth.sig.returnType = rt) && !meth.locks && decide (parseMethodDescriptor y.desc = some meth.sig)) = true) : (Jvm.Cond.code y bytes mx rt).before a s = true := by
  simp only [Bool.and_eq_true, beq_iff_eq, Bool.not_eq_true', decide_eq_true_eq] at h5
  obtain ⟨⟨⟨⟨⟨g1, g2⟩, g3⟩, g4⟩, g5⟩, g6⟩ := h5
  simp [Cond.before, Cond.holds, Cond.value, h1, h2, h3, h4, g1, g2, g3, g4, g5, g6]
def isCode : Jvm.Cond → Bool
  | .code _ _ _ _ => true
  | _ => false
theorem all_split {L : List Jvm.Cond} {P : Jvm.Cond → Bool} (h1 : L.all (fun c => isCode c || P c) = true) (h2 : ∀ c ∈ L.filter isCode, P c = true) : L.all P = true := by
  refine List.all_eq_true.mpr fun c hc => ?_
  have h := List.all_eq_true.mp h1 c hc
  rcases Bool.eq_false_or_eq_true (isCode c) with hi | hi
  · exact h2 c (List.mem_filter.mpr ⟨hc, hi⟩)
  · simpa [hi] using h
set_option maxRecDepth 65536 in
theorem w_c0 : (Jvm.Cond.code x code maxLocals ret).before args0 about1 = true := code_word (m := ⟨1, 2⟩) (meth := k1m2) (c := k1c2) (by decide +kernel) rfl rfl rfl (by decide +kernel)
set_option maxRecDepth 65536 in
theorem w_c1 : (Jvm.Cond.code ({ cls := "com/example/keyref/keyref/model/XmlChars", name := "isNameStartChar", desc := "(I)Z" } : Jvm.MethodName) prog_112_method_3_code (1 : Nat) (Option.some Jvm.ClassFile.FieldType.boolean)).before args0 about1 = true := code_word (m := ⟨2, 1⟩) (meth := k2m1) (c := k2c1) (by decide +kernel) rfl rfl rfl (by decide +kernel)
set_option maxRecDepth 65536 in
theorem w_c2 : (Jvm.Cond.code ({ cls := "com/example/keyref/keyref/model/XmlCharsIsNameStartCharPinLaw", name := "ref", desc := "(I)Z" } : Jvm.MethodName) method_2_code (1 : Nat) (Option.some Jvm.ClassFile.FieldType.boolean)).before args0 about1 = true := code_word (m := ⟨1, 1⟩) (meth := k1m1) (c := k1c1) (by decide +kernel) rfl rfl rfl (by decide +kernel)
def codes1 : List Jvm.Cond := [Jvm.Cond.code x code maxLocals ret, Jvm.Cond.code ({ cls := "com/example/keyref/keyref/model/XmlChars", name := "isNameStartChar", desc := "(I)Z" } : Jvm.MethodName) prog_112_method_3_code (1 : Nat) (Option.some Jvm.ClassFile.FieldType.boolean), Jvm.Cond.code ({ cls := "com/example/keyref/keyref/model/XmlCharsIsNameStartCharPinLaw", name := "ref", desc := "(I)Z" } : Jvm.MethodName) method_2_code (1 : Nat) (Option.some Jvm.ClassFile.FieldType.boolean)]
set_option maxRecDepth 65536 in
theorem codes_eq : words1.filter isCode = codes1 := rfl
theorem w_codes : ∀ c ∈ words1.filter isCode, c.before args0 about1 = true := by
  rw [codes_eq]
  intro c hc
  simp only [codes1, List.mem_cons, List.not_mem_nil, or_false] at hc
  rcases hc with rfl | rfl | rfl
  · exact w_c0
  · exact w_c1
  · exact w_c2
set_option maxRecDepth 65536 in
theorem w_t1 : (words1.take 24).all (fun c => isCode c || c.before args0 about1) = true := by decide +kernel
set_option maxRecDepth 65536 in
theorem w_t2 : (words1.drop 24).all (fun c => isCode c || c.before args0 about1) = true := by decide +kernel
theorem w_tables : (allAtoms (Jvm.Cond.code x code maxLocals ret :: tables_1)).before args0 about1 = true := by
  rw [allAtoms_all]
  show words1.all (fun c => c.before args0 about1) = true
  refine all_split ?_ w_codes
  rw [← List.take_append_drop 24 words1, List.all_append, w_t1, w_t2]
  rfl
set_option maxRecDepth 65536 in
theorem w_case : (Jvm.Cond.and given_1 narrow_1).before args0 about1 = true := by decide +kernel
theorem w_applies : (headSpec (Jvm.Cond.code x code maxLocals ret :: tables_1) room_1).applies x e0.platform about1 = true :=
  (Spec.applies_iff w_frames).mpr ⟨w_running, w_runnable, w_alone, w_named, w_hears, w_ripe, w_room, w_tables⟩
theorem atStart : AtStart classFile x code maxLocals ret World_1 tables_1 room_1 Calls_1 rest_1 Pre_1 launch0 p0 e0 about1 theMethod args0 below0 :=
  ⟨lists_1, trivial, launch0.admits_env _ _ _, launch0.least_env, fairChoices_fair.cas, fairChoices_fair.clock, w_frames, w_args, w_heap, w_applies, trivial, trivial, w_case⟩
end start1
theorem witness_1 : WitnessClaimed_1 := ⟨start1.p0, start1.e0, start1.about1, start1.theMethod, start1.args0, start1.below0, start1.atStart⟩
end Jvm.Pilot.@@N@@
