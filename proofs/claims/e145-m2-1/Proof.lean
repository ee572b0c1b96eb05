import JvmDerived
import JvmDerived.Pilot.@@N@@Statement
import JvmDerived.Pilot.@@N@@Code
set_option linter.unusedVariables false
set_option linter.unusedSimpArgs false
namespace Jvm.RoadKit
open Sem ClassFile Op Lib Jvm.Stand Jvm.Free Jvm.LawKit
section New
variable {p : Program} {l : Launch} {e : Env} {R : Room} {s : State} {m : MethodId} {args : Array Value} {below : List Frame} {meth : Method} {c : Code} {T : State} {locs : List Loc} {cells slots : Nat}
theorem retI (X : Stand p l e R s m args below meth c T locs cells slots) (hx : p.tables.exec = Jvm.exec) {pc : Nat} {Ls : Array Slot} {z : Int32} {rest : List Value} (hret : meth.sig.returnType = some .int) (hd : decode c.code pc = .ok (.ireturn, 1)) {fs : List Frame}
    (hl : ∀ (f : JFrame) (acts : List Action), f.method = m → f.locked = none → f.entered = [] → (doReturn e (T.setTop f) acts (some (.int z))).1 = T.setFrames fs) : Steps p.tables e below (T.setTop (mkF m pc Ls (.int z :: rest))) (T.setFrames fs) := by
  have hm' : T.vm.method? m = some meth := X.method'
  have hn : narrow .int (.int z) = .int z := rfl
  show Steps p.tables e below (T.setTop { method := m, pc := pc, locals := Ls, stack := _ :: rest, locked := none }) _
  jvm_step X.here [X.here.top, hx, hd, hm', hret, hn]
  first | (intro acts; rw [hl _ acts rfl rfl rfl]) | rw [hl _ _ rfl rfl rfl]
  exact Steps.refl _
end New
end Jvm.RoadKit
namespace Jvm.Pilot.@@N@@
open Jvm Jvm.ClassFile Sem Op Lib Jvm.Free Jvm.Stand Jvm.LawKit Jvm.RoadKit Bundle Jvm.Pilot.@@N@@.Jvm.D

theorem own_nn (x : Int32) : x.toInt8.toInt32.toInt8.toInt32 = x.toInt8.toInt32 := by simp
def own_sh (v k : Int32) : Int32 := ((v.toUInt32 >>> (k &&& 31).toUInt32).toInt32).toInt8.toInt32
def own_val (w3 w4 w5 w6 : Int32) : Int32 := ((((w3 &&& (255 : Int32)) <<< ((24 : Int32) &&& 31)) ||| ((w4 &&& (255 : Int32)) <<< ((16 : Int32) &&& 31))) ||| ((w5 &&& (255 : Int32)) <<< ((8 : Int32) &&& 31))) ||| (w6 &&& (255 : Int32))
theorem own_255 (j : Nat) : (255#32).getLsbD j = decide (j < 8) := by
  rw [show (255#32) = BitVec.ofNat 32 (2^8-1) from rfl, BitVec.getLsbD_ofNat, Nat.testBit_two_pow_sub_one]
  by_cases h : j < 8
  · simp [h]; omega
  · simp [h]
theorem own_255e (j : Nat) (h : j < 32) : (255#32)[j] = decide (j < 8) := by
  rw [← BitVec.getLsbD_eq_getElem, own_255]
theorem own_join (v : Int32) : own_val (own_sh v 24) (own_sh v 16) (own_sh v 8) v.toInt8.toInt32 = v := by
  apply Int32.toBitVec_inj.mp
  simp only [own_val, own_sh, Int32.toBitVec_or, Int32.toBitVec_and, Int32.toBitVec_shiftLeft]
  apply BitVec.eq_of_getLsbD_eq
  intro i hi
  simp [hi]
  by_cases h1 : i < 8
  · have : i < 16 := by omega
    have : i < 24 := by omega
    simp [own_255, own_255e, BitVec.getElem_signExtend, BitVec.getLsbD_signExtend, *]
  · by_cases h2 : i < 16
    · have : i - 8 < 8 := by omega
      have : i < 24 := by omega
      have : i - 8 < 32 := by omega
      have : 8 + (i - 8) = i := by omega
      simp [own_255, own_255e, BitVec.getElem_signExtend, BitVec.getLsbD_signExtend, *]
    · by_cases h3 : i < 24
      · have : i - 16 < 8 := by omega
        have : ¬ i - 8 < 8 := by omega
        have : i - 16 < 32 := by omega
        have : 16 + (i - 16) = i := by omega
        simp [own_255, own_255e, BitVec.getElem_signExtend, BitVec.getLsbD_signExtend, *]
      · have : i - 24 < 8 := by omega
        have : ¬ i - 16 < 8 := by omega
        have : ¬ i - 8 < 8 := by omega
        have : i - 24 < 32 := by omega
        have : 24 + (i - 24) = i := by omega
        simp [own_255, own_255e, BitVec.getElem_signExtend, BitVec.getLsbD_signExtend, *]
theorem own_and3 (x : Int32) : ∃ k : Nat, k < 4 ∧ x &&& 3 = Int32.ofNat k := by
  refine ⟨(x.toBitVec &&& 3#32).toNat, ?_, ?_⟩
  · rw [BitVec.toNat_and]
    exact Nat.lt_of_le_of_lt Nat.and_le_right (by decide)
  · apply Int32.toBitVec_inj.mp
    simp
/-- a place k + i of the array of eight, k = x and 3, i up to 3 -/
theorem own_place (x : Int32) : (x &&& 3).toNatClampNeg < 4 ∧ (¬ (x &&& 3) < 0 ∧ (x &&& 3) < 8) ∧
    ((¬ (x &&& 3) + 1 < 0 ∧ (x &&& 3) + 1 < 8) ∧ ((x &&& 3) + 1).toNatClampNeg = (x &&& 3).toNatClampNeg + 1) ∧
    ((¬ (x &&& 3) + 2 < 0 ∧ (x &&& 3) + 2 < 8) ∧ ((x &&& 3) + 2).toNatClampNeg = (x &&& 3).toNatClampNeg + 2) ∧
    ((¬ (x &&& 3) + 3 < 0 ∧ (x &&& 3) + 3 < 8) ∧ ((x &&& 3) + 3).toNatClampNeg = (x &&& 3).toNatClampNeg + 3) := by
  obtain ⟨k, hk, e⟩ := own_and3 x
  rw [e]; clear e
  match k, hk with
  | 0, _ => decide
  | 1, _ => decide
  | 2, _ => decide
  | 3, _ => decide
theorem own_gets (vs : List Value) (hl : vs.length = 8) (k : Nat) (hk : k < 4) (a b c d z : Value) :
    ((((vs.set k a).set (k+1) b).set (k+2) c).set (k+3) d).getD k z = a ∧
    ((((vs.set k a).set (k+1) b).set (k+2) c).set (k+3) d).getD (k+1) z = b ∧
    ((((vs.set k a).set (k+1) b).set (k+2) c).set (k+3) d).getD (k+2) z = c ∧
    ((((vs.set k a).set (k+1) b).set (k+2) c).set (k+3) d).getD (k+3) z = d := by
  have h0 : k < vs.length := by omega
  have h1 : k + 1 < vs.length := by omega
  have h2 : k + 2 < vs.length := by omega
  have h3 : k + 3 < vs.length := by omega
  have g0 : k < 8 := by omega
  have g1 : k + 1 < 8 := by omega
  have g2 : k + 2 < 8 := by omega
  have g3 : k + 3 < 8 := by omega
  refine ⟨?_, ?_, ?_, ?_⟩ <;> simp [List.getD_eq_getElem?_getD, List.getElem?_set, *]
theorem d1_0 : decode prog_17_method_4_code 0 = .ok (.aload_n 0, 1) := by decide +kernel
theorem d1_1 : decode prog_17_method_4_code 1 = .ok (.iload_n 1, 1) := by decide +kernel
theorem d1_2 : decode prog_17_method_4_code 2 = .ok (.baload, 1) := by decide +kernel
theorem d1_3 : decode prog_17_method_4_code 3 = .ok (.sipush 255, 3) := by decide +kernel
theorem d1_6 : decode prog_17_method_4_code 6 = .ok (.iand, 1) := by decide +kernel
theorem d1_7 : decode prog_17_method_4_code 7 = .ok (.bipush 24, 2) := by decide +kernel
theorem d1_9 : decode prog_17_method_4_code 9 = .ok (.ishl, 1) := by decide +kernel
theorem d1_10 : decode prog_17_method_4_code 10 = .ok (.aload_n 0, 1) := by decide +kernel
theorem d1_11 : decode prog_17_method_4_code 11 = .ok (.iload_n 1, 1) := by decide +kernel
theorem d1_12 : decode prog_17_method_4_code 12 = .ok (.iconst 1, 1) := by decide +kernel
theorem d1_13 : decode prog_17_method_4_code 13 = .ok (.iadd, 1) := by decide +kernel
theorem d1_14 : decode prog_17_method_4_code 14 = .ok (.baload, 1) := by decide +kernel
theorem d1_15 : decode prog_17_method_4_code 15 = .ok (.sipush 255, 3) := by decide +kernel
theorem d1_18 : decode prog_17_method_4_code 18 = .ok (.iand, 1) := by decide +kernel
theorem d1_19 : decode prog_17_method_4_code 19 = .ok (.bipush 16, 2) := by decide +kernel
theorem d1_21 : decode prog_17_method_4_code 21 = .ok (.ishl, 1) := by decide +kernel
theorem d1_22 : decode prog_17_method_4_code 22 = .ok (.ior, 1) := by decide +kernel
theorem d1_23 : decode prog_17_method_4_code 23 = .ok (.aload_n 0, 1) := by decide +kernel
theorem d1_24 : decode prog_17_method_4_code 24 = .ok (.iload_n 1, 1) := by decide +kernel
theorem d1_25 : decode prog_17_method_4_code 25 = .ok (.iconst 2, 1) := by decide +kernel
theorem d1_26 : decode prog_17_method_4_code 26 = .ok (.iadd, 1) := by decide +kernel
theorem d1_27 : decode prog_17_method_4_code 27 = .ok (.baload, 1) := by decide +kernel
theorem d1_28 : decode prog_17_method_4_code 28 = .ok (.sipush 255, 3) := by decide +kernel
theorem d1_31 : decode prog_17_method_4_code 31 = .ok (.iand, 1) := by decide +kernel
theorem d1_32 : decode prog_17_method_4_code 32 = .ok (.bipush 8, 2) := by decide +kernel
theorem d1_34 : decode prog_17_method_4_code 34 = .ok (.ishl, 1) := by decide +kernel
theorem d1_35 : decode prog_17_method_4_code 35 = .ok (.ior, 1) := by decide +kernel
theorem d1_36 : decode prog_17_method_4_code 36 = .ok (.aload_n 0, 1) := by decide +kernel
theorem d1_37 : decode prog_17_method_4_code 37 = .ok (.iload_n 1, 1) := by decide +kernel
theorem d1_38 : decode prog_17_method_4_code 38 = .ok (.iconst 3, 1) := by decide +kernel
theorem d1_39 : decode prog_17_method_4_code 39 = .ok (.iadd, 1) := by decide +kernel
theorem d1_40 : decode prog_17_method_4_code 40 = .ok (.baload, 1) := by decide +kernel
theorem d1_41 : decode prog_17_method_4_code 41 = .ok (.sipush 255, 3) := by decide +kernel
theorem d1_44 : decode prog_17_method_4_code 44 = .ok (.iand, 1) := by decide +kernel
theorem d1_45 : decode prog_17_method_4_code 45 = .ok (.ior, 1) := by decide +kernel
theorem d1_46 : decode prog_17_method_4_code 46 = .ok (.ireturn, 1) := by decide +kernel
theorem pn_1 : plainName "com/example/transmute/transmute/BigEndian" = true := by first | (simp [plainName, overriddenIn]; done) | decide +kernel
theorem ef_1 (m : MethodId) (x0 : Addr) (x1 : Int32) : entryFrame m #[(.ref x0), (.int x1)] 2 = mkF m 0 #[.val (.ref x0), .val (.int x1)] [] := by first | (simp [entryFrame, mkF, argsToLocals, Value.category]; done) | rfl
def Q1 (Z : State) (a1 : Addr) (p2 : Int32) (w3 : Int32) (cl_a1 : Cell) (w4 : Int32) (w5 : Int32) (w6 : Int32) (h0 : Heap) (n0 : Nat) (v : Option Value) (h : Heap) (L : List Loc) : Prop := v = some (.int (own_val w3 w4 w5 w6)) ∧ Fr n0 L ∧ h = h0
set_option maxRecDepth 65536 in
set_option maxHeartbeats 40000000 in
theorem rm1 (l : Launch) (Z : State) (a0 : Array Value) (hw : ∀ d ∈ tables_1, d.before a0 Z = true) (ws : List Jvm.Cond) (a1 : Addr) (p2 : Int32) (w3 : Int32) (cl_a1 : Cell) (w4 : Int32) (w5 : Int32) (w6 : Int32) (h0 : Heap) (n0 : Nat) (Z0 : n0 ≤ h0.size) (Ar_a1 : Arr Z h0 a1 cl_a1 .byte) (hin2 : ¬ (p2 < 0 ∨ cl_a1.slots.size ≤ (p2).toNatClampNeg)) (hat2 : cl_a1.slots[(p2).toNatClampNeg]? = some (.int w3)) (hin14 : ¬ ((p2 + (1 : Int32)) < 0 ∨ cl_a1.slots.size ≤ ((p2 + (1 : Int32))).toNatClampNeg)) (hat14 : cl_a1.slots[((p2 + (1 : Int32))).toNatClampNeg]? = some (.int w4)) (hin27 : ¬ ((p2 + (2 : Int32)) < 0 ∨ cl_a1.slots.size ≤ ((p2 + (2 : Int32))).toNatClampNeg)) (hat27 : cl_a1.slots[((p2 + (2 : Int32))).toNatClampNeg]? = some (.int w5)) (hin40 : ¬ ((p2 + (3 : Int32)) < 0 ∨ cl_a1.slots.size ≤ ((p2 + (3 : Int32))).toNatClampNeg)) (hat40 : cl_a1.slots[((p2 + (3 : Int32))).toNatClampNeg]? = some (.int w6)) :
    MetFree l (⟨"com/example/transmute/transmute/BigEndian", "int32At", "([BI)I"⟩ : MethodName) (head1 (Jvm.Cond.code (⟨"com/example/transmute/transmute/BigEndian", "int32At", "([BI)I"⟩ : MethodName) prog_17_method_4_code 2 (some .int) :: ws) ({ frames := 0, cells := 0, slots := 0, locals := 0 } : Room)) (fun a U => a = #[(.ref a1), (.int p2)] ∧ Z.Warmed39 U.vm ∧ U.heap = h0) (fun _ _ _ _ _ => True) (fun _ U o U' => ∃ v L, o = .returned v ∧ Q1 Z a1 p2 w3 cl_a1 w4 w5 w6 h0 n0 v U'.heap L ∧ FrameEnd U o U' L ({ frames := 0, cells := 0, slots := 0, locals := 0 } : Room).cells ({ frames := 0, cells := 0, slots := 0, locals := 0 } : Room).slots) := by
  refine MetFree.of_bodySF (plainFor_of_name pn_1) hisR ?_
  intro p e s m args below meth c s₁ Bd hml0 hP hK
  obtain ⟨rfl, hZ, hh⟩ := hP
  have hx := Bd.exec
  have hby := Bd.bytes
  have hml : c.maxLocals = 2 := hml0
  have hown : s.vm.findClass "com/example/transmute/transmute/BigEndian" = some m.cls := findClass_of_methodNamed Bd.named
  have hnm := (name_of_methodNamed Bd.named Bd.method).1
  have X0 : Stand p l e ({ frames := 0, cells := 0, slots := 0, locals := 0 } : Room) s m #[(.ref a1), (.int p2)] below meth c s₁ [] 0 0 := Stand.of_body Bd
  have e0 : s₁.heap = h0 := by rw [← hh, Bd.state]; rfl
  have N0 := Fr.nil n0
  have pre0 : ∀ t, Steps p.tables e below (s₁.setTop (mkF m 0 #[.val (.ref a1), .val (.int p2)] [])) t → Steps p.tables e below (s₁.setTop (entryFrame m #[(.ref a1), (.int p2)] 2)) t := fun t k => castTop (ef_1 m a1 p2) k

  obtain ⟨fs, hr, hrun, hended, hW, hsame⟩ := X0.leave (v := some (.int (((((w3 &&& (255 : Int32)) <<< ((24 : Int32) &&& 31)) ||| ((w4 &&& (255 : Int32)) <<< ((16 : Int32) &&& 31))) ||| ((w5 &&& (255 : Int32)) <<< ((8 : Int32) &&& 31))) ||| (w6 &&& (255 : Int32))))) (fun h => by rw [Bd.returns] at h; cases h)
  refine ⟨_, _, pre0 _ ?_, hrun, hended, _, _, rfl, ?_, ⟨_, rfl⟩, hW, hsame.mono (by decide) (by decide)⟩
  · show Steps p.tables e below (s₁.setTop (mkF m 0 #[.val (.ref a1), .val (.int p2)] [])) _
    refine XS.aloadN X0.here hx rfl (hb hby d1_0) rfl rfl ?_
    show Steps p.tables e below (s₁.setTop (mkF m 1 #[.val (.ref a1), .val (.int p2)] [(.ref a1)])) _
    refine XS.iloadN X0.here hx rfl (hb hby d1_1) rfl ?_
    show Steps p.tables e below (s₁.setTop (mkF m 2 #[.val (.ref a1), .val (.int p2)] [(.int p2), (.ref a1)])) _
    refine X0.baloadBytes hx (j := p2) (v := (.int w3)) (by rw [e0]; exact Ar_a1.1) (State.isArrayOf_alike hZ.alike Ar_a1.2.1) Ar_a1.2.2 hin2 hat2 (g := (mkF m 2 #[.val (.ref a1), .val (.int p2)] [(.int p2), (.ref a1)])) rfl rfl (hb hby d1_2) _ ?_
    show Steps p.tables e below (s₁.setTop (mkF m 3 #[.val (.ref a1), .val (.int p2)] [(.int w3)])) _
    refine XS.sipush X0.here hx rfl (hb hby d1_3) ?_
    show Steps p.tables e below (s₁.setTop (mkF m 6 #[.val (.ref a1), .val (.int p2)] [(.int (255 : Int32)), (.int w3)])) _
    refine XS.iand X0.here hx rfl (hb hby d1_6) rfl ?_
    show Steps p.tables e below (s₁.setTop (mkF m 7 #[.val (.ref a1), .val (.int p2)] [(.int (w3 &&& (255 : Int32)))])) _
    refine XS.bipush X0.here hx rfl (hb hby d1_7) ?_
    show Steps p.tables e below (s₁.setTop (mkF m 9 #[.val (.ref a1), .val (.int p2)] [(.int (24 : Int32)), (.int (w3 &&& (255 : Int32)))])) _
    refine XS.ishl X0.here hx rfl (hb hby d1_9) rfl ?_
    show Steps p.tables e below (s₁.setTop (mkF m 10 #[.val (.ref a1), .val (.int p2)] [(.int ((w3 &&& (255 : Int32)) <<< ((24 : Int32) &&& 31)))])) _
    refine XS.aloadN X0.here hx rfl (hb hby d1_10) rfl rfl ?_
    show Steps p.tables e below (s₁.setTop (mkF m 11 #[.val (.ref a1), .val (.int p2)] [(.ref a1), (.int ((w3 &&& (255 : Int32)) <<< ((24 : Int32) &&& 31)))])) _
    refine XS.iloadN X0.here hx rfl (hb hby d1_11) rfl ?_
    show Steps p.tables e below (s₁.setTop (mkF m 12 #[.val (.ref a1), .val (.int p2)] [(.int p2), (.ref a1), (.int ((w3 &&& (255 : Int32)) <<< ((24 : Int32) &&& 31)))])) _
    refine XS.iconst X0.here hx rfl (hb hby d1_12) ?_
    show Steps p.tables e below (s₁.setTop (mkF m 13 #[.val (.ref a1), .val (.int p2)] [(.int (1 : Int32)), (.int p2), (.ref a1), (.int ((w3 &&& (255 : Int32)) <<< ((24 : Int32) &&& 31)))])) _
    refine XS.iadd X0.here hx rfl (hb hby d1_13) rfl ?_
    show Steps p.tables e below (s₁.setTop (mkF m 14 #[.val (.ref a1), .val (.int p2)] [(.int (p2 + (1 : Int32))), (.ref a1), (.int ((w3 &&& (255 : Int32)) <<< ((24 : Int32) &&& 31)))])) _
    refine X0.baloadBytes hx (j := (p2 + (1 : Int32))) (v := (.int w4)) (by rw [e0]; exact Ar_a1.1) (State.isArrayOf_alike hZ.alike Ar_a1.2.1) Ar_a1.2.2 hin14 hat14 (g := (mkF m 14 #[.val (.ref a1), .val (.int p2)] [(.int (p2 + (1 : Int32))), (.ref a1), (.int ((w3 &&& (255 : Int32)) <<< ((24 : Int32) &&& 31)))])) rfl rfl (hb hby d1_14) _ ?_
    show Steps p.tables e below (s₁.setTop (mkF m 15 #[.val (.ref a1), .val (.int p2)] [(.int w4), (.int ((w3 &&& (255 : Int32)) <<< ((24 : Int32) &&& 31)))])) _
    refine XS.sipush X0.here hx rfl (hb hby d1_15) ?_
    show Steps p.tables e below (s₁.setTop (mkF m 18 #[.val (.ref a1), .val (.int p2)] [(.int (255 : Int32)), (.int w4), (.int ((w3 &&& (255 : Int32)) <<< ((24 : Int32) &&& 31)))])) _
    refine XS.iand X0.here hx rfl (hb hby d1_18) rfl ?_
    show Steps p.tables e below (s₁.setTop (mkF m 19 #[.val (.ref a1), .val (.int p2)] [(.int (w4 &&& (255 : Int32))), (.int ((w3 &&& (255 : Int32)) <<< ((24 : Int32) &&& 31)))])) _
    refine XS.bipush X0.here hx rfl (hb hby d1_19) ?_
    show Steps p.tables e below (s₁.setTop (mkF m 21 #[.val (.ref a1), .val (.int p2)] [(.int (16 : Int32)), (.int (w4 &&& (255 : Int32))), (.int ((w3 &&& (255 : Int32)) <<< ((24 : Int32) &&& 31)))])) _
    refine XS.ishl X0.here hx rfl (hb hby d1_21) rfl ?_
    show Steps p.tables e below (s₁.setTop (mkF m 22 #[.val (.ref a1), .val (.int p2)] [(.int ((w4 &&& (255 : Int32)) <<< ((16 : Int32) &&& 31))), (.int ((w3 &&& (255 : Int32)) <<< ((24 : Int32) &&& 31)))])) _
    refine XS.ior X0.here hx rfl (hb hby d1_22) rfl ?_
    show Steps p.tables e below (s₁.setTop (mkF m 23 #[.val (.ref a1), .val (.int p2)] [(.int (((w3 &&& (255 : Int32)) <<< ((24 : Int32) &&& 31)) ||| ((w4 &&& (255 : Int32)) <<< ((16 : Int32) &&& 31))))])) _
    refine XS.aloadN X0.here hx rfl (hb hby d1_23) rfl rfl ?_
    show Steps p.tables e below (s₁.setTop (mkF m 24 #[.val (.ref a1), .val (.int p2)] [(.ref a1), (.int (((w3 &&& (255 : Int32)) <<< ((24 : Int32) &&& 31)) ||| ((w4 &&& (255 : Int32)) <<< ((16 : Int32) &&& 31))))])) _
    refine XS.iloadN X0.here hx rfl (hb hby d1_24) rfl ?_
    show Steps p.tables e below (s₁.setTop (mkF m 25 #[.val (.ref a1), .val (.int p2)] [(.int p2), (.ref a1), (.int (((w3 &&& (255 : Int32)) <<< ((24 : Int32) &&& 31)) ||| ((w4 &&& (255 : Int32)) <<< ((16 : Int32) &&& 31))))])) _
    refine XS.iconst X0.here hx rfl (hb hby d1_25) ?_
    show Steps p.tables e below (s₁.setTop (mkF m 26 #[.val (.ref a1), .val (.int p2)] [(.int (2 : Int32)), (.int p2), (.ref a1), (.int (((w3 &&& (255 : Int32)) <<< ((24 : Int32) &&& 31)) ||| ((w4 &&& (255 : Int32)) <<< ((16 : Int32) &&& 31))))])) _
    refine XS.iadd X0.here hx rfl (hb hby d1_26) rfl ?_
    show Steps p.tables e below (s₁.setTop (mkF m 27 #[.val (.ref a1), .val (.int p2)] [(.int (p2 + (2 : Int32))), (.ref a1), (.int (((w3 &&& (255 : Int32)) <<< ((24 : Int32) &&& 31)) ||| ((w4 &&& (255 : Int32)) <<< ((16 : Int32) &&& 31))))])) _
    refine X0.baloadBytes hx (j := (p2 + (2 : Int32))) (v := (.int w5)) (by rw [e0]; exact Ar_a1.1) (State.isArrayOf_alike hZ.alike Ar_a1.2.1) Ar_a1.2.2 hin27 hat27 (g := (mkF m 27 #[.val (.ref a1), .val (.int p2)] [(.int (p2 + (2 : Int32))), (.ref a1), (.int (((w3 &&& (255 : Int32)) <<< ((24 : Int32) &&& 31)) ||| ((w4 &&& (255 : Int32)) <<< ((16 : Int32) &&& 31))))])) rfl rfl (hb hby d1_27) _ ?_
    show Steps p.tables e below (s₁.setTop (mkF m 28 #[.val (.ref a1), .val (.int p2)] [(.int w5), (.int (((w3 &&& (255 : Int32)) <<< ((24 : Int32) &&& 31)) ||| ((w4 &&& (255 : Int32)) <<< ((16 : Int32) &&& 31))))])) _
    refine XS.sipush X0.here hx rfl (hb hby d1_28) ?_
    show Steps p.tables e below (s₁.setTop (mkF m 31 #[.val (.ref a1), .val (.int p2)] [(.int (255 : Int32)), (.int w5), (.int (((w3 &&& (255 : Int32)) <<< ((24 : Int32) &&& 31)) ||| ((w4 &&& (255 : Int32)) <<< ((16 : Int32) &&& 31))))])) _
    refine XS.iand X0.here hx rfl (hb hby d1_31) rfl ?_
    show Steps p.tables e below (s₁.setTop (mkF m 32 #[.val (.ref a1), .val (.int p2)] [(.int (w5 &&& (255 : Int32))), (.int (((w3 &&& (255 : Int32)) <<< ((24 : Int32) &&& 31)) ||| ((w4 &&& (255 : Int32)) <<< ((16 : Int32) &&& 31))))])) _
    refine XS.bipush X0.here hx rfl (hb hby d1_32) ?_
    show Steps p.tables e below (s₁.setTop (mkF m 34 #[.val (.ref a1), .val (.int p2)] [(.int (8 : Int32)), (.int (w5 &&& (255 : Int32))), (.int (((w3 &&& (255 : Int32)) <<< ((24 : Int32) &&& 31)) ||| ((w4 &&& (255 : Int32)) <<< ((16 : Int32) &&& 31))))])) _
    refine XS.ishl X0.here hx rfl (hb hby d1_34) rfl ?_
    show Steps p.tables e below (s₁.setTop (mkF m 35 #[.val (.ref a1), .val (.int p2)] [(.int ((w5 &&& (255 : Int32)) <<< ((8 : Int32) &&& 31))), (.int (((w3 &&& (255 : Int32)) <<< ((24 : Int32) &&& 31)) ||| ((w4 &&& (255 : Int32)) <<< ((16 : Int32) &&& 31))))])) _
    refine XS.ior X0.here hx rfl (hb hby d1_35) rfl ?_
    show Steps p.tables e below (s₁.setTop (mkF m 36 #[.val (.ref a1), .val (.int p2)] [(.int ((((w3 &&& (255 : Int32)) <<< ((24 : Int32) &&& 31)) ||| ((w4 &&& (255 : Int32)) <<< ((16 : Int32) &&& 31))) ||| ((w5 &&& (255 : Int32)) <<< ((8 : Int32) &&& 31))))])) _
    refine XS.aloadN X0.here hx rfl (hb hby d1_36) rfl rfl ?_
    show Steps p.tables e below (s₁.setTop (mkF m 37 #[.val (.ref a1), .val (.int p2)] [(.ref a1), (.int ((((w3 &&& (255 : Int32)) <<< ((24 : Int32) &&& 31)) ||| ((w4 &&& (255 : Int32)) <<< ((16 : Int32) &&& 31))) ||| ((w5 &&& (255 : Int32)) <<< ((8 : Int32) &&& 31))))])) _
    refine XS.iloadN X0.here hx rfl (hb hby d1_37) rfl ?_
    show Steps p.tables e below (s₁.setTop (mkF m 38 #[.val (.ref a1), .val (.int p2)] [(.int p2), (.ref a1), (.int ((((w3 &&& (255 : Int32)) <<< ((24 : Int32) &&& 31)) ||| ((w4 &&& (255 : Int32)) <<< ((16 : Int32) &&& 31))) ||| ((w5 &&& (255 : Int32)) <<< ((8 : Int32) &&& 31))))])) _
    refine XS.iconst X0.here hx rfl (hb hby d1_38) ?_
    show Steps p.tables e below (s₁.setTop (mkF m 39 #[.val (.ref a1), .val (.int p2)] [(.int (3 : Int32)), (.int p2), (.ref a1), (.int ((((w3 &&& (255 : Int32)) <<< ((24 : Int32) &&& 31)) ||| ((w4 &&& (255 : Int32)) <<< ((16 : Int32) &&& 31))) ||| ((w5 &&& (255 : Int32)) <<< ((8 : Int32) &&& 31))))])) _
    refine XS.iadd X0.here hx rfl (hb hby d1_39) rfl ?_
    show Steps p.tables e below (s₁.setTop (mkF m 40 #[.val (.ref a1), .val (.int p2)] [(.int (p2 + (3 : Int32))), (.ref a1), (.int ((((w3 &&& (255 : Int32)) <<< ((24 : Int32) &&& 31)) ||| ((w4 &&& (255 : Int32)) <<< ((16 : Int32) &&& 31))) ||| ((w5 &&& (255 : Int32)) <<< ((8 : Int32) &&& 31))))])) _
    refine X0.baloadBytes hx (j := (p2 + (3 : Int32))) (v := (.int w6)) (by rw [e0]; exact Ar_a1.1) (State.isArrayOf_alike hZ.alike Ar_a1.2.1) Ar_a1.2.2 hin40 hat40 (g := (mkF m 40 #[.val (.ref a1), .val (.int p2)] [(.int (p2 + (3 : Int32))), (.ref a1), (.int ((((w3 &&& (255 : Int32)) <<< ((24 : Int32) &&& 31)) ||| ((w4 &&& (255 : Int32)) <<< ((16 : Int32) &&& 31))) ||| ((w5 &&& (255 : Int32)) <<< ((8 : Int32) &&& 31))))])) rfl rfl (hb hby d1_40) _ ?_
    show Steps p.tables e below (s₁.setTop (mkF m 41 #[.val (.ref a1), .val (.int p2)] [(.int w6), (.int ((((w3 &&& (255 : Int32)) <<< ((24 : Int32) &&& 31)) ||| ((w4 &&& (255 : Int32)) <<< ((16 : Int32) &&& 31))) ||| ((w5 &&& (255 : Int32)) <<< ((8 : Int32) &&& 31))))])) _
    refine XS.sipush X0.here hx rfl (hb hby d1_41) ?_
    show Steps p.tables e below (s₁.setTop (mkF m 44 #[.val (.ref a1), .val (.int p2)] [(.int (255 : Int32)), (.int w6), (.int ((((w3 &&& (255 : Int32)) <<< ((24 : Int32) &&& 31)) ||| ((w4 &&& (255 : Int32)) <<< ((16 : Int32) &&& 31))) ||| ((w5 &&& (255 : Int32)) <<< ((8 : Int32) &&& 31))))])) _
    refine XS.iand X0.here hx rfl (hb hby d1_44) rfl ?_
    show Steps p.tables e below (s₁.setTop (mkF m 45 #[.val (.ref a1), .val (.int p2)] [(.int (w6 &&& (255 : Int32))), (.int ((((w3 &&& (255 : Int32)) <<< ((24 : Int32) &&& 31)) ||| ((w4 &&& (255 : Int32)) <<< ((16 : Int32) &&& 31))) ||| ((w5 &&& (255 : Int32)) <<< ((8 : Int32) &&& 31))))])) _
    refine XS.ior X0.here hx rfl (hb hby d1_45) rfl ?_
    show Steps p.tables e below (s₁.setTop (mkF m 46 #[.val (.ref a1), .val (.int p2)] [(.int (((((w3 &&& (255 : Int32)) <<< ((24 : Int32) &&& 31)) ||| ((w4 &&& (255 : Int32)) <<< ((16 : Int32) &&& 31))) ||| ((w5 &&& (255 : Int32)) <<< ((8 : Int32) &&& 31))) ||| (w6 &&& (255 : Int32))))])) _
    exact retI X0 hx Bd.returns (hb hby d1_46) hr
  · show Q1 Z a1 p2 w3 cl_a1 w4 w5 w6 h0 n0 _ s₁.heap _
    rw [e0]
    exact ⟨rfl, N0, rfl⟩
theorem pn_0 : plainName "com/example/transmute/transmute/BigEndianInt32AtPinLaw" = true := by first | (simp [plainName, overriddenIn]; done) | decide +kernel
theorem pd_0_0 : parseMethodDescriptor "([BI)I" = some ⟨[(.array .byte), .int], some .int⟩ := by decide +kernel
theorem ef_0 (m : MethodId) (x0 : Int32) (x1 : Int32) (x2 : Int64) : entryFrame m #[(.int x0), (.int x1), (.long x2)] maxLocals = mkF m 0 #[.val (.int x0), .val (.int x1), .val (.long x2), .second, .unset, .unset] [] := by first | (simp [entryFrame, mkF, argsToLocals, Value.category, maxLocals]; done) | rfl
def Q0 (Z : State) (p1 : Int32) (p2 : Int32) (q3 : Int64) (h0 : Heap) (n0 : Nat) (v : Option Value) (h : Heap) (L : List Loc) : Prop := v = some (.int (1 : Int32)) ∧ Fr n0 L
set_option maxRecDepth 65536 in
set_option maxHeartbeats 40000000 in
theorem rm0 (l : Launch) (Z : State) (a0 : Array Value) (hw : ∀ d ∈ tables_1, d.before a0 Z = true) (ws : List Jvm.Cond) (p1 : Int32) (p2 : Int32) (q3 : Int64) (h0 : Heap) (n0 : Nat) (Z0 : n0 ≤ h0.size) :
    MetFree l x (head1 (Jvm.Cond.code x code maxLocals ret :: ws) room_1) (fun a U => a = #[(.int p1), (.int p2), (.long q3)] ∧ Z.Warmed39 U.vm ∧ U.heap = h0) (fun _ _ _ _ _ => True) (fun _ U o U' => ∃ v L, o = .returned v ∧ Q0 Z p1 p2 q3 h0 n0 v U'.heap L ∧ FrameEnd U o U' L room_1.cells room_1.slots) := by
  refine MetFree.of_bodySF (plainFor_of_name pn_0) hisR ?_
  intro p e s m args below meth c s₁ Bd hml0 hP hK
  obtain ⟨rfl, hZ, hh⟩ := hP
  have hx := Bd.exec
  have hby := Bd.bytes
  have hml : c.maxLocals = 6 := hml0
  have hown : s.vm.findClass "com/example/transmute/transmute/BigEndianInt32AtPinLaw" = some m.cls := findClass_of_methodNamed Bd.named
  have hnm := (name_of_methodNamed Bd.named Bd.method).1
  have X0 : Stand p l e room_1 s m #[(.int p1), (.int p2), (.long q3)] below meth c s₁ [] 0 0 := Stand.of_body Bd
  have e0 : s₁.heap = h0 := by rw [← hh, Bd.state]; rfl
  have N0 := Fr.nil n0
  have pre0 : ∀ t, Steps p.tables e below (s₁.setTop (mkF m 0 #[.val (.int p1), .val (.int p2), .val (.long q3), .second, .unset, .unset] [])) t → Steps p.tables e below (s₁.setTop (entryFrame m #[(.int p1), (.int p2), (.long q3)] maxLocals)) t := fun t k => castTop (ef_0 m p1 p2 q3) k
  obtain ⟨hk4, hj0, ⟨hj1, pj1⟩, ⟨hj2, pj2⟩, ⟨hj3, pj3⟩⟩ := own_place p2
  obtain ⟨T4, h4, k4, X4, e4, E4, A4, st4⟩ := newP X0 hx hZ (hw _ (List.mem_of_getElem? (i := 0) rfl)) e0 (g := (mkF m 2 #[.val (.int p1), .val (.int p2), .val (.long q3), .second, .unset, .unset] [(.int (8 : Int32))])) rfl (hb hby at_2) rfl (by decide) (cap := 8) (by decide) (by decide) (by decide) (by decide)
  obtain ⟨b4, g4⟩ : ∃ z, z = h0.size := ⟨_, rfl⟩
  rw [← g4] at A4 st4
  have V_b4 : Arv Z h4 b4 k4 .byte (8 : Int32) [(.int (0 : Int32)), (.int (0 : Int32)), (.int (0 : Int32)), (.int (0 : Int32)), (.int (0 : Int32)), (.int (0 : Int32)), (.int (0 : Int32)), (.int (0 : Int32))] (.int (0 : Int32)) := (Arv.new A4 (by decide)).pad (pad_rep [] (.int (0 : Int32)) 8)
  have g_b4 : n0 ≤ b4 := Nat.le_trans Z0 (Nat.le_of_eq g4.symm)
  have sz_b4 : h0.size ≤ b4 := (Nat.le_trans (Keep.refl h0 []).1 (Nat.le_of_eq g4.symm))
  have K4 : Keep h0 h4 [] := (Keep.refl h0 []).ext E4
  obtain ⟨cl_b4_12, Ar_b4, q_b4, S_b4, N_b4, H_b4, G_b4⟩ := V_b4
  have hin12 : ¬ ((0 : Int32) < 0 ∨ cl_b4_12.slots.size ≤ ((0 : Int32)).toNatClampNeg) := inb_of S_b4 ⟨by decide, by decide⟩
  obtain ⟨T5, h5, X5, e5, W5, st5⟩ := stB X4 hx hZ e4 Ar_b4 (j := (0 : Int32)) hin12 (g := (mkF m 12 #[.val (.int p1), .val (.int p2), .val (.long q3), .second, .val (.ref b4), .unset] [(.int ((q3.toInt32).toInt8.toInt32)), (.int (0 : Int32)), (.ref b4)])) rfl rfl (hb hby at_12)
  have V_b4_5 := Arv.set Ar_b4 q_b4 S_b4 N_b4 H_b4 G_b4 (fits_nar_byte _) W5 0 rfl (Nat.le_of_ble_eq_true rfl)
  have K5 : Keep h0 h5 [] := K4.wr W5 (Or.inr sz_b4)
  have N5 := Fr.snoc X5 N0 g_b4
  obtain ⟨cl_b4_22, Ar_b4, q_b4, S_b4, N_b4, H_b4, G_b4⟩ := V_b4_5
  have hin22 : ¬ ((1 : Int32) < 0 ∨ cl_b4_22.slots.size ≤ ((1 : Int32)).toNatClampNeg) := inb_of S_b4 ⟨by decide, by decide⟩
  obtain ⟨T6, h6, X6, e6, W6, st6⟩ := stB X5 hx hZ e5 Ar_b4 (j := (1 : Int32)) hin22 (g := (mkF m 22 #[.val (.int p1), .val (.int p2), .val (.long q3), .second, .val (.ref b4), .unset] [(.int ((((q3.toUInt64 >>> ((8 : Int32) &&& 0x3f).toInt64.toUInt64).toInt64).toInt32).toInt8.toInt32)), (.int (1 : Int32)), (.ref b4)])) rfl rfl (hb hby at_22)
  have V_b4_6 := Arv.set Ar_b4 q_b4 S_b4 N_b4 H_b4 G_b4 (fits_nar_byte _) W6 1 rfl (Nat.le_of_ble_eq_true rfl)
  have K6 : Keep h0 h6 [] := K5.wr W6 (Or.inr sz_b4)
  have N6 := Fr.snoc X6 N5 g_b4
  obtain ⟨cl_b4_32, Ar_b4, q_b4, S_b4, N_b4, H_b4, G_b4⟩ := V_b4_6
  have hin32 : ¬ ((2 : Int32) < 0 ∨ cl_b4_32.slots.size ≤ ((2 : Int32)).toNatClampNeg) := inb_of S_b4 ⟨by decide, by decide⟩
  obtain ⟨T7, h7, X7, e7, W7, st7⟩ := stB X6 hx hZ e6 Ar_b4 (j := (2 : Int32)) hin32 (g := (mkF m 32 #[.val (.int p1), .val (.int p2), .val (.long q3), .second, .val (.ref b4), .unset] [(.int ((((q3.toUInt64 >>> ((16 : Int32) &&& 0x3f).toInt64.toUInt64).toInt64).toInt32).toInt8.toInt32)), (.int (2 : Int32)), (.ref b4)])) rfl rfl (hb hby at_32)
  have V_b4_7 := Arv.set Ar_b4 q_b4 S_b4 N_b4 H_b4 G_b4 (fits_nar_byte _) W7 2 rfl (Nat.le_of_ble_eq_true rfl)
  have K7 : Keep h0 h7 [] := K6.wr W7 (Or.inr sz_b4)
  have N7 := Fr.snoc X7 N6 g_b4
  obtain ⟨cl_b4_42, Ar_b4, q_b4, S_b4, N_b4, H_b4, G_b4⟩ := V_b4_7
  have hin42 : ¬ ((3 : Int32) < 0 ∨ cl_b4_42.slots.size ≤ ((3 : Int32)).toNatClampNeg) := inb_of S_b4 ⟨by decide, by decide⟩
  obtain ⟨T8, h8, X8, e8, W8, st8⟩ := stB X7 hx hZ e7 Ar_b4 (j := (3 : Int32)) hin42 (g := (mkF m 42 #[.val (.int p1), .val (.int p2), .val (.long q3), .second, .val (.ref b4), .unset] [(.int ((((q3.toUInt64 >>> ((24 : Int32) &&& 0x3f).toInt64.toUInt64).toInt64).toInt32).toInt8.toInt32)), (.int (3 : Int32)), (.ref b4)])) rfl rfl (hb hby at_42)
  have V_b4_8 := Arv.set Ar_b4 q_b4 S_b4 N_b4 H_b4 G_b4 (fits_nar_byte _) W8 3 rfl (Nat.le_of_ble_eq_true rfl)
  have K8 : Keep h0 h8 [] := K7.wr W8 (Or.inr sz_b4)
  have N8 := Fr.snoc X8 N7 g_b4
  obtain ⟨cl_b4_52, Ar_b4, q_b4, S_b4, N_b4, H_b4, G_b4⟩ := V_b4_8
  have hin52 : ¬ ((4 : Int32) < 0 ∨ cl_b4_52.slots.size ≤ ((4 : Int32)).toNatClampNeg) := inb_of S_b4 ⟨by decide, by decide⟩
  obtain ⟨T9, h9, X9, e9, W9, st9⟩ := stB X8 hx hZ e8 Ar_b4 (j := (4 : Int32)) hin52 (g := (mkF m 52 #[.val (.int p1), .val (.int p2), .val (.long q3), .second, .val (.ref b4), .unset] [(.int ((((q3.toUInt64 >>> ((32 : Int32) &&& 0x3f).toInt64.toUInt64).toInt64).toInt32).toInt8.toInt32)), (.int (4 : Int32)), (.ref b4)])) rfl rfl (hb hby at_52)
  have V_b4_9 := Arv.set Ar_b4 q_b4 S_b4 N_b4 H_b4 G_b4 (fits_nar_byte _) W9 4 rfl (Nat.le_of_ble_eq_true rfl)
  have K9 : Keep h0 h9 [] := K8.wr W9 (Or.inr sz_b4)
  have N9 := Fr.snoc X9 N8 g_b4
  obtain ⟨cl_b4_62, Ar_b4, q_b4, S_b4, N_b4, H_b4, G_b4⟩ := V_b4_9
  have hin62 : ¬ ((5 : Int32) < 0 ∨ cl_b4_62.slots.size ≤ ((5 : Int32)).toNatClampNeg) := inb_of S_b4 ⟨by decide, by decide⟩
  obtain ⟨T10, h10, X10, e10, W10, st10⟩ := stB X9 hx hZ e9 Ar_b4 (j := (5 : Int32)) hin62 (g := (mkF m 62 #[.val (.int p1), .val (.int p2), .val (.long q3), .second, .val (.ref b4), .unset] [(.int ((((q3.toUInt64 >>> ((40 : Int32) &&& 0x3f).toInt64.toUInt64).toInt64).toInt32).toInt8.toInt32)), (.int (5 : Int32)), (.ref b4)])) rfl rfl (hb hby at_62)
  have V_b4_10 := Arv.set Ar_b4 q_b4 S_b4 N_b4 H_b4 G_b4 (fits_nar_byte _) W10 5 rfl (Nat.le_of_ble_eq_true rfl)
  have K10 : Keep h0 h10 [] := K9.wr W10 (Or.inr sz_b4)
  have N10 := Fr.snoc X10 N9 g_b4
  obtain ⟨cl_b4_73, Ar_b4, q_b4, S_b4, N_b4, H_b4, G_b4⟩ := V_b4_10
  have hin73 : ¬ ((6 : Int32) < 0 ∨ cl_b4_73.slots.size ≤ ((6 : Int32)).toNatClampNeg) := inb_of S_b4 ⟨by decide, by decide⟩
  obtain ⟨T11, h11, X11, e11, W11, st11⟩ := stB X10 hx hZ e10 Ar_b4 (j := (6 : Int32)) hin73 (g := (mkF m 73 #[.val (.int p1), .val (.int p2), .val (.long q3), .second, .val (.ref b4), .unset] [(.int ((((q3.toUInt64 >>> ((48 : Int32) &&& 0x3f).toInt64.toUInt64).toInt64).toInt32).toInt8.toInt32)), (.int (6 : Int32)), (.ref b4)])) rfl rfl (hb hby at_73)
  have V_b4_11 := Arv.set Ar_b4 q_b4 S_b4 N_b4 H_b4 G_b4 (fits_nar_byte _) W11 6 rfl (Nat.le_of_ble_eq_true rfl)
  have K11 : Keep h0 h11 [] := K10.wr W11 (Or.inr sz_b4)
  have N11 := Fr.snoc X11 N10 g_b4
  obtain ⟨cl_b4_84, Ar_b4, q_b4, S_b4, N_b4, H_b4, G_b4⟩ := V_b4_11
  have hin84 : ¬ ((7 : Int32) < 0 ∨ cl_b4_84.slots.size ≤ ((7 : Int32)).toNatClampNeg) := inb_of S_b4 ⟨by decide, by decide⟩
  obtain ⟨T12, h12, X12, e12, W12, st12⟩ := stB X11 hx hZ e11 Ar_b4 (j := (7 : Int32)) hin84 (g := (mkF m 84 #[.val (.int p1), .val (.int p2), .val (.long q3), .second, .val (.ref b4), .unset] [(.int ((((q3.toUInt64 >>> ((56 : Int32) &&& 0x3f).toInt64.toUInt64).toInt64).toInt32).toInt8.toInt32)), (.int (7 : Int32)), (.ref b4)])) rfl rfl (hb hby at_84)
  have V_b4_12 := Arv.set Ar_b4 q_b4 S_b4 N_b4 H_b4 G_b4 (fits_nar_byte _) W12 7 rfl (Nat.le_of_ble_eq_true rfl)
  have K12 : Keep h0 h12 [] := K11.wr W12 (Or.inr sz_b4)
  have N12 := Fr.snoc X12 N11 g_b4
  obtain ⟨vs, hvs, V0⟩ : ∃ vs : List Value, vs.length = 8 ∧ Arv Z h12 b4 k4 .byte 8 vs (.int (0 : Int32)) := ⟨_, by simp, V_b4_12⟩
  obtain ⟨cl_b4_99, Ar_b4, q_b4, S_b4, N_b4, H_b4, G_b4⟩ := V0
  have hin99 : ¬ ((p2 &&& (3 : Int32)) < 0 ∨ cl_b4_99.slots.size ≤ ((p2 &&& (3 : Int32))).toNatClampNeg) := inb_of S_b4 hj0
  obtain ⟨T13, h13, X13, e13, W13, st13⟩ := stB X12 hx hZ e12 Ar_b4 (j := (p2 &&& (3 : Int32))) hin99 (g := (mkF m 99 #[.val (.int p1), .val (.int p2), .val (.long q3), .second, .val (.ref b4), .val (.int (p2 &&& (3 : Int32)))] [(.int (((p1.toUInt32 >>> ((24 : Int32) &&& 31).toUInt32).toInt32).toInt8.toInt32)), (.int (p2 &&& (3 : Int32))), (.ref b4)])) rfl rfl (hb hby at_99)
  have V_b4_13 := Arv.set Ar_b4 q_b4 S_b4 N_b4 H_b4 G_b4 (fits_nar_byte _) W13 ((p2 &&& (3 : Int32)).toNatClampNeg) rfl (by first | (simp only [List.length_set]; omega) | omega)
  have K13 : Keep h0 h13 [] := K12.wr W13 (Or.inr sz_b4)
  have N13 := Fr.snoc X13 N12 g_b4
  obtain ⟨cl_b4_111, Ar_b4, q_b4, S_b4, N_b4, H_b4, G_b4⟩ := V_b4_13
  have hin111 : ¬ (((p2 &&& (3 : Int32)) + (1 : Int32)) < 0 ∨ cl_b4_111.slots.size ≤ (((p2 &&& (3 : Int32)) + (1 : Int32))).toNatClampNeg) := inb_of S_b4 hj1
  obtain ⟨T14, h14, X14, e14, W14, st14⟩ := stB X13 hx hZ e13 Ar_b4 (j := ((p2 &&& (3 : Int32)) + (1 : Int32))) hin111 (g := (mkF m 111 #[.val (.int p1), .val (.int p2), .val (.long q3), .second, .val (.ref b4), .val (.int (p2 &&& (3 : Int32)))] [(.int (((p1.toUInt32 >>> ((16 : Int32) &&& 31).toUInt32).toInt32).toInt8.toInt32)), (.int ((p2 &&& (3 : Int32)) + (1 : Int32))), (.ref b4)])) rfl rfl (hb hby at_111)
  have V_b4_14 := Arv.set Ar_b4 q_b4 S_b4 N_b4 H_b4 G_b4 (fits_nar_byte _) W14 ((p2 &&& (3 : Int32)).toNatClampNeg + 1) pj1 (by first | (simp only [List.length_set]; omega) | omega)
  have K14 : Keep h0 h14 [] := K13.wr W14 (Or.inr sz_b4)
  have N14 := Fr.snoc X14 N13 g_b4
  obtain ⟨cl_b4_123, Ar_b4, q_b4, S_b4, N_b4, H_b4, G_b4⟩ := V_b4_14
  have hin123 : ¬ (((p2 &&& (3 : Int32)) + (2 : Int32)) < 0 ∨ cl_b4_123.slots.size ≤ (((p2 &&& (3 : Int32)) + (2 : Int32))).toNatClampNeg) := inb_of S_b4 hj2
  obtain ⟨T15, h15, X15, e15, W15, st15⟩ := stB X14 hx hZ e14 Ar_b4 (j := ((p2 &&& (3 : Int32)) + (2 : Int32))) hin123 (g := (mkF m 123 #[.val (.int p1), .val (.int p2), .val (.long q3), .second, .val (.ref b4), .val (.int (p2 &&& (3 : Int32)))] [(.int (((p1.toUInt32 >>> ((8 : Int32) &&& 31).toUInt32).toInt32).toInt8.toInt32)), (.int ((p2 &&& (3 : Int32)) + (2 : Int32))), (.ref b4)])) rfl rfl (hb hby at_123)
  have V_b4_15 := Arv.set Ar_b4 q_b4 S_b4 N_b4 H_b4 G_b4 (fits_nar_byte _) W15 ((p2 &&& (3 : Int32)).toNatClampNeg + 2) pj2 (by first | (simp only [List.length_set]; omega) | omega)
  have K15 : Keep h0 h15 [] := K14.wr W15 (Or.inr sz_b4)
  have N15 := Fr.snoc X15 N14 g_b4
  obtain ⟨cl_b4_132, Ar_b4, q_b4, S_b4, N_b4, H_b4, G_b4⟩ := V_b4_15
  have hin132 : ¬ (((p2 &&& (3 : Int32)) + (3 : Int32)) < 0 ∨ cl_b4_132.slots.size ≤ (((p2 &&& (3 : Int32)) + (3 : Int32))).toNatClampNeg) := inb_of S_b4 hj3
  obtain ⟨T16, h16, X16, e16, W16, st16⟩ := stB X15 hx hZ e15 Ar_b4 (j := ((p2 &&& (3 : Int32)) + (3 : Int32))) hin132 (g := (mkF m 132 #[.val (.int p1), .val (.int p2), .val (.long q3), .second, .val (.ref b4), .val (.int (p2 &&& (3 : Int32)))] [(.int (p1.toInt8.toInt32)), (.int ((p2 &&& (3 : Int32)) + (3 : Int32))), (.ref b4)])) rfl rfl (hb hby at_132)
  have V_b4_16 := Arv.set Ar_b4 q_b4 S_b4 N_b4 H_b4 G_b4 (fits_nar_byte _) W16 ((p2 &&& (3 : Int32)).toNatClampNeg + 3) pj3 (by first | (simp only [List.length_set]; omega) | omega)
  have K16 : Keep h0 h16 [] := K15.wr W16 (Or.inr sz_b4)
  have N16 := Fr.snoc X16 N15 g_b4
  obtain ⟨cl, Ar, qq, S, NN, H, G⟩ := V_b4_16
  obtain ⟨G0, G1, G2, G3⟩ := own_gets vs hvs (p2 &&& (3 : Int32)).toNatClampNeg hk4 (.int (nar .byte (own_sh p1 24))) (.int (nar .byte (own_sh p1 16))) (.int (nar .byte (own_sh p1 8))) (.int (nar .byte p1.toInt8.toInt32)) (.int (0 : Int32))
  have nn : ∀ y : Int32, Value.int (nar .byte y.toInt8.toInt32) = .int y.toInt8.toInt32 := fun y => congrArg Value.int (own_nn y)
  have a0' := Has.at H (inb_of S hj0) (G0.trans (nn _))
  have a1' := Has.at H (inb_of S hj1) ((congrArg (fun q => List.getD _ q _) pj1).trans (G1.trans (nn _)))
  have a2' := Has.at H (inb_of S hj2) ((congrArg (fun q => List.getD _ q _) pj2).trans (G2.trans (nn _)))
  have a3' := Has.at H (inb_of S hj3) ((congrArg (fun q => List.getD _ q _) pj3).trans (G3.trans (nn _)))
  obtain ⟨_, _, ⟨T17, L17, k17, n17⟩, -, X17, ⟨Lc17, hQ17, l17, y17, z17⟩, st17⟩ := Jvm.LawKit.callS X16 hx (y := (⟨"com/example/transmute/transmute/BigEndian", "int32At", "([BI)I"⟩ : MethodName)) hown (mvT hZ (hw _ (List.mem_of_getElem? (i := 1) rfl))) (mvT hZ (hw _ (List.mem_of_getElem? (i := 2) rfl))) (mvT hZ (hw _ (List.mem_of_getElem? (i := 3) rfl))) (mvT hZ (hw _ (List.mem_of_getElem? (i := 4) rfl))) (by decide) (backOf (W := 0) (rm1 l Z a0 hw [] b4 (p2 &&& (3 : Int32)) (own_sh p1 24) cl (own_sh p1 16) (own_sh p1 8) p1.toInt8.toInt32 h16 n0 (Nat.le_trans Z0 K16.1) Ar (inb_of S hj0) a0' (inb_of S hj1) a1' (inb_of S hj2) a2' (inb_of S hj3) a3') hZ (hw _ (List.mem_of_getElem? (i := 4) rfl)) (hw _ (List.mem_of_getElem? (i := 3) rfl)) (by decide) (by decide)) (g := (mkF m 137 #[.val (.int p1), .val (.int p2), .val (.long q3), .second, .val (.ref b4), .val (.int (p2 &&& (3 : Int32)))] [(.int (p2 &&& (3 : Int32))), (.ref b4)])) rfl (by rw [hml]; rfl) (argsL := [(.ref b4), (.int (p2 &&& (3 : Int32)))]) (rest := []) (lenOf pd_0_0 rfl) rfl (by show 2 * 0 + _ ≤ _; exact Nat.le_of_eq rfl) (hb hby at_137) (fun _ _ => ⟨rfl, e16, (by decide : 1 + 0 ≤ _), (by decide : 8 + 0 ≤ _)⟩)
  dsimp only [Pt.U, Pt.locs, Pt.cells, Pt.slots] at X17 l17 y17 z17 st17 hQ17
  subst l17 y17 z17
  obtain ⟨rfl, N17q, eh⟩ := hQ17
  have N17 := Fr.app N16 N17q
  obtain ⟨fs, hr, hrun, hended, hW, hsame⟩ := X17.leave (v := some (.int (1 : Int32))) (fun h => by rw [Bd.returns] at h; cases h)
  refine ⟨_, _, pre0 _ ?_, hrun, hended, _, _, rfl, ?_, ⟨_, rfl⟩, hW, hsame.mono (by decide) (by decide)⟩
  · show Steps p.tables e below (s₁.setTop (mkF m 0 #[.val (.int p1), .val (.int p2), .val (.long q3), .second, .unset, .unset] [])) _
    refine XS.bipush X0.here hx rfl (hb hby at_0) ?_
    show Steps p.tables e below (s₁.setTop (mkF m 2 #[.val (.int p1), .val (.int p2), .val (.long q3), .second, .unset, .unset] [(.int (8 : Int32))])) _
    refine st4 _ ?_
    show Steps p.tables e below (T4.setTop (mkF m 4 #[.val (.int p1), .val (.int p2), .val (.long q3), .second, .unset, .unset] [(.ref b4)])) _
    refine XS.astore X4.here hx rfl (hb hby at_4) rfl rfl (l' := #[.val (.int p1), .val (.int p2), .val (.long q3), .second, .val (.ref b4), .unset]) rfl ?_
    show Steps p.tables e below (T4.setTop (mkF m 6 #[.val (.int p1), .val (.int p2), .val (.long q3), .second, .val (.ref b4), .unset] [])) _
    refine XS.aload X4.here hx rfl (hb hby at_6) rfl rfl ?_
    show Steps p.tables e below (T4.setTop (mkF m 8 #[.val (.int p1), .val (.int p2), .val (.long q3), .second, .val (.ref b4), .unset] [(.ref b4)])) _
    refine XS.iconst X4.here hx rfl (hb hby at_8) ?_
    show Steps p.tables e below (T4.setTop (mkF m 9 #[.val (.int p1), .val (.int p2), .val (.long q3), .second, .val (.ref b4), .unset] [(.int (0 : Int32)), (.ref b4)])) _
    refine XS.lloadN X4.here hx rfl (hb hby at_9) rfl ?_
    show Steps p.tables e below (T4.setTop (mkF m 10 #[.val (.int p1), .val (.int p2), .val (.long q3), .second, .val (.ref b4), .unset] [(.long q3), (.int (0 : Int32)), (.ref b4)])) _
    refine XS.l2i X4.here hx rfl (hb hby at_10) rfl ?_
    show Steps p.tables e below (T4.setTop (mkF m 11 #[.val (.int p1), .val (.int p2), .val (.long q3), .second, .val (.ref b4), .unset] [(.int (q3.toInt32)), (.int (0 : Int32)), (.ref b4)])) _
    refine XS.i2b X4.here hx rfl (hb hby at_11) rfl ?_
    show Steps p.tables e below (T4.setTop (mkF m 12 #[.val (.int p1), .val (.int p2), .val (.long q3), .second, .val (.ref b4), .unset] [(.int ((q3.toInt32).toInt8.toInt32)), (.int (0 : Int32)), (.ref b4)])) _
    refine st5 _ ?_
    show Steps p.tables e below (T5.setTop (mkF m 13 #[.val (.int p1), .val (.int p2), .val (.long q3), .second, .val (.ref b4), .unset] [])) _
    refine XS.aload X5.here hx rfl (hb hby at_13) rfl rfl ?_
    show Steps p.tables e below (T5.setTop (mkF m 15 #[.val (.int p1), .val (.int p2), .val (.long q3), .second, .val (.ref b4), .unset] [(.ref b4)])) _
    refine XS.iconst X5.here hx rfl (hb hby at_15) ?_
    show Steps p.tables e below (T5.setTop (mkF m 16 #[.val (.int p1), .val (.int p2), .val (.long q3), .second, .val (.ref b4), .unset] [(.int (1 : Int32)), (.ref b4)])) _
    refine XS.lloadN X5.here hx rfl (hb hby at_16) rfl ?_
    show Steps p.tables e below (T5.setTop (mkF m 17 #[.val (.int p1), .val (.int p2), .val (.long q3), .second, .val (.ref b4), .unset] [(.long q3), (.int (1 : Int32)), (.ref b4)])) _
    refine XS.bipush X5.here hx rfl (hb hby at_17) ?_
    show Steps p.tables e below (T5.setTop (mkF m 19 #[.val (.int p1), .val (.int p2), .val (.long q3), .second, .val (.ref b4), .unset] [(.int (8 : Int32)), (.long q3), (.int (1 : Int32)), (.ref b4)])) _
    refine XS.lushr X5.here hx rfl (hb hby at_19) rfl ?_
    show Steps p.tables e below (T5.setTop (mkF m 20 #[.val (.int p1), .val (.int p2), .val (.long q3), .second, .val (.ref b4), .unset] [(.long ((q3.toUInt64 >>> ((8 : Int32) &&& 0x3f).toInt64.toUInt64).toInt64)), (.int (1 : Int32)), (.ref b4)])) _
    refine XS.l2i X5.here hx rfl (hb hby at_20) rfl ?_
    show Steps p.tables e below (T5.setTop (mkF m 21 #[.val (.int p1), .val (.int p2), .val (.long q3), .second, .val (.ref b4), .unset] [(.int (((q3.toUInt64 >>> ((8 : Int32) &&& 0x3f).toInt64.toUInt64).toInt64).toInt32)), (.int (1 : Int32)), (.ref b4)])) _
    refine XS.i2b X5.here hx rfl (hb hby at_21) rfl ?_
    show Steps p.tables e below (T5.setTop (mkF m 22 #[.val (.int p1), .val (.int p2), .val (.long q3), .second, .val (.ref b4), .unset] [(.int ((((q3.toUInt64 >>> ((8 : Int32) &&& 0x3f).toInt64.toUInt64).toInt64).toInt32).toInt8.toInt32)), (.int (1 : Int32)), (.ref b4)])) _
    refine st6 _ ?_
    show Steps p.tables e below (T6.setTop (mkF m 23 #[.val (.int p1), .val (.int p2), .val (.long q3), .second, .val (.ref b4), .unset] [])) _
    refine XS.aload X6.here hx rfl (hb hby at_23) rfl rfl ?_
    show Steps p.tables e below (T6.setTop (mkF m 25 #[.val (.int p1), .val (.int p2), .val (.long q3), .second, .val (.ref b4), .unset] [(.ref b4)])) _
    refine XS.iconst X6.here hx rfl (hb hby at_25) ?_
    show Steps p.tables e below (T6.setTop (mkF m 26 #[.val (.int p1), .val (.int p2), .val (.long q3), .second, .val (.ref b4), .unset] [(.int (2 : Int32)), (.ref b4)])) _
    refine XS.lloadN X6.here hx rfl (hb hby at_26) rfl ?_
    show Steps p.tables e below (T6.setTop (mkF m 27 #[.val (.int p1), .val (.int p2), .val (.long q3), .second, .val (.ref b4), .unset] [(.long q3), (.int (2 : Int32)), (.ref b4)])) _
    refine XS.bipush X6.here hx rfl (hb hby at_27) ?_
    show Steps p.tables e below (T6.setTop (mkF m 29 #[.val (.int p1), .val (.int p2), .val (.long q3), .second, .val (.ref b4), .unset] [(.int (16 : Int32)), (.long q3), (.int (2 : Int32)), (.ref b4)])) _
    refine XS.lushr X6.here hx rfl (hb hby at_29) rfl ?_
    show Steps p.tables e below (T6.setTop (mkF m 30 #[.val (.int p1), .val (.int p2), .val (.long q3), .second, .val (.ref b4), .unset] [(.long ((q3.toUInt64 >>> ((16 : Int32) &&& 0x3f).toInt64.toUInt64).toInt64)), (.int (2 : Int32)), (.ref b4)])) _
    refine XS.l2i X6.here hx rfl (hb hby at_30) rfl ?_
    show Steps p.tables e below (T6.setTop (mkF m 31 #[.val (.int p1), .val (.int p2), .val (.long q3), .second, .val (.ref b4), .unset] [(.int (((q3.toUInt64 >>> ((16 : Int32) &&& 0x3f).toInt64.toUInt64).toInt64).toInt32)), (.int (2 : Int32)), (.ref b4)])) _
    refine XS.i2b X6.here hx rfl (hb hby at_31) rfl ?_
    show Steps p.tables e below (T6.setTop (mkF m 32 #[.val (.int p1), .val (.int p2), .val (.long q3), .second, .val (.ref b4), .unset] [(.int ((((q3.toUInt64 >>> ((16 : Int32) &&& 0x3f).toInt64.toUInt64).toInt64).toInt32).toInt8.toInt32)), (.int (2 : Int32)), (.ref b4)])) _
    refine st7 _ ?_
    show Steps p.tables e below (T7.setTop (mkF m 33 #[.val (.int p1), .val (.int p2), .val (.long q3), .second, .val (.ref b4), .unset] [])) _
    refine XS.aload X7.here hx rfl (hb hby at_33) rfl rfl ?_
    show Steps p.tables e below (T7.setTop (mkF m 35 #[.val (.int p1), .val (.int p2), .val (.long q3), .second, .val (.ref b4), .unset] [(.ref b4)])) _
    refine XS.iconst X7.here hx rfl (hb hby at_35) ?_
    show Steps p.tables e below (T7.setTop (mkF m 36 #[.val (.int p1), .val (.int p2), .val (.long q3), .second, .val (.ref b4), .unset] [(.int (3 : Int32)), (.ref b4)])) _
    refine XS.lloadN X7.here hx rfl (hb hby at_36) rfl ?_
    show Steps p.tables e below (T7.setTop (mkF m 37 #[.val (.int p1), .val (.int p2), .val (.long q3), .second, .val (.ref b4), .unset] [(.long q3), (.int (3 : Int32)), (.ref b4)])) _
    refine XS.bipush X7.here hx rfl (hb hby at_37) ?_
    show Steps p.tables e below (T7.setTop (mkF m 39 #[.val (.int p1), .val (.int p2), .val (.long q3), .second, .val (.ref b4), .unset] [(.int (24 : Int32)), (.long q3), (.int (3 : Int32)), (.ref b4)])) _
    refine XS.lushr X7.here hx rfl (hb hby at_39) rfl ?_
    show Steps p.tables e below (T7.setTop (mkF m 40 #[.val (.int p1), .val (.int p2), .val (.long q3), .second, .val (.ref b4), .unset] [(.long ((q3.toUInt64 >>> ((24 : Int32) &&& 0x3f).toInt64.toUInt64).toInt64)), (.int (3 : Int32)), (.ref b4)])) _
    refine XS.l2i X7.here hx rfl (hb hby at_40) rfl ?_
    show Steps p.tables e below (T7.setTop (mkF m 41 #[.val (.int p1), .val (.int p2), .val (.long q3), .second, .val (.ref b4), .unset] [(.int (((q3.toUInt64 >>> ((24 : Int32) &&& 0x3f).toInt64.toUInt64).toInt64).toInt32)), (.int (3 : Int32)), (.ref b4)])) _
    refine XS.i2b X7.here hx rfl (hb hby at_41) rfl ?_
    show Steps p.tables e below (T7.setTop (mkF m 42 #[.val (.int p1), .val (.int p2), .val (.long q3), .second, .val (.ref b4), .unset] [(.int ((((q3.toUInt64 >>> ((24 : Int32) &&& 0x3f).toInt64.toUInt64).toInt64).toInt32).toInt8.toInt32)), (.int (3 : Int32)), (.ref b4)])) _
    refine st8 _ ?_
    show Steps p.tables e below (T8.setTop (mkF m 43 #[.val (.int p1), .val (.int p2), .val (.long q3), .second, .val (.ref b4), .unset] [])) _
    refine XS.aload X8.here hx rfl (hb hby at_43) rfl rfl ?_
    show Steps p.tables e below (T8.setTop (mkF m 45 #[.val (.int p1), .val (.int p2), .val (.long q3), .second, .val (.ref b4), .unset] [(.ref b4)])) _
    refine XS.iconst X8.here hx rfl (hb hby at_45) ?_
    show Steps p.tables e below (T8.setTop (mkF m 46 #[.val (.int p1), .val (.int p2), .val (.long q3), .second, .val (.ref b4), .unset] [(.int (4 : Int32)), (.ref b4)])) _
    refine XS.lloadN X8.here hx rfl (hb hby at_46) rfl ?_
    show Steps p.tables e below (T8.setTop (mkF m 47 #[.val (.int p1), .val (.int p2), .val (.long q3), .second, .val (.ref b4), .unset] [(.long q3), (.int (4 : Int32)), (.ref b4)])) _
    refine XS.bipush X8.here hx rfl (hb hby at_47) ?_
    show Steps p.tables e below (T8.setTop (mkF m 49 #[.val (.int p1), .val (.int p2), .val (.long q3), .second, .val (.ref b4), .unset] [(.int (32 : Int32)), (.long q3), (.int (4 : Int32)), (.ref b4)])) _
    refine XS.lushr X8.here hx rfl (hb hby at_49) rfl ?_
    show Steps p.tables e below (T8.setTop (mkF m 50 #[.val (.int p1), .val (.int p2), .val (.long q3), .second, .val (.ref b4), .unset] [(.long ((q3.toUInt64 >>> ((32 : Int32) &&& 0x3f).toInt64.toUInt64).toInt64)), (.int (4 : Int32)), (.ref b4)])) _
    refine XS.l2i X8.here hx rfl (hb hby at_50) rfl ?_
    show Steps p.tables e below (T8.setTop (mkF m 51 #[.val (.int p1), .val (.int p2), .val (.long q3), .second, .val (.ref b4), .unset] [(.int (((q3.toUInt64 >>> ((32 : Int32) &&& 0x3f).toInt64.toUInt64).toInt64).toInt32)), (.int (4 : Int32)), (.ref b4)])) _
    refine XS.i2b X8.here hx rfl (hb hby at_51) rfl ?_
    show Steps p.tables e below (T8.setTop (mkF m 52 #[.val (.int p1), .val (.int p2), .val (.long q3), .second, .val (.ref b4), .unset] [(.int ((((q3.toUInt64 >>> ((32 : Int32) &&& 0x3f).toInt64.toUInt64).toInt64).toInt32).toInt8.toInt32)), (.int (4 : Int32)), (.ref b4)])) _
    refine st9 _ ?_
    show Steps p.tables e below (T9.setTop (mkF m 53 #[.val (.int p1), .val (.int p2), .val (.long q3), .second, .val (.ref b4), .unset] [])) _
    refine XS.aload X9.here hx rfl (hb hby at_53) rfl rfl ?_
    show Steps p.tables e below (T9.setTop (mkF m 55 #[.val (.int p1), .val (.int p2), .val (.long q3), .second, .val (.ref b4), .unset] [(.ref b4)])) _
    refine XS.iconst X9.here hx rfl (hb hby at_55) ?_
    show Steps p.tables e below (T9.setTop (mkF m 56 #[.val (.int p1), .val (.int p2), .val (.long q3), .second, .val (.ref b4), .unset] [(.int (5 : Int32)), (.ref b4)])) _
    refine XS.lloadN X9.here hx rfl (hb hby at_56) rfl ?_
    show Steps p.tables e below (T9.setTop (mkF m 57 #[.val (.int p1), .val (.int p2), .val (.long q3), .second, .val (.ref b4), .unset] [(.long q3), (.int (5 : Int32)), (.ref b4)])) _
    refine XS.bipush X9.here hx rfl (hb hby at_57) ?_
    show Steps p.tables e below (T9.setTop (mkF m 59 #[.val (.int p1), .val (.int p2), .val (.long q3), .second, .val (.ref b4), .unset] [(.int (40 : Int32)), (.long q3), (.int (5 : Int32)), (.ref b4)])) _
    refine XS.lushr X9.here hx rfl (hb hby at_59) rfl ?_
    show Steps p.tables e below (T9.setTop (mkF m 60 #[.val (.int p1), .val (.int p2), .val (.long q3), .second, .val (.ref b4), .unset] [(.long ((q3.toUInt64 >>> ((40 : Int32) &&& 0x3f).toInt64.toUInt64).toInt64)), (.int (5 : Int32)), (.ref b4)])) _
    refine XS.l2i X9.here hx rfl (hb hby at_60) rfl ?_
    show Steps p.tables e below (T9.setTop (mkF m 61 #[.val (.int p1), .val (.int p2), .val (.long q3), .second, .val (.ref b4), .unset] [(.int (((q3.toUInt64 >>> ((40 : Int32) &&& 0x3f).toInt64.toUInt64).toInt64).toInt32)), (.int (5 : Int32)), (.ref b4)])) _
    refine XS.i2b X9.here hx rfl (hb hby at_61) rfl ?_
    show Steps p.tables e below (T9.setTop (mkF m 62 #[.val (.int p1), .val (.int p2), .val (.long q3), .second, .val (.ref b4), .unset] [(.int ((((q3.toUInt64 >>> ((40 : Int32) &&& 0x3f).toInt64.toUInt64).toInt64).toInt32).toInt8.toInt32)), (.int (5 : Int32)), (.ref b4)])) _
    refine st10 _ ?_
    show Steps p.tables e below (T10.setTop (mkF m 63 #[.val (.int p1), .val (.int p2), .val (.long q3), .second, .val (.ref b4), .unset] [])) _
    refine XS.aload X10.here hx rfl (hb hby at_63) rfl rfl ?_
    show Steps p.tables e below (T10.setTop (mkF m 65 #[.val (.int p1), .val (.int p2), .val (.long q3), .second, .val (.ref b4), .unset] [(.ref b4)])) _
    refine XS.bipush X10.here hx rfl (hb hby at_65) ?_
    show Steps p.tables e below (T10.setTop (mkF m 67 #[.val (.int p1), .val (.int p2), .val (.long q3), .second, .val (.ref b4), .unset] [(.int (6 : Int32)), (.ref b4)])) _
    refine XS.lloadN X10.here hx rfl (hb hby at_67) rfl ?_
    show Steps p.tables e below (T10.setTop (mkF m 68 #[.val (.int p1), .val (.int p2), .val (.long q3), .second, .val (.ref b4), .unset] [(.long q3), (.int (6 : Int32)), (.ref b4)])) _
    refine XS.bipush X10.here hx rfl (hb hby at_68) ?_
    show Steps p.tables e below (T10.setTop (mkF m 70 #[.val (.int p1), .val (.int p2), .val (.long q3), .second, .val (.ref b4), .unset] [(.int (48 : Int32)), (.long q3), (.int (6 : Int32)), (.ref b4)])) _
    refine XS.lushr X10.here hx rfl (hb hby at_70) rfl ?_
    show Steps p.tables e below (T10.setTop (mkF m 71 #[.val (.int p1), .val (.int p2), .val (.long q3), .second, .val (.ref b4), .unset] [(.long ((q3.toUInt64 >>> ((48 : Int32) &&& 0x3f).toInt64.toUInt64).toInt64)), (.int (6 : Int32)), (.ref b4)])) _
    refine XS.l2i X10.here hx rfl (hb hby at_71) rfl ?_
    show Steps p.tables e below (T10.setTop (mkF m 72 #[.val (.int p1), .val (.int p2), .val (.long q3), .second, .val (.ref b4), .unset] [(.int (((q3.toUInt64 >>> ((48 : Int32) &&& 0x3f).toInt64.toUInt64).toInt64).toInt32)), (.int (6 : Int32)), (.ref b4)])) _
    refine XS.i2b X10.here hx rfl (hb hby at_72) rfl ?_
    show Steps p.tables e below (T10.setTop (mkF m 73 #[.val (.int p1), .val (.int p2), .val (.long q3), .second, .val (.ref b4), .unset] [(.int ((((q3.toUInt64 >>> ((48 : Int32) &&& 0x3f).toInt64.toUInt64).toInt64).toInt32).toInt8.toInt32)), (.int (6 : Int32)), (.ref b4)])) _
    refine st11 _ ?_
    show Steps p.tables e below (T11.setTop (mkF m 74 #[.val (.int p1), .val (.int p2), .val (.long q3), .second, .val (.ref b4), .unset] [])) _
    refine XS.aload X11.here hx rfl (hb hby at_74) rfl rfl ?_
    show Steps p.tables e below (T11.setTop (mkF m 76 #[.val (.int p1), .val (.int p2), .val (.long q3), .second, .val (.ref b4), .unset] [(.ref b4)])) _
    refine XS.bipush X11.here hx rfl (hb hby at_76) ?_
    show Steps p.tables e below (T11.setTop (mkF m 78 #[.val (.int p1), .val (.int p2), .val (.long q3), .second, .val (.ref b4), .unset] [(.int (7 : Int32)), (.ref b4)])) _
    refine XS.lloadN X11.here hx rfl (hb hby at_78) rfl ?_
    show Steps p.tables e below (T11.setTop (mkF m 79 #[.val (.int p1), .val (.int p2), .val (.long q3), .second, .val (.ref b4), .unset] [(.long q3), (.int (7 : Int32)), (.ref b4)])) _
    refine XS.bipush X11.here hx rfl (hb hby at_79) ?_
    show Steps p.tables e below (T11.setTop (mkF m 81 #[.val (.int p1), .val (.int p2), .val (.long q3), .second, .val (.ref b4), .unset] [(.int (56 : Int32)), (.long q3), (.int (7 : Int32)), (.ref b4)])) _
    refine XS.lushr X11.here hx rfl (hb hby at_81) rfl ?_
    show Steps p.tables e below (T11.setTop (mkF m 82 #[.val (.int p1), .val (.int p2), .val (.long q3), .second, .val (.ref b4), .unset] [(.long ((q3.toUInt64 >>> ((56 : Int32) &&& 0x3f).toInt64.toUInt64).toInt64)), (.int (7 : Int32)), (.ref b4)])) _
    refine XS.l2i X11.here hx rfl (hb hby at_82) rfl ?_
    show Steps p.tables e below (T11.setTop (mkF m 83 #[.val (.int p1), .val (.int p2), .val (.long q3), .second, .val (.ref b4), .unset] [(.int (((q3.toUInt64 >>> ((56 : Int32) &&& 0x3f).toInt64.toUInt64).toInt64).toInt32)), (.int (7 : Int32)), (.ref b4)])) _
    refine XS.i2b X11.here hx rfl (hb hby at_83) rfl ?_
    show Steps p.tables e below (T11.setTop (mkF m 84 #[.val (.int p1), .val (.int p2), .val (.long q3), .second, .val (.ref b4), .unset] [(.int ((((q3.toUInt64 >>> ((56 : Int32) &&& 0x3f).toInt64.toUInt64).toInt64).toInt32).toInt8.toInt32)), (.int (7 : Int32)), (.ref b4)])) _
    refine st12 _ ?_
    show Steps p.tables e below (T12.setTop (mkF m 85 #[.val (.int p1), .val (.int p2), .val (.long q3), .second, .val (.ref b4), .unset] [])) _
    refine XS.iloadN X12.here hx rfl (hb hby at_85) rfl ?_
    show Steps p.tables e below (T12.setTop (mkF m 86 #[.val (.int p1), .val (.int p2), .val (.long q3), .second, .val (.ref b4), .unset] [(.int p2)])) _
    refine XS.iconst X12.here hx rfl (hb hby at_86) ?_
    show Steps p.tables e below (T12.setTop (mkF m 87 #[.val (.int p1), .val (.int p2), .val (.long q3), .second, .val (.ref b4), .unset] [(.int (3 : Int32)), (.int p2)])) _
    refine XS.iand X12.here hx rfl (hb hby at_87) rfl ?_
    show Steps p.tables e below (T12.setTop (mkF m 88 #[.val (.int p1), .val (.int p2), .val (.long q3), .second, .val (.ref b4), .unset] [(.int (p2 &&& (3 : Int32)))])) _
    refine XS.istore X12.here hx rfl (hb hby at_88) rfl (l' := #[.val (.int p1), .val (.int p2), .val (.long q3), .second, .val (.ref b4), .val (.int (p2 &&& (3 : Int32)))]) rfl ?_
    show Steps p.tables e below (T12.setTop (mkF m 90 #[.val (.int p1), .val (.int p2), .val (.long q3), .second, .val (.ref b4), .val (.int (p2 &&& (3 : Int32)))] [])) _
    refine XS.aload X12.here hx rfl (hb hby at_90) rfl rfl ?_
    show Steps p.tables e below (T12.setTop (mkF m 92 #[.val (.int p1), .val (.int p2), .val (.long q3), .second, .val (.ref b4), .val (.int (p2 &&& (3 : Int32)))] [(.ref b4)])) _
    refine XS.iload X12.here hx rfl (hb hby at_92) rfl ?_
    show Steps p.tables e below (T12.setTop (mkF m 94 #[.val (.int p1), .val (.int p2), .val (.long q3), .second, .val (.ref b4), .val (.int (p2 &&& (3 : Int32)))] [(.int (p2 &&& (3 : Int32))), (.ref b4)])) _
    refine XS.iloadN X12.here hx rfl (hb hby at_94) rfl ?_
    show Steps p.tables e below (T12.setTop (mkF m 95 #[.val (.int p1), .val (.int p2), .val (.long q3), .second, .val (.ref b4), .val (.int (p2 &&& (3 : Int32)))] [(.int p1), (.int (p2 &&& (3 : Int32))), (.ref b4)])) _
    refine XS.bipush X12.here hx rfl (hb hby at_95) ?_
    show Steps p.tables e below (T12.setTop (mkF m 97 #[.val (.int p1), .val (.int p2), .val (.long q3), .second, .val (.ref b4), .val (.int (p2 &&& (3 : Int32)))] [(.int (24 : Int32)), (.int p1), (.int (p2 &&& (3 : Int32))), (.ref b4)])) _
    refine XS.iushr X12.here hx rfl (hb hby at_97) rfl ?_
    show Steps p.tables e below (T12.setTop (mkF m 98 #[.val (.int p1), .val (.int p2), .val (.long q3), .second, .val (.ref b4), .val (.int (p2 &&& (3 : Int32)))] [(.int ((p1.toUInt32 >>> ((24 : Int32) &&& 31).toUInt32).toInt32)), (.int (p2 &&& (3 : Int32))), (.ref b4)])) _
    refine XS.i2b X12.here hx rfl (hb hby at_98) rfl ?_
    show Steps p.tables e below (T12.setTop (mkF m 99 #[.val (.int p1), .val (.int p2), .val (.long q3), .second, .val (.ref b4), .val (.int (p2 &&& (3 : Int32)))] [(.int (((p1.toUInt32 >>> ((24 : Int32) &&& 31).toUInt32).toInt32).toInt8.toInt32)), (.int (p2 &&& (3 : Int32))), (.ref b4)])) _
    refine st13 _ ?_
    show Steps p.tables e below (T13.setTop (mkF m 100 #[.val (.int p1), .val (.int p2), .val (.long q3), .second, .val (.ref b4), .val (.int (p2 &&& (3 : Int32)))] [])) _
    refine XS.aload X13.here hx rfl (hb hby at_100) rfl rfl ?_
    show Steps p.tables e below (T13.setTop (mkF m 102 #[.val (.int p1), .val (.int p2), .val (.long q3), .second, .val (.ref b4), .val (.int (p2 &&& (3 : Int32)))] [(.ref b4)])) _
    refine XS.iload X13.here hx rfl (hb hby at_102) rfl ?_
    show Steps p.tables e below (T13.setTop (mkF m 104 #[.val (.int p1), .val (.int p2), .val (.long q3), .second, .val (.ref b4), .val (.int (p2 &&& (3 : Int32)))] [(.int (p2 &&& (3 : Int32))), (.ref b4)])) _
    refine XS.iconst X13.here hx rfl (hb hby at_104) ?_
    show Steps p.tables e below (T13.setTop (mkF m 105 #[.val (.int p1), .val (.int p2), .val (.long q3), .second, .val (.ref b4), .val (.int (p2 &&& (3 : Int32)))] [(.int (1 : Int32)), (.int (p2 &&& (3 : Int32))), (.ref b4)])) _
    refine XS.iadd X13.here hx rfl (hb hby at_105) rfl ?_
    show Steps p.tables e below (T13.setTop (mkF m 106 #[.val (.int p1), .val (.int p2), .val (.long q3), .second, .val (.ref b4), .val (.int (p2 &&& (3 : Int32)))] [(.int ((p2 &&& (3 : Int32)) + (1 : Int32))), (.ref b4)])) _
    refine XS.iloadN X13.here hx rfl (hb hby at_106) rfl ?_
    show Steps p.tables e below (T13.setTop (mkF m 107 #[.val (.int p1), .val (.int p2), .val (.long q3), .second, .val (.ref b4), .val (.int (p2 &&& (3 : Int32)))] [(.int p1), (.int ((p2 &&& (3 : Int32)) + (1 : Int32))), (.ref b4)])) _
    refine XS.bipush X13.here hx rfl (hb hby at_107) ?_
    show Steps p.tables e below (T13.setTop (mkF m 109 #[.val (.int p1), .val (.int p2), .val (.long q3), .second, .val (.ref b4), .val (.int (p2 &&& (3 : Int32)))] [(.int (16 : Int32)), (.int p1), (.int ((p2 &&& (3 : Int32)) + (1 : Int32))), (.ref b4)])) _
    refine XS.iushr X13.here hx rfl (hb hby at_109) rfl ?_
    show Steps p.tables e below (T13.setTop (mkF m 110 #[.val (.int p1), .val (.int p2), .val (.long q3), .second, .val (.ref b4), .val (.int (p2 &&& (3 : Int32)))] [(.int ((p1.toUInt32 >>> ((16 : Int32) &&& 31).toUInt32).toInt32)), (.int ((p2 &&& (3 : Int32)) + (1 : Int32))), (.ref b4)])) _
    refine XS.i2b X13.here hx rfl (hb hby at_110) rfl ?_
    show Steps p.tables e below (T13.setTop (mkF m 111 #[.val (.int p1), .val (.int p2), .val (.long q3), .second, .val (.ref b4), .val (.int (p2 &&& (3 : Int32)))] [(.int (((p1.toUInt32 >>> ((16 : Int32) &&& 31).toUInt32).toInt32).toInt8.toInt32)), (.int ((p2 &&& (3 : Int32)) + (1 : Int32))), (.ref b4)])) _
    refine st14 _ ?_
    show Steps p.tables e below (T14.setTop (mkF m 112 #[.val (.int p1), .val (.int p2), .val (.long q3), .second, .val (.ref b4), .val (.int (p2 &&& (3 : Int32)))] [])) _
    refine XS.aload X14.here hx rfl (hb hby at_112) rfl rfl ?_
    show Steps p.tables e below (T14.setTop (mkF m 114 #[.val (.int p1), .val (.int p2), .val (.long q3), .second, .val (.ref b4), .val (.int (p2 &&& (3 : Int32)))] [(.ref b4)])) _
    refine XS.iload X14.here hx rfl (hb hby at_114) rfl ?_
    show Steps p.tables e below (T14.setTop (mkF m 116 #[.val (.int p1), .val (.int p2), .val (.long q3), .second, .val (.ref b4), .val (.int (p2 &&& (3 : Int32)))] [(.int (p2 &&& (3 : Int32))), (.ref b4)])) _
    refine XS.iconst X14.here hx rfl (hb hby at_116) ?_
    show Steps p.tables e below (T14.setTop (mkF m 117 #[.val (.int p1), .val (.int p2), .val (.long q3), .second, .val (.ref b4), .val (.int (p2 &&& (3 : Int32)))] [(.int (2 : Int32)), (.int (p2 &&& (3 : Int32))), (.ref b4)])) _
    refine XS.iadd X14.here hx rfl (hb hby at_117) rfl ?_
    show Steps p.tables e below (T14.setTop (mkF m 118 #[.val (.int p1), .val (.int p2), .val (.long q3), .second, .val (.ref b4), .val (.int (p2 &&& (3 : Int32)))] [(.int ((p2 &&& (3 : Int32)) + (2 : Int32))), (.ref b4)])) _
    refine XS.iloadN X14.here hx rfl (hb hby at_118) rfl ?_
    show Steps p.tables e below (T14.setTop (mkF m 119 #[.val (.int p1), .val (.int p2), .val (.long q3), .second, .val (.ref b4), .val (.int (p2 &&& (3 : Int32)))] [(.int p1), (.int ((p2 &&& (3 : Int32)) + (2 : Int32))), (.ref b4)])) _
    refine XS.bipush X14.here hx rfl (hb hby at_119) ?_
    show Steps p.tables e below (T14.setTop (mkF m 121 #[.val (.int p1), .val (.int p2), .val (.long q3), .second, .val (.ref b4), .val (.int (p2 &&& (3 : Int32)))] [(.int (8 : Int32)), (.int p1), (.int ((p2 &&& (3 : Int32)) + (2 : Int32))), (.ref b4)])) _
    refine XS.iushr X14.here hx rfl (hb hby at_121) rfl ?_
    show Steps p.tables e below (T14.setTop (mkF m 122 #[.val (.int p1), .val (.int p2), .val (.long q3), .second, .val (.ref b4), .val (.int (p2 &&& (3 : Int32)))] [(.int ((p1.toUInt32 >>> ((8 : Int32) &&& 31).toUInt32).toInt32)), (.int ((p2 &&& (3 : Int32)) + (2 : Int32))), (.ref b4)])) _
    refine XS.i2b X14.here hx rfl (hb hby at_122) rfl ?_
    show Steps p.tables e below (T14.setTop (mkF m 123 #[.val (.int p1), .val (.int p2), .val (.long q3), .second, .val (.ref b4), .val (.int (p2 &&& (3 : Int32)))] [(.int (((p1.toUInt32 >>> ((8 : Int32) &&& 31).toUInt32).toInt32).toInt8.toInt32)), (.int ((p2 &&& (3 : Int32)) + (2 : Int32))), (.ref b4)])) _
    refine st15 _ ?_
    show Steps p.tables e below (T15.setTop (mkF m 124 #[.val (.int p1), .val (.int p2), .val (.long q3), .second, .val (.ref b4), .val (.int (p2 &&& (3 : Int32)))] [])) _
    refine XS.aload X15.here hx rfl (hb hby at_124) rfl rfl ?_
    show Steps p.tables e below (T15.setTop (mkF m 126 #[.val (.int p1), .val (.int p2), .val (.long q3), .second, .val (.ref b4), .val (.int (p2 &&& (3 : Int32)))] [(.ref b4)])) _
    refine XS.iload X15.here hx rfl (hb hby at_126) rfl ?_
    show Steps p.tables e below (T15.setTop (mkF m 128 #[.val (.int p1), .val (.int p2), .val (.long q3), .second, .val (.ref b4), .val (.int (p2 &&& (3 : Int32)))] [(.int (p2 &&& (3 : Int32))), (.ref b4)])) _
    refine XS.iconst X15.here hx rfl (hb hby at_128) ?_
    show Steps p.tables e below (T15.setTop (mkF m 129 #[.val (.int p1), .val (.int p2), .val (.long q3), .second, .val (.ref b4), .val (.int (p2 &&& (3 : Int32)))] [(.int (3 : Int32)), (.int (p2 &&& (3 : Int32))), (.ref b4)])) _
    refine XS.iadd X15.here hx rfl (hb hby at_129) rfl ?_
    show Steps p.tables e below (T15.setTop (mkF m 130 #[.val (.int p1), .val (.int p2), .val (.long q3), .second, .val (.ref b4), .val (.int (p2 &&& (3 : Int32)))] [(.int ((p2 &&& (3 : Int32)) + (3 : Int32))), (.ref b4)])) _
    refine XS.iloadN X15.here hx rfl (hb hby at_130) rfl ?_
    show Steps p.tables e below (T15.setTop (mkF m 131 #[.val (.int p1), .val (.int p2), .val (.long q3), .second, .val (.ref b4), .val (.int (p2 &&& (3 : Int32)))] [(.int p1), (.int ((p2 &&& (3 : Int32)) + (3 : Int32))), (.ref b4)])) _
    refine XS.i2b X15.here hx rfl (hb hby at_131) rfl ?_
    show Steps p.tables e below (T15.setTop (mkF m 132 #[.val (.int p1), .val (.int p2), .val (.long q3), .second, .val (.ref b4), .val (.int (p2 &&& (3 : Int32)))] [(.int (p1.toInt8.toInt32)), (.int ((p2 &&& (3 : Int32)) + (3 : Int32))), (.ref b4)])) _
    refine st16 _ ?_
    show Steps p.tables e below (T16.setTop (mkF m 133 #[.val (.int p1), .val (.int p2), .val (.long q3), .second, .val (.ref b4), .val (.int (p2 &&& (3 : Int32)))] [])) _
    refine XS.aload X16.here hx rfl (hb hby at_133) rfl rfl ?_
    show Steps p.tables e below (T16.setTop (mkF m 135 #[.val (.int p1), .val (.int p2), .val (.long q3), .second, .val (.ref b4), .val (.int (p2 &&& (3 : Int32)))] [(.ref b4)])) _
    refine XS.iload X16.here hx rfl (hb hby at_135) rfl ?_
    show Steps p.tables e below (T16.setTop (mkF m 137 #[.val (.int p1), .val (.int p2), .val (.long q3), .second, .val (.ref b4), .val (.int (p2 &&& (3 : Int32)))] [(.int (p2 &&& (3 : Int32))), (.ref b4)])) _
    refine st17 _ ?_
    show Steps p.tables e below (T17.setTop (mkF m 140 #[.val (.int p1), .val (.int p2), .val (.long q3), .second, .val (.ref b4), .val (.int (p2 &&& (3 : Int32)))] [(.int (own_val (own_sh p1 24) (own_sh p1 16) (own_sh p1 8) p1.toInt8.toInt32))])) _
    refine XS.iloadN X17.here hx rfl (hb hby at_140) rfl ?_
    show Steps p.tables e below (T17.setTop (mkF m 141 #[.val (.int p1), .val (.int p2), .val (.long q3), .second, .val (.ref b4), .val (.int (p2 &&& (3 : Int32)))] [(.int p1), (.int (own_val (own_sh p1 24) (own_sh p1 16) (own_sh p1 8) p1.toInt8.toInt32))])) _
    refine XS.icmpNo X17.here hx rfl (hb hby at_141) rfl (teq (own_join p1 : (own_val (own_sh p1 24) (own_sh p1 16) (own_sh p1 8) p1.toInt8.toInt32) = p1)).2 ?_
    show Steps p.tables e below (T17.setTop (mkF m 144 #[.val (.int p1), .val (.int p2), .val (.long q3), .second, .val (.ref b4), .val (.int (p2 &&& (3 : Int32)))] [])) _
    refine XS.iconst X17.here hx rfl (hb hby at_144) ?_
    show Steps p.tables e below (T17.setTop (mkF m 145 #[.val (.int p1), .val (.int p2), .val (.long q3), .second, .val (.ref b4), .val (.int (p2 &&& (3 : Int32)))] [(.int (1 : Int32))])) _
    refine XS.goto X17.here hx rfl (pc0 := 145) (pc' := 149) rfl (hb hby at_145) (by decide) (by decide) ?_
    show Steps p.tables e below (T17.setTop (mkF m 149 #[.val (.int p1), .val (.int p2), .val (.long q3), .second, .val (.ref b4), .val (.int (p2 &&& (3 : Int32)))] [(.int (1 : Int32))])) _
    exact retN X17 hx (t := .boolean) Bd.returns (by simp) (hb hby at_149) hr
  · show Q0 Z p1 p2 q3 h0 n0 _ T17.heap _
    exact ⟨rfl, N17⟩
set_option maxRecDepth 65536 in
set_option maxHeartbeats 40000000 in
theorem comes_1 {Post : Tables → Env → Array Value → State → Outcome → State → Prop} (hpost : ∀ tb e args s v u, (limb_1_1.after args s (.returned v) u = true ∧ limb_1_2.after args s (.returned v) u = true ∧ True) → FrameEnd s (.returned v) u (Jvm.fieldLocs frame_1_writes args s ++ Jvm.arrayLocs frame_1_arrays args s ++ Jvm.staticLocs frame_1_statics s) 16 128 → Post tb e args s (.returned v) u) :
    ArmFor flags0 classFile x code maxLocals ret World_1 tables_1 room_1 Calls_1 rest_1 Pre_1 Post := by
  intro l hfl _ _ p e ha hc hk s m args below hf hA hF happ hP
  obtain ⟨hcalls, hrest, hpre⟩ := hP
  obtain ⟨-, -, -, hnamed, -, -, -, hat⟩ := (Spec.applies_iff hf).mp happ
  obtain ⟨hg, hn⟩ := and_e (Cond.before_iff.mp (show (Jvm.Cond.and given_1 narrow_1).before args s = true from hpre))
  obtain ⟨g18, g19⟩ := and_e hg
  obtain ⟨g20, g21⟩ := and_e g19
  obtain ⟨g22, g23⟩ := and_e g21
  obtain ⟨w0, w1, w2, rfl⟩ : ∃ w0 w1 w2 : Value, args = #[w0, w1, w2] := by
    have hs : args.size = 3 := by simpa [Cond.value, given_1] using g18
    obtain ⟨L⟩ := args
    match L, hs with
    | [w0, w1, w2], _ => exact ⟨w0, w1, w2, rfl⟩
  have hw := fun d (hd : d ∈ tables_1) => atoms_spec (ws := Jvm.Cond.code x code maxLocals ret :: tables_1) hat d (List.mem_cons_of_mem _ hd)
  have hfit : Fit s := fun {y c} hc i hi => by
    obtain ⟨ha, rfl⟩ := Array.getElem?_eq_some_iff.mp hc
    have q := List.all_eq_true.mp ((Array.all_eq_true_iff_forall_mem.mp hF) _ (Array.getElem_mem ha)) i (List.mem_range.mpr hi)
    simpa [Array.getElem?_eq_getElem hi] using q
  obtain ⟨i0, ei0⟩ := is_v g20
  obtain rfl : w0 = (.int i0) := Option.some.inj ei0
  obtain ⟨i1, ei1⟩ := is_v g22
  obtain rfl : w1 = (.int i1) := Option.some.inj ei1
  obtain ⟨i2, ei2⟩ := isL_v g23
  obtain rfl : w2 = (.long i2) := Option.some.inj ei2
  obtain ⟨n, o, h1, h2, h3, _, L, rfl, ⟨rfl, N⟩, hq⟩ := rm0 l s _ hw tables_1 i0 i1 i2 s.heap s.heap.size (Nat.le_refl _) p e ha hc hk s m _ below hf ((Spec.applies_iff_loose hf).mp happ).1 ⟨rfl, State.Warmed39.refl s, rfl⟩ trivial
  refine ⟨n, _, h1, h2, h3, hpost _ _ _ _ _ _ ⟨Cond.after_iff.mpr rfl, Cond.after_iff.mpr (eq_i res_at (Term.int_eval (1)) rfl), trivial⟩ ⟨hq.1, hq.2.1, (hq.2.2.sift fun y hy => Or.inr (N y hy)).mono (by decide) (by decide)⟩⟩
theorem main_1_1 : Claimed_1_1 := comes_1 fun _ _ _ _ _ _ h hF => ⟨h.1, hF⟩
theorem main_1_2 : Claimed_1_2 := comes_1 fun _ _ _ _ _ _ h hF => ⟨h.2.1, hF⟩
end Jvm.Pilot.@@N@@
namespace Jvm.Pilot.@@N@@
open Jvm Jvm.ClassFile Sem Op Lib Jvm.Free Jvm.Stand Jvm.Pilot.@@N@@.Jvm.D
/-! MADE BY PROGRAM (witnessworld.py) out of the Statement's table words and the real class files: 9 classes; the members and pool entries that the words name. The judged class is class 1, her method 1. -/
namespace start1
open Jvm.ClassFile
def u (s : String) : CpInfo := .utf8 (stringToUtf16 s)
/-- a pool by its gaps: so many unusable entries, then the entry; so many at the end -/
def gap : Nat → List CpInfo → List CpInfo
  | 0, r => r
  | n + 1, r => .unusable :: gap n r
def poolList (es : List (Nat × CpInfo)) (last : Nat) : List CpInfo := es.foldr (fun e r => gap e.1 (e.2 :: r)) (gap last [])
def pool (es : List (Nat × CpInfo)) (last : Nat) : Array CpInfo := ⟨poolList es last⟩
def fileOf (pool : Array CpInfo) (this : Nat) (attrs : Array Attribute := #[]) (ms : Array MethodInfo := #[]) (fl : Nat := 33) (sup : Nat := 0) (ifs : Array Nat := #[]) (fds : Array FieldInfo := #[]) : ClassFile where
  minorVersion := 0
  majorVersion := 65
  constantPool := pool
  accessFlags := fl
  thisClass := this
  superClass := sup
  interfaces := ifs
  fields := fds
  methods := ms
  attributes := attrs
def plain (name : String) (sup : Option ClassId) : Class where
  name := name
  kind := .ordinary
  loader := none
  accessFlags := 33
  super := sup
  interfaces := #[]
  cf := none
  fields := #[]
  methods := #[]
  instanceTypes := #[]
  staticTypes := #[]
  resolved := #[]
  callSites := []
  init := .initialized
  statics := none
  mirror := none

def pool0 : Array CpInfo := pool [(5, u "<init>"), (0, u "()V"), (1, .class_ 10), (1, u "java/lang/Object")] 113

def k0m0 : Method := { name := "<init>", desc := "()V", sig := { parameters := [], returnType := none }, accessFlags := 1, code := none }
/-- java/lang/Object -/
def k0 : Class := { plain "java/lang/Object" none with
  accessFlags := 33
  interfaces := #[]
  cf := some (fileOf pool0 8 #[] #[{ accessFlags := 1, nameIndex := 5, descriptorIndex := 6, attributes := #[] }] 33 0 #[] #[])
  fields := #[]
  methods := #[k0m0]
  instanceTypes := #[]
  staticTypes := #[]
  resolved := Array.replicate 124 none
  statics := none }

def pool1 : Array CpInfo := pool [(2, .class_ 4), (1, u "java/lang/Object"), (0, u "<init>"), (0, u "()V"), (0, .methodref 8 9), (0, .class_ 10), (0, .nameAndType 11 12), (0, u "com/example/transmute/transmute/BigEndian"), (0, u "int32At"), (0, u "([BI)I"), (0, .class_ 14), (0, u "com/example/transmute/transmute/BigEndianInt32AtPinLaw"), (2, u "law"), (0, u "(IIJ)Z")] 5

def k1m0 : Method := { name := "<init>", desc := "()V", sig := { parameters := [], returnType := none }, accessFlags := 2, code := none }
def k1c1 : Code := { maxStack := 5, maxLocals := 6, code := code, exceptionTable := #[], attributes := #[] }
def k1m1 : Method := { name := "law", desc := "(IIJ)Z", sig := { parameters := [.int, .int, .long], returnType := some .boolean }, accessFlags := 9, code := some k1c1 }
/-- com/example/transmute/transmute/BigEndianInt32AtPinLaw -/
def k1 : Class := { plain "com/example/transmute/transmute/BigEndianInt32AtPinLaw" (some 0) with
  accessFlags := 49
  interfaces := #[]
  cf := some (fileOf pool1 13 #[] #[{ accessFlags := 2, nameIndex := 5, descriptorIndex := 6, attributes := #[] }, { accessFlags := 9, nameIndex := 17, descriptorIndex := 18, attributes := #[] }] 49 2 #[] #[])
  fields := #[]
  methods := #[k1m0, k1m1]
  instanceTypes := #[]
  staticTypes := #[]
  resolved := Array.replicate 24 none
  statics := none }

def pool2 : Array CpInfo := pool [(2, .class_ 4), (1, u "java/lang/Object"), (0, u "<init>"), (0, u "()V"), (1, .class_ 10), (1, u "com/example/transmute/transmute/BigEndian"), (0, u "int32At"), (0, u "([BI)I")] 20

def k2m0 : Method := { name := "<init>", desc := "()V", sig := { parameters := [], returnType := none }, accessFlags := 2, code := none }
def k2c1 : Code := { maxStack := 4, maxLocals := 2, code := prog_17_method_4_code, exceptionTable := #[], attributes := #[] }
def k2m1 : Method := { name := "int32At", desc := "([BI)I", sig := { parameters := [(.array .byte), .int], returnType := some .int }, accessFlags := 8, code := some k2c1 }
/-- com/example/transmute/transmute/BigEndian -/
def k2 : Class := { plain "com/example/transmute/transmute/BigEndian" (some 0) with
  accessFlags := 48
  interfaces := #[]
  cf := some (fileOf pool2 8 #[] #[{ accessFlags := 2, nameIndex := 5, descriptorIndex := 6, attributes := #[] }, { accessFlags := 8, nameIndex := 11, descriptorIndex := 12, attributes := #[] }] 48 2 #[] #[])
  fields := #[]
  methods := #[k2m0, k2m1]
  instanceTypes := #[]
  staticTypes := #[]
  resolved := Array.replicate 33 none
  statics := none }

def pool3 : Array CpInfo := pool [(1, u "java/lang/Cloneable"), (0, .class_ 1), (0, u "java/lang/Object"), (0, .class_ 3)] 3

/-- java/lang/Cloneable -/
def k3 : Class := { plain "java/lang/Cloneable" (some 0) with
  accessFlags := 1537
  interfaces := #[]
  cf := some (fileOf pool3 2 #[] #[] 1537 4 #[] #[])
  fields := #[]
  methods := #[]
  instanceTypes := #[]
  staticTypes := #[]
  resolved := Array.replicate 8 none
  statics := none }

def pool4 : Array CpInfo := pool [(1, u "java/io/Serializable"), (0, .class_ 1), (0, u "java/lang/Object"), (0, .class_ 3)] 3

/-- java/io/Serializable -/
def k4 : Class := { plain "java/io/Serializable" (some 0) with
  accessFlags := 1537
  interfaces := #[]
  cf := some (fileOf pool4 2 #[] #[] 1537 4 #[] #[])
  fields := #[]
  methods := #[]
  instanceTypes := #[]
  staticTypes := #[]
  resolved := Array.replicate 8 none
  statics := none }

/-- the primitive byte -/
def k5 : Class := { plain "byte" none with kind := .primitive 'B', accessFlags := 0x411 }
/-- [B -/
def k6 : Class := { plain "[B" (some 0) with kind := .array 5 .byte, interfaces := #[3, 4], accessFlags := 1041 }

/-- the primitive int -/
def k7 : Class := { plain "int" none with kind := .primitive 'I', accessFlags := 0x411 }
/-- [I -/
def k8 : Class := { plain "[I" (some 0) with kind := .array 7 .int, interfaces := #[3, 4], accessFlags := 1041 }

def heap : Heap := #[]
def classes : Array Class := #[k0, k1, k2, k3, k4, k5, k6, k7, k8]
def interned : List (Array UInt16 × Addr) := []
def slotsUsed : Nat := 0
def theMethod : MethodId := ⟨1, 1⟩
def args0 : Array Value := #[.int 5, .int 2, .long 77]
def aboutOver (below : List Frame) : State where
  vm := { classes := classes, interned := interned.toArray }
  heap := heap
  slotsUsed := slotsUsed
  threads := #[{ frames := .invoking theMethod args0 :: below }]
def below0 : List Frame := [.native { method := ⟨0, 0⟩, args := #[] }]
def about1 : State := aboutOver below0
def p0 : Program := .bare "" "" ""
def e0 : Env := launch0.env 0 0 0
theorem w_frames : about1.frames = Frame.invoking theMethod args0 :: below0 := rfl
set_option maxRecDepth 65536 in
theorem w_args : argsFit about1.vm theMethod args0 = true := by decide +kernel
set_option maxRecDepth 65536 in
theorem w_heap : heapFits about1 = true := by decide +kernel
set_option maxRecDepth 65536 in
theorem w_runnable : about1.curStatus? = some .runnable := by decide +kernel
set_option maxRecDepth 65536 in
theorem w_alone : about1.alone = true := by decide +kernel
set_option maxRecDepth 65536 in
theorem w_named : about1.methodNamed? x = some theMethod := by decide +kernel
set_option maxRecDepth 65536 in
theorem w_hears : about1.hears theMethod below0 = true := by decide +kernel
set_option maxRecDepth 65536 in
theorem w_ripe : about1.ripe theMethod args0 below0 = true := by decide +kernel
theorem w_running : about1.status = .running := rfl
set_option maxRecDepth 65536 in
theorem w_room : about1.hasRoom e0.platform room_1 = true :=
  launch0.hasRoom_least _ room_1 (by decide +kernel) (by decide +kernel) (by decide +kernel) (by decide +kernel) (by decide +kernel) (by decide +kernel)
theorem allAtoms_all (ts : List Jvm.Cond) (a : Array Jvm.Value) (st : Jvm.State) : (allAtoms ts).before a st = ts.all (fun c => c.before a st) := by
  induction ts with
  | nil => rfl
  | cons c t ih =>
    show (Jvm.Cond.and c (allAtoms t)).before a st = _
    rw [Jvm.Cond.before_and, ih, List.all_cons]
def words1 : List Jvm.Cond := Jvm.Cond.code x code maxLocals ret :: tables_1
/-- a 'code' word, met by the world's own term for the bytes: nothing is compared byte by byte -/
theorem code_word {y : MethodName} {bytes : ByteArray} {mx : Nat} {rt : Option FieldType} {a : Array Value} {s : State} {m : MethodId} {meth : Method} {c : Code} (h1 : s.methodNamed? y = some m) (h2 : s.vm.method? m = some meth) (h3 : meth.code = some c) (h4 : c.code = bytes)
    (h5 : (c.maxLocals == mx && c.exceptionTable.isEmpty && decide (c.maxStack ≤ mostOperands) && decide (meth.sig.returnType = rt) && !meth.locks && decide (parseMethodDescriptor y.desc = some meth.sig)) = true) : (Jvm.Cond.code y bytes mx rt).before a s = true := by
  simp only [Bool.and_eq_true, beq_iff_eq, Bool.not_eq_true', decide_eq_true_eq] at h5
  obtain ⟨⟨⟨⟨⟨g1, g2⟩, g3⟩, g4⟩, g5⟩, g6⟩ := h5
  simp [Cond.before, Cond.holds, Cond.value, h1, h2, h3, h4, g1, g2, g3, g4, g5, g6]
def isCode : Jvm.Cond → Bool
  | .code _ _ _ _ => true
  | _ => false
theorem all_split {L : List Jvm.Cond} {P : Jvm.Cond → Bool} (h1 : L.all (fun c => isCode c || P c) = true) (h2 : ∀ c ∈ L.filter isCode, P c = true) : L.all P = true := by
  refine List.all_eq_true.mpr fun c hc => ?_
  have h := List.all_eq_true.mp h1 c hc
  rcases Bool.eq_false_or_eq_true (isCode c) with hi | hi
  · exact h2 c (List.mem_filter.mpr ⟨hc, hi⟩)
  · simpa [hi] using h
set_option maxRecDepth 65536 in
theorem w_c0 : (Jvm.Cond.code x code maxLocals ret).before args0 about1 = true := code_word (m := ⟨1, 1⟩) (meth := k1m1) (c := k1c1) (by decide +kernel) rfl rfl rfl (by decide +kernel)
set_option maxRecDepth 65536 in
theorem w_c1 : (Jvm.Cond.code ({ cls := "com/example/transmute/transmute/BigEndian", name := "int32At", desc := "([BI)I" } : Jvm.MethodName) prog_17_method_4_code (2 : Nat) (Option.some Jvm.ClassFile.FieldType.int)).before args0 about1 = true := code_word (m := ⟨2, 1⟩) (meth := k2m1) (c := k2c1) (by decide +kernel) rfl rfl rfl (by decide +kernel)
def codes1 : List Jvm.Cond := [Jvm.Cond.code x code maxLocals ret, Jvm.Cond.code ({ cls := "com/example/transmute/transmute/BigEndian", name := "int32At", desc := "([BI)I" } : Jvm.MethodName) prog_17_method_4_code (2 : Nat) (Option.some Jvm.ClassFile.FieldType.int)]
set_option maxRecDepth 65536 in
theorem codes_eq : words1.filter isCode = codes1 := rfl
theorem w_codes : ∀ c ∈ words1.filter isCode, c.before args0 about1 = true := by
  rw [codes_eq]
  intro c hc
  simp only [codes1, List.mem_cons, List.not_mem_nil, or_false] at hc
  rcases hc with rfl | rfl
  · exact w_c0
  · exact w_c1
set_option maxRecDepth 65536 in
theorem w_t1 : words1.all (fun c => isCode c || c.before args0 about1) = true := by decide +kernel
theorem w_tables : (allAtoms (Jvm.Cond.code x code maxLocals ret :: tables_1)).before args0 about1 = true := by
  rw [allAtoms_all]
  show words1.all (fun c => c.before args0 about1) = true
  refine all_split ?_ w_codes
  rw [w_t1]
set_option maxRecDepth 65536 in
theorem w_case : (Jvm.Cond.and given_1 narrow_1).before args0 about1 = true := by decide +kernel
theorem w_applies : (headSpec (Jvm.Cond.code x code maxLocals ret :: tables_1) room_1).applies x e0.platform about1 = true :=
  (Spec.applies_iff w_frames).mpr ⟨w_running, w_runnable, w_alone, w_named, w_hears, w_ripe, w_room, w_tables⟩
theorem atStart : AtStart classFile x code maxLocals ret World_1 tables_1 room_1 Calls_1 rest_1 Pre_1 launch0 p0 e0 about1 theMethod args0 below0 :=
  ⟨lists_1, trivial, launch0.admits_env _ _ _, launch0.least_env, fairChoices_fair.cas, fairChoices_fair.clock, w_frames, w_args, w_heap, w_applies, trivial, trivial, w_case⟩
end start1
theorem witness_1 : WitnessClaimed_1 := ⟨start1.p0, start1.e0, start1.about1, start1.theMethod, start1.args0, start1.below0, start1.atStart⟩
end Jvm.Pilot.@@N@@
