import JvmDerived
import JvmDerived.Pilot.@@N@@Statement
import JvmDerived.Pilot.@@N@@Code
set_option linter.unusedVariables false
set_option linter.unusedSimpArgs false
namespace Jvm.RoadKit
open Sem ClassFile Op Lib Jvm.Stand Jvm.Free Jvm.LawKit
section New
variable {p : Program} {l : Launch} {e : Env} {R : Room} {s : State} {m : MethodId} {args : Array Value} {below : List Frame} {meth : Method} {c : Code} {T : State} {locs : List Loc} {cells slots : Nat}
theorem retI (X : Stand p l e R s m args below meth c T locs cells slots) (hx : p.tables.exec = Jvm.exec) {pc : Nat} {Ls : Array Slot} {z : Int32} {rest : List Value} (hret : meth.sig.returnType = some .int) (hd : decode c.code pc = .ok (.ireturn, 1)) {fs : List Frame}
    (hl : ∀ (f : JFrame) (acts : List Action), f.method = m → f.locked = none → f.entered = [] → (doReturn e (T.setTop f) acts (some (.int z))).1 = T.setFrames fs) : Steps p.tables e below (T.setTop (mkF m pc Ls (.int z :: rest))) (T.setFrames fs) := by
  have hm' : T.vm.method? m = some meth := X.method'
  have hn : narrow .int (.int z) = .int z := rfl
  show Steps p.tables e below (T.setTop { method := m, pc := pc, locals := Ls, stack := _ :: rest, locked := none }) _
  jvm_step X.here [X.here.top, hx, hd, hm', hret, hn]
  first | (intro acts; rw [hl _ acts rfl rfl rfl]) | rw [hl _ _ rfl rfl rfl]
  exact Steps.refl _
end New
end Jvm.RoadKit
namespace Jvm.Pilot.@@N@@
open Jvm Jvm.ClassFile Sem Op Lib Jvm.Free Jvm.Stand Jvm.LawKit Jvm.RoadKit Bundle Jvm.Pilot.@@N@@.Jvm.D
theorem own_inc (k : Nat) : Int32.ofNat k + 1 = Int32.ofNat (k + 1) := by
  rw [Int32.ofNat_add]; rfl
theorem own_cl (k : Nat) (hk : k < 6) : (Int32.ofNat k).toNatClampNeg = k := by
  revert k; decide
theorem own_pl (k : Nat) (hk : k < 6) : ¬ Int32.ofNat k < 0 ∧ Int32.ofNat k < 6 := by
  revert k; decide
theorem own_lt (a b : Nat) (ha : a < 16) (hb : b < 16) : Int32.ofNat a < Int32.ofNat b ↔ a < b := by
  rw [Int32.lt_iff_toInt_lt, Int32.toInt_ofNat_of_lt (by omega), Int32.toInt_ofNat_of_lt (by omega)]; omega
/-- the first place from i on that holds 0, k places looked at -/
def own_find (w : Nat → Int32) (O : Nat) : Nat → Nat → Int32
  | 0, _ => (-1 : Int32)
  | k + 1, i => if w (O + i) = 0 then Int32.ofNat i else own_find w O k (i + 1)
def own_zv (w : Nat → Int32) (O Fm Ln P : Nat) : Int32 := if P < Fm then 0 else if P < Ln then (if w (O + P) = 0 then 1 else 0) else 0
def own_up (z k w : Int32) : Int32 := if z = 0 then w else k
def own_G (w : Nat → Int32) (O Fm Ln : Nat) : Nat → Nat → Int32
  | 0, _ => (-1 : Int32)
  | k + 1, j => own_up (own_zv w O Fm Ln j) (Int32.ofNat j) (own_G w O Fm Ln k (j + 1))
theorem own_up0 (k w : Int32) : own_up 0 k w = w := if_pos rfl
theorem own_up1 (k w : Int32) : own_up 1 k w = k := if_neg (by decide)
theorem own_G1 (w : Nat → Int32) (O Fm Ln : Nat) : ∀ k j, Fm ≤ j → Ln ≤ j + k → own_G w O Fm Ln k j = own_find w O (Ln - j) j
  | 0, j, _, h => by rw [show Ln - j = 0 by omega]; rfl
  | k + 1, j, hF, h => by
    rw [own_G, own_G1 w O Fm Ln k (j + 1) (by omega) (by omega)]
    unfold own_zv
    rw [if_neg (show ¬ j < Fm by omega)]
    by_cases c : j < Ln
    · rw [if_pos c, show Ln - j = (Ln - (j + 1)) + 1 by omega, own_find]
      by_cases z : w (O + j) = 0
      · rw [if_pos z, if_pos z, own_up1]
      · rw [if_neg z, if_neg z, own_up0]
    · rw [if_neg c, own_up0, show Ln - j = 0 by omega, show Ln - (j + 1) = 0 by omega]; rfl
theorem own_G2 (w : Nat → Int32) (O Fm Ln : Nat) : ∀ k j, j ≤ Fm → Ln ≤ j + k → own_G w O Fm Ln k j = own_find w O (Ln - Fm) Fm
  | 0, j, hF, h => by rw [show Ln - Fm = 0 by omega]; rfl
  | k + 1, j, hF, h => by
    by_cases c : j < Fm
    · rw [own_G, own_G2 w O Fm Ln k (j + 1) (by omega) (by omega)]
      unfold own_zv
      rw [if_pos c, own_up0]
    · obtain rfl : j = Fm := by omega
      exact own_G1 w O j Ln (k + 1) j (Nat.le_refl _) h
theorem own_mask (x : Int32) : x &&& (2147483647 : Int32) = Int32.ofNat (x.toBitVec.toNat % 2147483648) := by
  apply Int32.toBitVec_inj.mp
  apply BitVec.eq_of_toNat_eq
  simp
  rw [show (2147483647 : Nat) = 2 ^ 31 - 1 from rfl, Nat.and_two_pow_sub_one_eq_mod]
  omega
theorem own_mod (x : Int32) (k : Nat) (k0 : 0 < k) (hk : k < 16) : ∃ r, r < k ∧ (x &&& (2147483647 : Int32)) % Int32.ofNat k = Int32.ofNat r := by
  refine ⟨x.toBitVec.toNat % 2147483648 % k, Nat.mod_lt _ k0, ?_⟩
  rw [own_mask, ← Int32.ofNat_mod (a := x.toBitVec.toNat % 2147483648) (b := k) (by omega) (by omega)]
theorem own_seven (O : Nat) (hO : O < 7) : (7 : Int32) - Int32.ofNat O = Int32.ofNat (7 - O) := by
  rw [show (7 : Int32) = Int32.ofNat 7 from rfl, ← Int32.ofNat_sub _ _ (by omega)]
theorem own_nz (k : Nat) (k0 : 0 < k) (hk : k < 16) : ¬ Int32.ofNat k = (0 : Int32) := fun h => by
  have := congrArg Int32.toInt h
  rw [Int32.toInt_ofNat_of_lt (by omega)] at this
  have e : (0 : Int32).toInt = 0 := rfl
  omega
def own_wv (vs : List Value) (k : Nat) : Int32 := match vs.getD k (.int (0 : Int32)) with | .int x => x | _ => 0
theorem own_wv_at (vs : List Value) (k : Nat) (h : fits .byte (vs.getD k (.int (0 : Int32))) = true) : vs.getD k (.int (0 : Int32)) = .int (own_wv vs k) := by
  unfold own_wv
  generalize vs.getD k (.int (0 : Int32)) = v at h ⊢
  cases v <;> simp [fits] at h ⊢
theorem d1_0 : decode method_3_code 0 = .ok (.iload_n 2, 1) := by decide +kernel
theorem d1_1 : decode method_3_code 1 = .ok (.iload_n 3, 1) := by decide +kernel
theorem d1_2 : decode method_3_code 2 = .ok (.iushr, 1) := by decide +kernel
theorem d1_3 : decode method_3_code 3 = .ok (.iconst 1, 1) := by decide +kernel
theorem d1_4 : decode method_3_code 4 = .ok (.iand, 1) := by decide +kernel
theorem d1_5 : decode method_3_code 5 = .ok (.ifCond .eq 7, 3) := by decide +kernel
theorem d1_8 : decode method_3_code 8 = .ok (.iconst 0, 1) := by decide +kernel
theorem d1_9 : decode method_3_code 9 = .ok (.goto 11, 3) := by decide +kernel
theorem d1_20 : decode method_3_code 20 = .ok (.ireturn, 1) := by decide +kernel
theorem pn_1 : plainName "com/example/transmute/transmute/BinaryFormZeroByteAtPinLaw" = true := by first | (simp [plainName, overriddenIn]; done) | decide +kernel
theorem ef_1 (m : MethodId) (x0 : Int64) (x1 : Int32) (x2 : Int32) : entryFrame m #[(.long x0), (.int x1), (.int x2)] 4 = mkF m 0 #[.val (.long x0), .second, .val (.int x1), .val (.int x2)] [] := by first | (simp [entryFrame, mkF, argsToLocals, Value.category]; done) | rfl
theorem d1_12 : decode method_3_code 12 = .ok (.lload_n 0, 1) := by decide +kernel
theorem d1_13 : decode method_3_code 13 = .ok (.bipush 8, 2) := by decide +kernel
theorem d1_15 : decode method_3_code 15 = .ok (.iload_n 3, 1) := by decide +kernel
theorem d1_16 : decode method_3_code 16 = .ok (.imul, 1) := by decide +kernel
theorem d1_17 : decode method_3_code 17 = .ok (.lushr, 1) := by decide +kernel
theorem d1_18 : decode method_3_code 18 = .ok (.l2i, 1) := by decide +kernel
theorem d1_19 : decode method_3_code 19 = .ok (.i2b, 1) := by decide +kernel
def own_pick (q1 : Int64) (p2 p3 : Int32) : Int32 := if (((p2.toUInt32 >>> (p3 &&& 31).toUInt32).toInt32) &&& (1 : Int32)) = (0 : Int32) then nar .byte ((((q1.toUInt64 >>> (((8 : Int32) * p3) &&& 0x3f).toInt64.toUInt64).toInt64).toInt32).toInt8.toInt32) else 0
def Q1 (Z : State) (q1 : Int64) (p2 : Int32) (p3 : Int32) (h0 : Heap) (n0 : Nat) (v : Option Value) (h : Heap) (L : List Loc) : Prop := v = some (.int (own_pick q1 p2 p3)) ∧ Fr n0 L ∧ h = h0
set_option maxRecDepth 65536 in
set_option maxHeartbeats 40000000 in
theorem rm1_f (l : Launch) (Z : State) (a0 : Array Value) (hw : ∀ d ∈ tables_1, d.before a0 Z = true) (ws : List Jvm.Cond) (q1 : Int64) (p2 : Int32) (p3 : Int32) (h0 : Heap) (n0 : Nat) (Z0 : n0 ≤ h0.size) (hc5 : ¬ ((((p2.toUInt32 >>> (p3 &&& 31).toUInt32).toInt32) &&& (1 : Int32)) = (0 : Int32))) :
    MetFree l (⟨"com/example/transmute/transmute/BinaryFormZeroByteAtPinLaw", "pick", "(JII)B"⟩ : MethodName) (head1 (Jvm.Cond.code (⟨"com/example/transmute/transmute/BinaryFormZeroByteAtPinLaw", "pick", "(JII)B"⟩ : MethodName) method_3_code 4 (some .byte) :: ws) ({ frames := 0, cells := 0, slots := 0, locals := 0 } : Room)) (fun a U => a = #[(.long q1), (.int p2), (.int p3)] ∧ Z.Warmed39 U.vm ∧ U.heap = h0) (fun _ _ _ _ _ => True) (fun _ U o U' => ∃ v L, o = .returned v ∧ Q1 Z q1 p2 p3 h0 n0 v U'.heap L ∧ FrameEnd U o U' L ({ frames := 0, cells := 0, slots := 0, locals := 0 } : Room).cells ({ frames := 0, cells := 0, slots := 0, locals := 0 } : Room).slots) := by
  refine MetFree.of_bodySF (plainFor_of_name pn_1) hisR ?_
  intro p e s m args below meth c s₁ Bd hml0 hP hK
  obtain ⟨rfl, hZ, hh⟩ := hP
  have hx := Bd.exec
  have hby := Bd.bytes
  have hml : c.maxLocals = 4 := hml0
  have hown : s.vm.findClass "com/example/transmute/transmute/BinaryFormZeroByteAtPinLaw" = some m.cls := findClass_of_methodNamed Bd.named
  have hnm := (name_of_methodNamed Bd.named Bd.method).1
  have X0 : Stand p l e ({ frames := 0, cells := 0, slots := 0, locals := 0 } : Room) s m #[(.long q1), (.int p2), (.int p3)] below meth c s₁ [] 0 0 := Stand.of_body Bd
  have e0 : s₁.heap = h0 := by rw [← hh, Bd.state]; rfl
  have N0 := Fr.nil n0
  have pre0 : ∀ t, Steps p.tables e below (s₁.setTop (mkF m 0 #[.val (.long q1), .second, .val (.int p2), .val (.int p3)] [])) t → Steps p.tables e below (s₁.setTop (entryFrame m #[(.long q1), (.int p2), (.int p3)] 4)) t := fun t k => castTop (ef_1 m q1 p2 p3) k

  obtain ⟨fs, hr, hrun, hended, hW, hsame⟩ := X0.leave (v := some (.int (0 : Int32))) (fun h => by rw [Bd.returns] at h; cases h)
  refine ⟨_, _, pre0 _ ?_, hrun, hended, _, _, rfl, ?_, ⟨_, rfl⟩, hW, hsame.mono (by decide) (by decide)⟩
  · show Steps p.tables e below (s₁.setTop (mkF m 0 #[.val (.long q1), .second, .val (.int p2), .val (.int p3)] [])) _
    refine XS.iloadN X0.here hx rfl (hb hby d1_0) rfl ?_
    show Steps p.tables e below (s₁.setTop (mkF m 1 #[.val (.long q1), .second, .val (.int p2), .val (.int p3)] [(.int p2)])) _
    refine XS.iloadN X0.here hx rfl (hb hby d1_1) rfl ?_
    show Steps p.tables e below (s₁.setTop (mkF m 2 #[.val (.long q1), .second, .val (.int p2), .val (.int p3)] [(.int p3), (.int p2)])) _
    refine XS.iushr X0.here hx rfl (hb hby d1_2) rfl ?_
    show Steps p.tables e below (s₁.setTop (mkF m 3 #[.val (.long q1), .second, .val (.int p2), .val (.int p3)] [(.int ((p2.toUInt32 >>> (p3 &&& 31).toUInt32).toInt32))])) _
    refine XS.iconst X0.here hx rfl (hb hby d1_3) ?_
    show Steps p.tables e below (s₁.setTop (mkF m 4 #[.val (.long q1), .second, .val (.int p2), .val (.int p3)] [(.int (1 : Int32)), (.int ((p2.toUInt32 >>> (p3 &&& 31).toUInt32).toInt32))])) _
    refine XS.iand X0.here hx rfl (hb hby d1_4) rfl ?_
    show Steps p.tables e below (s₁.setTop (mkF m 5 #[.val (.long q1), .second, .val (.int p2), .val (.int p3)] [(.int (((p2.toUInt32 >>> (p3 &&& 31).toUInt32).toInt32) &&& (1 : Int32)))])) _
    refine XS.ifNo X0.here hx rfl (hb hby d1_5) rfl ((if0 _ _).trans (feq hc5).1) ?_
    show Steps p.tables e below (s₁.setTop (mkF m 8 #[.val (.long q1), .second, .val (.int p2), .val (.int p3)] [])) _
    refine XS.iconst X0.here hx rfl (hb hby d1_8) ?_
    show Steps p.tables e below (s₁.setTop (mkF m 9 #[.val (.long q1), .second, .val (.int p2), .val (.int p3)] [(.int (0 : Int32))])) _
    refine XS.goto X0.here hx rfl (pc0 := 9) (pc' := 20) rfl (hb hby d1_9) (by decide) (by decide) ?_
    show Steps p.tables e below (s₁.setTop (mkF m 20 #[.val (.long q1), .second, .val (.int p2), .val (.int p3)] [(.int (0 : Int32))])) _
    exact retN X0 hx (t := .byte) Bd.returns (by simp) (hb hby d1_20) hr
  · show Q1 Z q1 p2 p3 h0 n0 _ s₁.heap _
    rw [e0]
    exact ⟨congrArg (fun z => some (Value.int z)) (if_neg hc5).symm, N0, rfl⟩
set_option maxRecDepth 65536 in
set_option maxHeartbeats 40000000 in
theorem rm1_t (l : Launch) (Z : State) (a0 : Array Value) (hw : ∀ d ∈ tables_1, d.before a0 Z = true) (ws : List Jvm.Cond) (q1 : Int64) (p2 : Int32) (p3 : Int32) (h0 : Heap) (n0 : Nat) (Z0 : n0 ≤ h0.size) (hc5 : (((p2.toUInt32 >>> (p3 &&& 31).toUInt32).toInt32) &&& (1 : Int32)) = (0 : Int32)) :
    MetFree l (⟨"com/example/transmute/transmute/BinaryFormZeroByteAtPinLaw", "pick", "(JII)B"⟩ : MethodName) (head1 (Jvm.Cond.code (⟨"com/example/transmute/transmute/BinaryFormZeroByteAtPinLaw", "pick", "(JII)B"⟩ : MethodName) method_3_code 4 (some .byte) :: ws) ({ frames := 0, cells := 0, slots := 0, locals := 0 } : Room)) (fun a U => a = #[(.long q1), (.int p2), (.int p3)] ∧ Z.Warmed39 U.vm ∧ U.heap = h0) (fun _ _ _ _ _ => True) (fun _ U o U' => ∃ v L, o = .returned v ∧ Q1 Z q1 p2 p3 h0 n0 v U'.heap L ∧ FrameEnd U o U' L ({ frames := 0, cells := 0, slots := 0, locals := 0 } : Room).cells ({ frames := 0, cells := 0, slots := 0, locals := 0 } : Room).slots) := by
  refine MetFree.of_bodySF (plainFor_of_name pn_1) hisR ?_
  intro p e s m args below meth c s₁ Bd hml0 hP hK
  obtain ⟨rfl, hZ, hh⟩ := hP
  have hx := Bd.exec
  have hby := Bd.bytes
  have hml : c.maxLocals = 4 := hml0
  have hown : s.vm.findClass "com/example/transmute/transmute/BinaryFormZeroByteAtPinLaw" = some m.cls := findClass_of_methodNamed Bd.named
  have hnm := (name_of_methodNamed Bd.named Bd.method).1
  have X0 : Stand p l e ({ frames := 0, cells := 0, slots := 0, locals := 0 } : Room) s m #[(.long q1), (.int p2), (.int p3)] below meth c s₁ [] 0 0 := Stand.of_body Bd
  have e0 : s₁.heap = h0 := by rw [← hh, Bd.state]; rfl
  have N0 := Fr.nil n0
  have pre0 : ∀ t, Steps p.tables e below (s₁.setTop (mkF m 0 #[.val (.long q1), .second, .val (.int p2), .val (.int p3)] [])) t → Steps p.tables e below (s₁.setTop (entryFrame m #[(.long q1), (.int p2), (.int p3)] 4)) t := fun t k => castTop (ef_1 m q1 p2 p3) k

  obtain ⟨fs, hr, hrun, hended, hW, hsame⟩ := X0.leave (v := some (.int (nar .byte ((((q1.toUInt64 >>> (((8 : Int32) * p3) &&& 0x3f).toInt64.toUInt64).toInt64).toInt32).toInt8.toInt32)))) (fun h => by rw [Bd.returns] at h; cases h)
  refine ⟨_, _, pre0 _ ?_, hrun, hended, _, _, rfl, ?_, ⟨_, rfl⟩, hW, hsame.mono (by decide) (by decide)⟩
  · show Steps p.tables e below (s₁.setTop (mkF m 0 #[.val (.long q1), .second, .val (.int p2), .val (.int p3)] [])) _
    refine XS.iloadN X0.here hx rfl (hb hby d1_0) rfl ?_
    show Steps p.tables e below (s₁.setTop (mkF m 1 #[.val (.long q1), .second, .val (.int p2), .val (.int p3)] [(.int p2)])) _
    refine XS.iloadN X0.here hx rfl (hb hby d1_1) rfl ?_
    show Steps p.tables e below (s₁.setTop (mkF m 2 #[.val (.long q1), .second, .val (.int p2), .val (.int p3)] [(.int p3), (.int p2)])) _
    refine XS.iushr X0.here hx rfl (hb hby d1_2) rfl ?_
    show Steps p.tables e below (s₁.setTop (mkF m 3 #[.val (.long q1), .second, .val (.int p2), .val (.int p3)] [(.int ((p2.toUInt32 >>> (p3 &&& 31).toUInt32).toInt32))])) _
    refine XS.iconst X0.here hx rfl (hb hby d1_3) ?_
    show Steps p.tables e below (s₁.setTop (mkF m 4 #[.val (.long q1), .second, .val (.int p2), .val (.int p3)] [(.int (1 : Int32)), (.int ((p2.toUInt32 >>> (p3 &&& 31).toUInt32).toInt32))])) _
    refine XS.iand X0.here hx rfl (hb hby d1_4) rfl ?_
    show Steps p.tables e below (s₁.setTop (mkF m 5 #[.val (.long q1), .second, .val (.int p2), .val (.int p3)] [(.int (((p2.toUInt32 >>> (p3 &&& 31).toUInt32).toInt32) &&& (1 : Int32)))])) _
    refine XS.ifYes X0.here hx rfl (pc0 := 5) (pc' := 12) rfl (hb hby d1_5) rfl ((if0 _ _).trans (teq hc5).1) (by decide) (by decide) ?_
    show Steps p.tables e below (s₁.setTop (mkF m 12 #[.val (.long q1), .second, .val (.int p2), .val (.int p3)] [])) _
    refine XS.lloadN X0.here hx rfl (hb hby d1_12) rfl ?_
    show Steps p.tables e below (s₁.setTop (mkF m 13 #[.val (.long q1), .second, .val (.int p2), .val (.int p3)] [(.long q1)])) _
    refine XS.bipush X0.here hx rfl (hb hby d1_13) ?_
    show Steps p.tables e below (s₁.setTop (mkF m 15 #[.val (.long q1), .second, .val (.int p2), .val (.int p3)] [(.int (8 : Int32)), (.long q1)])) _
    refine XS.iloadN X0.here hx rfl (hb hby d1_15) rfl ?_
    show Steps p.tables e below (s₁.setTop (mkF m 16 #[.val (.long q1), .second, .val (.int p2), .val (.int p3)] [(.int p3), (.int (8 : Int32)), (.long q1)])) _
    refine XS.imul X0.here hx rfl (hb hby d1_16) rfl ?_
    show Steps p.tables e below (s₁.setTop (mkF m 17 #[.val (.long q1), .second, .val (.int p2), .val (.int p3)] [(.int ((8 : Int32) * p3)), (.long q1)])) _
    refine XS.lushr X0.here hx rfl (hb hby d1_17) rfl ?_
    show Steps p.tables e below (s₁.setTop (mkF m 18 #[.val (.long q1), .second, .val (.int p2), .val (.int p3)] [(.long ((q1.toUInt64 >>> (((8 : Int32) * p3) &&& 0x3f).toInt64.toUInt64).toInt64))])) _
    refine XS.l2i X0.here hx rfl (hb hby d1_18) rfl ?_
    show Steps p.tables e below (s₁.setTop (mkF m 19 #[.val (.long q1), .second, .val (.int p2), .val (.int p3)] [(.int (((q1.toUInt64 >>> (((8 : Int32) * p3) &&& 0x3f).toInt64.toUInt64).toInt64).toInt32))])) _
    refine XS.i2b X0.here hx rfl (hb hby d1_19) rfl ?_
    show Steps p.tables e below (s₁.setTop (mkF m 20 #[.val (.long q1), .second, .val (.int p2), .val (.int p3)] [(.int ((((q1.toUInt64 >>> (((8 : Int32) * p3) &&& 0x3f).toInt64.toUInt64).toInt64).toInt32).toInt8.toInt32))])) _
    exact retN X0 hx (t := .byte) Bd.returns (by simp) (hb hby d1_20) hr
  · show Q1 Z q1 p2 p3 h0 n0 _ s₁.heap _
    rw [e0]
    exact ⟨congrArg (fun z => some (Value.int z)) (if_pos hc5).symm, N0, rfl⟩
set_option maxRecDepth 65536 in
theorem rm1 (l : Launch) (Z : State) (a0 : Array Value) (hw : ∀ d ∈ tables_1, d.before a0 Z = true) (ws : List Jvm.Cond) (q1 : Int64) (p2 : Int32) (p3 : Int32) (h0 : Heap) (n0 : Nat) (Z0 : n0 ≤ h0.size) :
    MetFree l (⟨"com/example/transmute/transmute/BinaryFormZeroByteAtPinLaw", "pick", "(JII)B"⟩ : MethodName) (head1 (Jvm.Cond.code (⟨"com/example/transmute/transmute/BinaryFormZeroByteAtPinLaw", "pick", "(JII)B"⟩ : MethodName) method_3_code 4 (some .byte) :: ws) ({ frames := 0, cells := 0, slots := 0, locals := 0 } : Room)) (fun a U => a = #[(.long q1), (.int p2), (.int p3)] ∧ Z.Warmed39 U.vm ∧ U.heap = h0) (fun _ _ _ _ _ => True) (fun _ U o U' => ∃ v L, o = .returned v ∧ Q1 Z q1 p2 p3 h0 n0 v U'.heap L ∧ FrameEnd U o U' L ({ frames := 0, cells := 0, slots := 0, locals := 0 } : Room).cells ({ frames := 0, cells := 0, slots := 0, locals := 0 } : Room).slots) := by
  by_cases h : (((p2.toUInt32 >>> (p3 &&& 31).toUInt32).toInt32) &&& (1 : Int32)) = (0 : Int32)
  · exact rm1_t l Z a0 hw ws q1 p2 p3 h0 n0 Z0 h
  · exact rm1_f l Z a0 hw ws q1 p2 p3 h0 n0 Z0 h
theorem d2_3 : decode prog_23_method_4_code 3 = .ok (.iload 4, 2) := by decide +kernel
theorem d2_5 : decode prog_23_method_4_code 5 = .ok (.iload_n 3, 1) := by decide +kernel
theorem d2_6 : decode prog_23_method_4_code 6 = .ok (.if_icmp .ge 18, 3) := by decide +kernel
theorem d2_9 : decode prog_23_method_4_code 9 = .ok (.aload_n 0, 1) := by decide +kernel
theorem d2_10 : decode prog_23_method_4_code 10 = .ok (.iload_n 1, 1) := by decide +kernel
theorem d2_11 : decode prog_23_method_4_code 11 = .ok (.iload 4, 2) := by decide +kernel
theorem d2_13 : decode prog_23_method_4_code 13 = .ok (.iadd, 1) := by decide +kernel
theorem d2_14 : decode prog_23_method_4_code 14 = .ok (.baload, 1) := by decide +kernel
theorem d2_15 : decode prog_23_method_4_code 15 = .ok (.ifCond .eq 9, 3) := by decide +kernel
theorem d2_18 : decode prog_23_method_4_code 18 = .ok (.iinc 4 1, 3) := by decide +kernel
theorem d2_21 : decode prog_23_method_4_code 21 = .ok (.goto (-18), 3) := by decide +kernel
theorem d2_24 : decode prog_23_method_4_code 24 = .ok (.iload 4, 2) := by decide +kernel
theorem d2_26 : decode prog_23_method_4_code 26 = .ok (.iload_n 3, 1) := by decide +kernel
theorem d2_27 : decode prog_23_method_4_code 27 = .ok (.if_icmp .ge 8, 3) := by decide +kernel
theorem d2_30 : decode prog_23_method_4_code 30 = .ok (.iload 4, 2) := by decide +kernel
theorem d2_32 : decode prog_23_method_4_code 32 = .ok (.goto 4, 3) := by decide +kernel
theorem d2_35 : decode prog_23_method_4_code 35 = .ok (.iconst (-1), 1) := by decide +kernel
theorem d2_0 : decode prog_23_method_4_code 0 = .ok (.iload_n 2, 1) := by decide +kernel
theorem d2_1 : decode prog_23_method_4_code 1 = .ok (.istore 4, 2) := by decide +kernel
theorem d2_36 : decode prog_23_method_4_code 36 = .ok (.ireturn, 1) := by decide +kernel
theorem pn_2 : plainName "com/example/transmute/transmute/BinaryForm" = true := by first | (simp [plainName, overriddenIn]; done) | decide +kernel
theorem ef_2 (m : MethodId) (x0 : Addr) (x1 : Int32) (x2 : Int32) (x3 : Int32) : entryFrame m #[(.ref x0), (.int x1), (.int x2), (.int x3)] 5 = mkF m 0 #[.val (.ref x0), .val (.int x1), .val (.int x2), .val (.int x3), .unset] [] := by first | (simp [entryFrame, mkF, argsToLocals, Value.category]; done) | rfl
set_option maxRecDepth 65536 in
set_option maxHeartbeats 40000000 in
theorem tn2_ff {p : Program} {l : Launch} {e : Env} {R : Room} {s : State} {m : MethodId} {args : Array Value} {below : List Frame} {meth : Method} {c : Code} {T0 : State} {locs : List Loc} {cells slots : Nat} {Z : State} {a0 : Array Value} {h0 : Heap} (o0 : Addr) (i1 : Int32) (s2 : Slot) (i3 : Int32) (i4 : Int32) (w5 : Int32) (cl_o0 : Cell)
    (X0 : Stand p l e R s m args below meth c T0 locs cells slots) (hx : p.tables.exec = Jvm.exec) (hZ : Z.Warmed39 s.vm) (hw : ∀ d ∈ tables_1, d.before a0 Z = true) (hby : c.code = prog_23_method_4_code) (hml : c.maxLocals = 5) (hown : s.vm.findClass "com/example/transmute/transmute/BinaryForm" = some m.cls) (e0 : T0.heap = h0) (Ar_o0 : Arr Z h0 o0 cl_o0 .byte) (hin14 : ¬ ((i1 + i4) < 0 ∨ cl_o0.slots.size ≤ ((i1 + i4)).toNatClampNeg)) (hat14 : cl_o0.slots[((i1 + i4)).toNatClampNeg]? = some (.int w5)) (hc6 : i4 < i3) (hc15 : ¬ (w5 = (0 : Int32))) :
    ∀ target, Steps p.tables e below (T0.setTop (mkF m 3 #[.val (.ref o0), .val (.int i1), s2, .val (.int i3), .val (.int (i4 + (1 : Int32)))] [])) target → Steps p.tables e below (T0.setTop (mkF m 3 #[.val (.ref o0), .val (.int i1), s2, .val (.int i3), .val (.int i4)] [])) target := by

  intro target kt
  show Steps p.tables e below (T0.setTop (mkF m 3 #[.val (.ref o0), .val (.int i1), s2, .val (.int i3), .val (.int i4)] [])) _
  refine XS.iload X0.here hx rfl (hb hby d2_3) rfl ?_
  show Steps p.tables e below (T0.setTop (mkF m 5 #[.val (.ref o0), .val (.int i1), s2, .val (.int i3), .val (.int i4)] [(.int i4)])) _
  refine XS.iloadN X0.here hx rfl (hb hby d2_5) rfl ?_
  show Steps p.tables e below (T0.setTop (mkF m 6 #[.val (.ref o0), .val (.int i1), s2, .val (.int i3), .val (.int i4)] [(.int i3), (.int i4)])) _
  refine XS.icmpNo X0.here hx rfl (hb hby d2_6) rfl (tlt hc6).2.1 ?_
  show Steps p.tables e below (T0.setTop (mkF m 9 #[.val (.ref o0), .val (.int i1), s2, .val (.int i3), .val (.int i4)] [])) _
  refine XS.aloadN X0.here hx rfl (hb hby d2_9) rfl rfl ?_
  show Steps p.tables e below (T0.setTop (mkF m 10 #[.val (.ref o0), .val (.int i1), s2, .val (.int i3), .val (.int i4)] [(.ref o0)])) _
  refine XS.iloadN X0.here hx rfl (hb hby d2_10) rfl ?_
  show Steps p.tables e below (T0.setTop (mkF m 11 #[.val (.ref o0), .val (.int i1), s2, .val (.int i3), .val (.int i4)] [(.int i1), (.ref o0)])) _
  refine XS.iload X0.here hx rfl (hb hby d2_11) rfl ?_
  show Steps p.tables e below (T0.setTop (mkF m 13 #[.val (.ref o0), .val (.int i1), s2, .val (.int i3), .val (.int i4)] [(.int i4), (.int i1), (.ref o0)])) _
  refine XS.iadd X0.here hx rfl (hb hby d2_13) rfl ?_
  show Steps p.tables e below (T0.setTop (mkF m 14 #[.val (.ref o0), .val (.int i1), s2, .val (.int i3), .val (.int i4)] [(.int (i1 + i4)), (.ref o0)])) _
  refine X0.baloadBytes hx (j := (i1 + i4)) (v := (.int w5)) (by rw [e0]; exact Ar_o0.1) (State.isArrayOf_alike hZ.alike Ar_o0.2.1) Ar_o0.2.2 hin14 hat14 (g := (mkF m 14 #[.val (.ref o0), .val (.int i1), s2, .val (.int i3), .val (.int i4)] [(.int (i1 + i4)), (.ref o0)])) rfl rfl (hb hby d2_14) _ ?_
  show Steps p.tables e below (T0.setTop (mkF m 15 #[.val (.ref o0), .val (.int i1), s2, .val (.int i3), .val (.int i4)] [(.int w5)])) _
  refine XS.ifNo X0.here hx rfl (hb hby d2_15) rfl ((if0 _ _).trans (feq hc15).1) ?_
  show Steps p.tables e below (T0.setTop (mkF m 18 #[.val (.ref o0), .val (.int i1), s2, .val (.int i3), .val (.int i4)] [])) _
  refine XS.iinc X0.here hx rfl (hb hby d2_18) rfl (l' := #[.val (.ref o0), .val (.int i1), s2, .val (.int i3), .val (.int (i4 + (1 : Int32)))]) rfl ?_
  show Steps p.tables e below (T0.setTop (mkF m 21 #[.val (.ref o0), .val (.int i1), s2, .val (.int i3), .val (.int (i4 + (1 : Int32)))] [])) _
  refine XS.goto X0.here hx rfl (pc0 := 21) (pc' := 3) rfl (hb hby d2_21) (by decide) (by decide) ?_
  exact kt
set_option maxRecDepth 65536 in
set_option maxHeartbeats 40000000 in
theorem tn2_ftf {p : Program} {l : Launch} {e : Env} {R : Room} {s : State} {m : MethodId} {args : Array Value} {below : List Frame} {meth : Method} {c : Code} {T0 : State} {locs : List Loc} {cells slots : Nat} {Z : State} {a0 : Array Value} {h0 : Heap} (o0 : Addr) (i1 : Int32) (s2 : Slot) (i3 : Int32) (i4 : Int32) (w5 : Int32) (cl_o0 : Cell)
    (X0 : Stand p l e R s m args below meth c T0 locs cells slots) (hx : p.tables.exec = Jvm.exec) (hZ : Z.Warmed39 s.vm) (hw : ∀ d ∈ tables_1, d.before a0 Z = true) (hby : c.code = prog_23_method_4_code) (hml : c.maxLocals = 5) (hown : s.vm.findClass "com/example/transmute/transmute/BinaryForm" = some m.cls) (e0 : T0.heap = h0) (Ar_o0 : Arr Z h0 o0 cl_o0 .byte) (hin14 : ¬ ((i1 + i4) < 0 ∨ cl_o0.slots.size ≤ ((i1 + i4)).toNatClampNeg)) (hat14 : cl_o0.slots[((i1 + i4)).toNatClampNeg]? = some (.int w5)) (hc6 : i4 < i3) (hc15 : w5 = (0 : Int32)) (hc27 : i4 < i3) :
    ∀ target, Steps p.tables e below (T0.setTop (mkF m 36 #[.val (.ref o0), .val (.int i1), s2, .val (.int i3), .val (.int i4)] [(.int i4)])) target → Steps p.tables e below (T0.setTop (mkF m 3 #[.val (.ref o0), .val (.int i1), s2, .val (.int i3), .val (.int i4)] [])) target := by

  intro target kt
  show Steps p.tables e below (T0.setTop (mkF m 3 #[.val (.ref o0), .val (.int i1), s2, .val (.int i3), .val (.int i4)] [])) _
  refine XS.iload X0.here hx rfl (hb hby d2_3) rfl ?_
  show Steps p.tables e below (T0.setTop (mkF m 5 #[.val (.ref o0), .val (.int i1), s2, .val (.int i3), .val (.int i4)] [(.int i4)])) _
  refine XS.iloadN X0.here hx rfl (hb hby d2_5) rfl ?_
  show Steps p.tables e below (T0.setTop (mkF m 6 #[.val (.ref o0), .val (.int i1), s2, .val (.int i3), .val (.int i4)] [(.int i3), (.int i4)])) _
  refine XS.icmpNo X0.here hx rfl (hb hby d2_6) rfl (tlt hc6).2.1 ?_
  show Steps p.tables e below (T0.setTop (mkF m 9 #[.val (.ref o0), .val (.int i1), s2, .val (.int i3), .val (.int i4)] [])) _
  refine XS.aloadN X0.here hx rfl (hb hby d2_9) rfl rfl ?_
  show Steps p.tables e below (T0.setTop (mkF m 10 #[.val (.ref o0), .val (.int i1), s2, .val (.int i3), .val (.int i4)] [(.ref o0)])) _
  refine XS.iloadN X0.here hx rfl (hb hby d2_10) rfl ?_
  show Steps p.tables e below (T0.setTop (mkF m 11 #[.val (.ref o0), .val (.int i1), s2, .val (.int i3), .val (.int i4)] [(.int i1), (.ref o0)])) _
  refine XS.iload X0.here hx rfl (hb hby d2_11) rfl ?_
  show Steps p.tables e below (T0.setTop (mkF m 13 #[.val (.ref o0), .val (.int i1), s2, .val (.int i3), .val (.int i4)] [(.int i4), (.int i1), (.ref o0)])) _
  refine XS.iadd X0.here hx rfl (hb hby d2_13) rfl ?_
  show Steps p.tables e below (T0.setTop (mkF m 14 #[.val (.ref o0), .val (.int i1), s2, .val (.int i3), .val (.int i4)] [(.int (i1 + i4)), (.ref o0)])) _
  refine X0.baloadBytes hx (j := (i1 + i4)) (v := (.int w5)) (by rw [e0]; exact Ar_o0.1) (State.isArrayOf_alike hZ.alike Ar_o0.2.1) Ar_o0.2.2 hin14 hat14 (g := (mkF m 14 #[.val (.ref o0), .val (.int i1), s2, .val (.int i3), .val (.int i4)] [(.int (i1 + i4)), (.ref o0)])) rfl rfl (hb hby d2_14) _ ?_
  show Steps p.tables e below (T0.setTop (mkF m 15 #[.val (.ref o0), .val (.int i1), s2, .val (.int i3), .val (.int i4)] [(.int w5)])) _
  refine XS.ifYes X0.here hx rfl (pc0 := 15) (pc' := 24) rfl (hb hby d2_15) rfl ((if0 _ _).trans (teq hc15).1) (by decide) (by decide) ?_
  show Steps p.tables e below (T0.setTop (mkF m 24 #[.val (.ref o0), .val (.int i1), s2, .val (.int i3), .val (.int i4)] [])) _
  refine XS.iload X0.here hx rfl (hb hby d2_24) rfl ?_
  show Steps p.tables e below (T0.setTop (mkF m 26 #[.val (.ref o0), .val (.int i1), s2, .val (.int i3), .val (.int i4)] [(.int i4)])) _
  refine XS.iloadN X0.here hx rfl (hb hby d2_26) rfl ?_
  show Steps p.tables e below (T0.setTop (mkF m 27 #[.val (.ref o0), .val (.int i1), s2, .val (.int i3), .val (.int i4)] [(.int i3), (.int i4)])) _
  refine XS.icmpNo X0.here hx rfl (hb hby d2_27) rfl (tlt hc27).2.1 ?_
  show Steps p.tables e below (T0.setTop (mkF m 30 #[.val (.ref o0), .val (.int i1), s2, .val (.int i3), .val (.int i4)] [])) _
  refine XS.iload X0.here hx rfl (hb hby d2_30) rfl ?_
  show Steps p.tables e below (T0.setTop (mkF m 32 #[.val (.ref o0), .val (.int i1), s2, .val (.int i3), .val (.int i4)] [(.int i4)])) _
  refine XS.goto X0.here hx rfl (pc0 := 32) (pc' := 36) rfl (hb hby d2_32) (by decide) (by decide) ?_
  exact kt
set_option maxRecDepth 65536 in
set_option maxHeartbeats 40000000 in
theorem tn2_tt {p : Program} {l : Launch} {e : Env} {R : Room} {s : State} {m : MethodId} {args : Array Value} {below : List Frame} {meth : Method} {c : Code} {T0 : State} {locs : List Loc} {cells slots : Nat} {Z : State} {a0 : Array Value} {h0 : Heap} (s0 : Slot) (s1 : Slot) (s2 : Slot) (i3 : Int32) (i4 : Int32)
    (X0 : Stand p l e R s m args below meth c T0 locs cells slots) (hx : p.tables.exec = Jvm.exec) (hZ : Z.Warmed39 s.vm) (hw : ∀ d ∈ tables_1, d.before a0 Z = true) (hby : c.code = prog_23_method_4_code) (hml : c.maxLocals = 5) (hown : s.vm.findClass "com/example/transmute/transmute/BinaryForm" = some m.cls) (e0 : T0.heap = h0) (hc6 : ¬ (i4 < i3)) (hc27 : ¬ (i4 < i3)) :
    ∀ target, Steps p.tables e below (T0.setTop (mkF m 36 #[s0, s1, s2, .val (.int i3), .val (.int i4)] [(.int (-1 : Int32))])) target → Steps p.tables e below (T0.setTop (mkF m 3 #[s0, s1, s2, .val (.int i3), .val (.int i4)] [])) target := by

  intro target kt
  show Steps p.tables e below (T0.setTop (mkF m 3 #[s0, s1, s2, .val (.int i3), .val (.int i4)] [])) _
  refine XS.iload X0.here hx rfl (hb hby d2_3) rfl ?_
  show Steps p.tables e below (T0.setTop (mkF m 5 #[s0, s1, s2, .val (.int i3), .val (.int i4)] [(.int i4)])) _
  refine XS.iloadN X0.here hx rfl (hb hby d2_5) rfl ?_
  show Steps p.tables e below (T0.setTop (mkF m 6 #[s0, s1, s2, .val (.int i3), .val (.int i4)] [(.int i3), (.int i4)])) _
  refine XS.icmpYes X0.here hx rfl (pc0 := 6) (pc' := 24) rfl (hb hby d2_6) rfl (flt hc6).2.1 (by decide) (by decide) ?_
  show Steps p.tables e below (T0.setTop (mkF m 24 #[s0, s1, s2, .val (.int i3), .val (.int i4)] [])) _
  refine XS.iload X0.here hx rfl (hb hby d2_24) rfl ?_
  show Steps p.tables e below (T0.setTop (mkF m 26 #[s0, s1, s2, .val (.int i3), .val (.int i4)] [(.int i4)])) _
  refine XS.iloadN X0.here hx rfl (hb hby d2_26) rfl ?_
  show Steps p.tables e below (T0.setTop (mkF m 27 #[s0, s1, s2, .val (.int i3), .val (.int i4)] [(.int i3), (.int i4)])) _
  refine XS.icmpYes X0.here hx rfl (pc0 := 27) (pc' := 35) rfl (hb hby d2_27) rfl (flt hc27).2.1 (by decide) (by decide) ?_
  show Steps p.tables e below (T0.setTop (mkF m 35 #[s0, s1, s2, .val (.int i3), .val (.int i4)] [])) _
  refine XS.iconst X0.here hx rfl (hb hby d2_35) ?_
  exact kt
def Q2 (Z : State) (a1 : Addr) (p2 : Int32) (p3 : Int32) (p4 : Int32) (O Fm Ln : Nat) (vs : List Value) (h0 : Heap) (n0 : Nat) (v : Option Value) (h : Heap) (L : List Loc) : Prop := v = some (.int (own_find (own_wv vs) O (Ln - Fm) Fm)) ∧ Fr n0 L ∧ h = h0
set_option maxRecDepth 65536 in
set_option maxHeartbeats 40000000 in
theorem rm2 (l : Launch) (Z : State) (a0 : Array Value) (hw : ∀ d ∈ tables_1, d.before a0 Z = true) (ws : List Jvm.Cond) (a1 : Addr) (p2 : Int32) (p3 : Int32) (p4 : Int32) (O Fm Ln : Nat) (kA : ClassId) (vs : List Value) (h0 : Heap) (n0 : Nat) (Z0 : n0 ≤ h0.size) (eO : p2 = Int32.ofNat O) (eF : p3 = Int32.ofNat Fm) (eL : p4 = Int32.ofNat Ln) (hO : O + Ln ≤ 6) (hF : Fm ≤ 7) (V : Arv Z h0 a1 kA .byte (6 : Int32) vs (.int (0 : Int32))) :
    MetFree l (⟨"com/example/transmute/transmute/BinaryForm", "zeroByteAt", "([BIII)I"⟩ : MethodName) (head1 (Jvm.Cond.code (⟨"com/example/transmute/transmute/BinaryForm", "zeroByteAt", "([BIII)I"⟩ : MethodName) prog_23_method_4_code 5 (some .int) :: ws) ({ frames := 0, cells := 0, slots := 0, locals := 0 } : Room)) (fun a U => a = #[(.ref a1), (.int p2), (.int p3), (.int p4)] ∧ Z.Warmed39 U.vm ∧ U.heap = h0) (fun _ _ _ _ _ => True) (fun _ U o U' => ∃ v L, o = .returned v ∧ Q2 Z a1 p2 p3 p4 O Fm Ln vs h0 n0 v U'.heap L ∧ FrameEnd U o U' L ({ frames := 0, cells := 0, slots := 0, locals := 0 } : Room).cells ({ frames := 0, cells := 0, slots := 0, locals := 0 } : Room).slots) := by
  refine MetFree.of_bodySF (plainFor_of_name pn_2) hisR ?_
  intro p e s m args below meth c s₁ Bd hml0 hP hK
  obtain ⟨rfl, hZ, hh⟩ := hP
  have hx := Bd.exec
  have hby := Bd.bytes
  have hml : c.maxLocals = 5 := hml0
  have hown : s.vm.findClass "com/example/transmute/transmute/BinaryForm" = some m.cls := findClass_of_methodNamed Bd.named
  have hnm := (name_of_methodNamed Bd.named Bd.method).1
  have X0 : Stand p l e ({ frames := 0, cells := 0, slots := 0, locals := 0 } : Room) s m #[(.ref a1), (.int p2), (.int p3), (.int p4)] below meth c s₁ [] 0 0 := Stand.of_body Bd
  have e0 : s₁.heap = h0 := by rw [← hh, Bd.state]; rfl
  have N0 := Fr.nil n0
  have pre0 : ∀ t, Steps p.tables e below (s₁.setTop (mkF m 0 #[.val (.ref a1), .val (.int p2), .val (.int p3), .val (.int p4), .unset] [])) t → Steps p.tables e below (s₁.setTop (entryFrame m #[(.ref a1), (.int p2), (.int p3), (.int p4)] 5)) t := fun t k => castTop (ef_2 m a1 p2 p3 p4) k
  obtain ⟨cl, Ar, -, S, -, H, G⟩ := V
  obtain ⟨fs, hr, hrun, hended, hW, hsame⟩ := X0.leave (v := some (.int (own_find (own_wv vs) O (Ln - Fm) Fm))) (fun h => by rw [Bd.returns] at h; cases h)
  have loop : ∀ (k i : Nat), k = Ln - i → i ≤ 7 → own_find (own_wv vs) O (Ln - Fm) Fm = own_find (own_wv vs) O k i → Steps p.tables e below (s₁.setTop (mkF m 3 #[.val (.ref a1), .val (.int p2), .val (.int p3), .val (.int p4), .val (.int (Int32.ofNat i))] [])) (s₁.setFrames fs) := by
    intro k
    induction k with
    | zero =>
      intro i hk hi hv
      have hc : ¬ (Int32.ofNat i < p4) := by rw [eL, own_lt _ _ (by omega) (by omega)]; omega
      refine tn2_tt (l := l) (.val (.ref a1)) (.val (.int p2)) (.val (.int p3)) p4 (Int32.ofNat i) X0 hx hZ hw hby hml hown e0 hc hc _ ?_
      have hv' : own_find (own_wv vs) O (Ln - Fm) Fm = (-1 : Int32) := hv
      rw [hv'] at hr
      exact retI X0 hx Bd.returns (hb hby d2_36) hr
    | succ k ih =>
      intro i hk hi hv
      have hc : Int32.ofNat i < p4 := by rw [eL, own_lt _ _ (by omega) (by omega)]; omega
      have es : p2 + Int32.ofNat i = Int32.ofNat (O + i) := by rw [eO, ← Int32.ofNat_add]
      have hin : ¬ ((p2 + Int32.ofNat i) < 0 ∨ cl.slots.size ≤ (p2 + Int32.ofNat i).toNatClampNeg) := inb_of S (by rw [es]; exact own_pl _ (by omega))
      have hat : cl.slots[(p2 + Int32.ofNat i).toNatClampNeg]? = some (.int (own_wv vs (O + i))) := Has.at H hin (by
        rw [es, own_cl _ (by omega)]
        exact own_wv_at vs (O + i) (G _ (by rw [S]; exact (show O + i < 6 by omega))))
      by_cases hz : own_wv vs (O + i) = (0 : Int32)
      · refine tn2_ftf (l := l) a1 p2 (.val (.int p3)) p4 (Int32.ofNat i) (own_wv vs (O + i)) cl X0 hx hZ hw hby hml hown e0 Ar hin hat hc hz hc _ ?_
        have hv' : own_find (own_wv vs) O (Ln - Fm) Fm = Int32.ofNat i := hv.trans (if_pos hz)
        rw [hv'] at hr
        exact retI X0 hx Bd.returns (hb hby d2_36) hr
      · refine tn2_ff (l := l) a1 p2 (.val (.int p3)) p4 (Int32.ofNat i) (own_wv vs (O + i)) cl X0 hx hZ hw hby hml hown e0 Ar hin hat hc hz _ ?_
        rw [own_inc]
        exact ih (i + 1) (by omega) (by omega) (hv.trans (if_neg hz))
  refine ⟨_, _, pre0 _ ?_, hrun, hended, _, _, rfl, ?_, ⟨_, rfl⟩, hW, hsame.mono (by decide) (by decide)⟩
  · show Steps p.tables e below (s₁.setTop (mkF m 0 #[.val (.ref a1), .val (.int p2), .val (.int p3), .val (.int p4), .unset] [])) _
    refine XS.iloadN X0.here hx rfl (hb hby d2_0) rfl ?_
    show Steps p.tables e below (s₁.setTop (mkF m 1 #[.val (.ref a1), .val (.int p2), .val (.int p3), .val (.int p4), .unset] [(.int p3)])) _
    refine XS.istore X0.here hx rfl (hb hby d2_1) rfl (l' := #[.val (.ref a1), .val (.int p2), .val (.int p3), .val (.int p4), .val (.int p3)]) rfl ?_
    have L0 := loop (Ln - Fm) Fm rfl hF rfl
    rw [← eF] at L0
    exact L0
  · show Q2 Z a1 p2 p3 p4 O Fm Ln vs h0 n0 _ s₁.heap _
    rw [e0]
    exact ⟨rfl, N0, rfl⟩
theorem d3_0 : decode method_4_code 0 = .ok (.iload 4, 2) := by decide +kernel
theorem d3_2 : decode method_4_code 2 = .ok (.iload_n 2, 1) := by decide +kernel
theorem d3_3 : decode method_4_code 3 = .ok (.if_icmp .lt 22, 3) := by decide +kernel
theorem d3_25 : decode method_4_code 25 = .ok (.iconst 0, 1) := by decide +kernel
theorem d3_26 : decode method_4_code 26 = .ok (.ireturn, 1) := by decide +kernel
theorem pn_3 : plainName "com/example/transmute/transmute/BinaryFormZeroByteAtPinLaw" = true := by first | (simp [plainName, overriddenIn]; done) | decide +kernel
theorem ef_3 (m : MethodId) (x0 : Addr) (x1 : Int32) (x2 : Int32) (x3 : Int32) (x4 : Int32) : entryFrame m #[(.ref x0), (.int x1), (.int x2), (.int x3), (.int x4)] 5 = mkF m 0 #[.val (.ref x0), .val (.int x1), .val (.int x2), .val (.int x3), .val (.int x4)] [] := by first | (simp [entryFrame, mkF, argsToLocals, Value.category]; done) | rfl
theorem d3_6 : decode method_4_code 6 = .ok (.iload 4, 2) := by decide +kernel
theorem d3_8 : decode method_4_code 8 = .ok (.iload_n 3, 1) := by decide +kernel
theorem d3_9 : decode method_4_code 9 = .ok (.if_icmp .ge 16, 3) := by decide +kernel
theorem d3_12 : decode method_4_code 12 = .ok (.aload_n 0, 1) := by decide +kernel
theorem d3_13 : decode method_4_code 13 = .ok (.iload_n 1, 1) := by decide +kernel
theorem d3_14 : decode method_4_code 14 = .ok (.iload 4, 2) := by decide +kernel
theorem d3_16 : decode method_4_code 16 = .ok (.iadd, 1) := by decide +kernel
theorem d3_17 : decode method_4_code 17 = .ok (.baload, 1) := by decide +kernel
theorem d3_18 : decode method_4_code 18 = .ok (.ifCond .ne 7, 3) := by decide +kernel
theorem d3_21 : decode method_4_code 21 = .ok (.iconst 1, 1) := by decide +kernel
theorem d3_22 : decode method_4_code 22 = .ok (.goto 4, 3) := by decide +kernel
def Q3 (Z : State) (a1 : Addr) (p2 : Int32) (p3 : Int32) (p4 : Int32) (p5 : Int32) (rv : Int32) (h0 : Heap) (n0 : Nat) (v : Option Value) (h : Heap) (L : List Loc) : Prop := v = some (.int rv) ∧ Fr n0 L ∧ h = h0
set_option maxRecDepth 65536 in
set_option maxHeartbeats 40000000 in
theorem rm3_t (l : Launch) (Z : State) (a0 : Array Value) (hw : ∀ d ∈ tables_1, d.before a0 Z = true) (ws : List Jvm.Cond) (a1 : Addr) (p2 : Int32) (p3 : Int32) (p4 : Int32) (p5 : Int32) (h0 : Heap) (n0 : Nat) (Z0 : n0 ≤ h0.size) (hc3 : p5 < p3) :
    MetFree l (⟨"com/example/transmute/transmute/BinaryFormZeroByteAtPinLaw", "z", "([BIIII)Z"⟩ : MethodName) (head1 (Jvm.Cond.code (⟨"com/example/transmute/transmute/BinaryFormZeroByteAtPinLaw", "z", "([BIIII)Z"⟩ : MethodName) method_4_code 5 (some .boolean) :: ws) ({ frames := 0, cells := 0, slots := 0, locals := 0 } : Room)) (fun a U => a = #[(.ref a1), (.int p2), (.int p3), (.int p4), (.int p5)] ∧ Z.Warmed39 U.vm ∧ U.heap = h0) (fun _ _ _ _ _ => True) (fun _ U o U' => ∃ v L, o = .returned v ∧ Q3 Z a1 p2 p3 p4 p5 0 h0 n0 v U'.heap L ∧ FrameEnd U o U' L ({ frames := 0, cells := 0, slots := 0, locals := 0 } : Room).cells ({ frames := 0, cells := 0, slots := 0, locals := 0 } : Room).slots) := by
  refine MetFree.of_bodySF (plainFor_of_name pn_3) hisR ?_
  intro p e s m args below meth c s₁ Bd hml0 hP hK
  obtain ⟨rfl, hZ, hh⟩ := hP
  have hx := Bd.exec
  have hby := Bd.bytes
  have hml : c.maxLocals = 5 := hml0
  have hown : s.vm.findClass "com/example/transmute/transmute/BinaryFormZeroByteAtPinLaw" = some m.cls := findClass_of_methodNamed Bd.named
  have hnm := (name_of_methodNamed Bd.named Bd.method).1
  have X0 : Stand p l e ({ frames := 0, cells := 0, slots := 0, locals := 0 } : Room) s m #[(.ref a1), (.int p2), (.int p3), (.int p4), (.int p5)] below meth c s₁ [] 0 0 := Stand.of_body Bd
  have e0 : s₁.heap = h0 := by rw [← hh, Bd.state]; rfl
  have N0 := Fr.nil n0
  have pre0 : ∀ t, Steps p.tables e below (s₁.setTop (mkF m 0 #[.val (.ref a1), .val (.int p2), .val (.int p3), .val (.int p4), .val (.int p5)] [])) t → Steps p.tables e below (s₁.setTop (entryFrame m #[(.ref a1), (.int p2), (.int p3), (.int p4), (.int p5)] 5)) t := fun t k => castTop (ef_3 m a1 p2 p3 p4 p5) k

  obtain ⟨fs, hr, hrun, hended, hW, hsame⟩ := X0.leave (v := some (.int (0 : Int32))) (fun h => by rw [Bd.returns] at h; cases h)
  refine ⟨_, _, pre0 _ ?_, hrun, hended, _, _, rfl, ?_, ⟨_, rfl⟩, hW, hsame.mono (by decide) (by decide)⟩
  · show Steps p.tables e below (s₁.setTop (mkF m 0 #[.val (.ref a1), .val (.int p2), .val (.int p3), .val (.int p4), .val (.int p5)] [])) _
    refine XS.iload X0.here hx rfl (hb hby d3_0) rfl ?_
    show Steps p.tables e below (s₁.setTop (mkF m 2 #[.val (.ref a1), .val (.int p2), .val (.int p3), .val (.int p4), .val (.int p5)] [(.int p5)])) _
    refine XS.iloadN X0.here hx rfl (hb hby d3_2) rfl ?_
    show Steps p.tables e below (s₁.setTop (mkF m 3 #[.val (.ref a1), .val (.int p2), .val (.int p3), .val (.int p4), .val (.int p5)] [(.int p3), (.int p5)])) _
    refine XS.icmpYes X0.here hx rfl (pc0 := 3) (pc' := 25) rfl (hb hby d3_3) rfl (tlt hc3).1 (by decide) (by decide) ?_
    show Steps p.tables e below (s₁.setTop (mkF m 25 #[.val (.ref a1), .val (.int p2), .val (.int p3), .val (.int p4), .val (.int p5)] [])) _
    refine XS.iconst X0.here hx rfl (hb hby d3_25) ?_
    show Steps p.tables e below (s₁.setTop (mkF m 26 #[.val (.ref a1), .val (.int p2), .val (.int p3), .val (.int p4), .val (.int p5)] [(.int (0 : Int32))])) _
    exact retN X0 hx (t := .boolean) Bd.returns (by simp) (hb hby d3_26) hr
  · show Q3 Z a1 p2 p3 p4 p5 0 h0 n0 _ s₁.heap _
    rw [e0]
    exact ⟨rfl, N0, rfl⟩
set_option maxRecDepth 65536 in
set_option maxHeartbeats 40000000 in
theorem rm3_ft (l : Launch) (Z : State) (a0 : Array Value) (hw : ∀ d ∈ tables_1, d.before a0 Z = true) (ws : List Jvm.Cond) (a1 : Addr) (p2 : Int32) (p3 : Int32) (p4 : Int32) (p5 : Int32) (h0 : Heap) (n0 : Nat) (Z0 : n0 ≤ h0.size) (hc3 : ¬ (p5 < p3)) (hc9 : ¬ (p5 < p4)) :
    MetFree l (⟨"com/example/transmute/transmute/BinaryFormZeroByteAtPinLaw", "z", "([BIIII)Z"⟩ : MethodName) (head1 (Jvm.Cond.code (⟨"com/example/transmute/transmute/BinaryFormZeroByteAtPinLaw", "z", "([BIIII)Z"⟩ : MethodName) method_4_code 5 (some .boolean) :: ws) ({ frames := 0, cells := 0, slots := 0, locals := 0 } : Room)) (fun a U => a = #[(.ref a1), (.int p2), (.int p3), (.int p4), (.int p5)] ∧ Z.Warmed39 U.vm ∧ U.heap = h0) (fun _ _ _ _ _ => True) (fun _ U o U' => ∃ v L, o = .returned v ∧ Q3 Z a1 p2 p3 p4 p5 0 h0 n0 v U'.heap L ∧ FrameEnd U o U' L ({ frames := 0, cells := 0, slots := 0, locals := 0 } : Room).cells ({ frames := 0, cells := 0, slots := 0, locals := 0 } : Room).slots) := by
  refine MetFree.of_bodySF (plainFor_of_name pn_3) hisR ?_
  intro p e s m args below meth c s₁ Bd hml0 hP hK
  obtain ⟨rfl, hZ, hh⟩ := hP
  have hx := Bd.exec
  have hby := Bd.bytes
  have hml : c.maxLocals = 5 := hml0
  have hown : s.vm.findClass "com/example/transmute/transmute/BinaryFormZeroByteAtPinLaw" = some m.cls := findClass_of_methodNamed Bd.named
  have hnm := (name_of_methodNamed Bd.named Bd.method).1
  have X0 : Stand p l e ({ frames := 0, cells := 0, slots := 0, locals := 0 } : Room) s m #[(.ref a1), (.int p2), (.int p3), (.int p4), (.int p5)] below meth c s₁ [] 0 0 := Stand.of_body Bd
  have e0 : s₁.heap = h0 := by rw [← hh, Bd.state]; rfl
  have N0 := Fr.nil n0
  have pre0 : ∀ t, Steps p.tables e below (s₁.setTop (mkF m 0 #[.val (.ref a1), .val (.int p2), .val (.int p3), .val (.int p4), .val (.int p5)] [])) t → Steps p.tables e below (s₁.setTop (entryFrame m #[(.ref a1), (.int p2), (.int p3), (.int p4), (.int p5)] 5)) t := fun t k => castTop (ef_3 m a1 p2 p3 p4 p5) k

  obtain ⟨fs, hr, hrun, hended, hW, hsame⟩ := X0.leave (v := some (.int (0 : Int32))) (fun h => by rw [Bd.returns] at h; cases h)
  refine ⟨_, _, pre0 _ ?_, hrun, hended, _, _, rfl, ?_, ⟨_, rfl⟩, hW, hsame.mono (by decide) (by decide)⟩
  · show Steps p.tables e below (s₁.setTop (mkF m 0 #[.val (.ref a1), .val (.int p2), .val (.int p3), .val (.int p4), .val (.int p5)] [])) _
    refine XS.iload X0.here hx rfl (hb hby d3_0) rfl ?_
    show Steps p.tables e below (s₁.setTop (mkF m 2 #[.val (.ref a1), .val (.int p2), .val (.int p3), .val (.int p4), .val (.int p5)] [(.int p5)])) _
    refine XS.iloadN X0.here hx rfl (hb hby d3_2) rfl ?_
    show Steps p.tables e below (s₁.setTop (mkF m 3 #[.val (.ref a1), .val (.int p2), .val (.int p3), .val (.int p4), .val (.int p5)] [(.int p3), (.int p5)])) _
    refine XS.icmpNo X0.here hx rfl (hb hby d3_3) rfl (flt hc3).1 ?_
    show Steps p.tables e below (s₁.setTop (mkF m 6 #[.val (.ref a1), .val (.int p2), .val (.int p3), .val (.int p4), .val (.int p5)] [])) _
    refine XS.iload X0.here hx rfl (hb hby d3_6) rfl ?_
    show Steps p.tables e below (s₁.setTop (mkF m 8 #[.val (.ref a1), .val (.int p2), .val (.int p3), .val (.int p4), .val (.int p5)] [(.int p5)])) _
    refine XS.iloadN X0.here hx rfl (hb hby d3_8) rfl ?_
    show Steps p.tables e below (s₁.setTop (mkF m 9 #[.val (.ref a1), .val (.int p2), .val (.int p3), .val (.int p4), .val (.int p5)] [(.int p4), (.int p5)])) _
    refine XS.icmpYes X0.here hx rfl (pc0 := 9) (pc' := 25) rfl (hb hby d3_9) rfl (flt hc9).2.1 (by decide) (by decide) ?_
    show Steps p.tables e below (s₁.setTop (mkF m 25 #[.val (.ref a1), .val (.int p2), .val (.int p3), .val (.int p4), .val (.int p5)] [])) _
    refine XS.iconst X0.here hx rfl (hb hby d3_25) ?_
    show Steps p.tables e below (s₁.setTop (mkF m 26 #[.val (.ref a1), .val (.int p2), .val (.int p3), .val (.int p4), .val (.int p5)] [(.int (0 : Int32))])) _
    exact retN X0 hx (t := .boolean) Bd.returns (by simp) (hb hby d3_26) hr
  · show Q3 Z a1 p2 p3 p4 p5 0 h0 n0 _ s₁.heap _
    rw [e0]
    exact ⟨rfl, N0, rfl⟩
set_option maxRecDepth 65536 in
set_option maxHeartbeats 40000000 in
theorem rm3_fft (l : Launch) (Z : State) (a0 : Array Value) (hw : ∀ d ∈ tables_1, d.before a0 Z = true) (ws : List Jvm.Cond) (a1 : Addr) (p2 : Int32) (p3 : Int32) (p4 : Int32) (p5 : Int32) (w6 : Int32) (cl_a1 : Cell) (h0 : Heap) (n0 : Nat) (Z0 : n0 ≤ h0.size) (Ar_a1 : Arr Z h0 a1 cl_a1 .byte) (hin17 : ¬ ((p2 + p5) < 0 ∨ cl_a1.slots.size ≤ ((p2 + p5)).toNatClampNeg)) (hat17 : cl_a1.slots[((p2 + p5)).toNatClampNeg]? = some (.int w6)) (hc3 : ¬ (p5 < p3)) (hc9 : p5 < p4) (hc18 : ¬ (w6 = (0 : Int32))) :
    MetFree l (⟨"com/example/transmute/transmute/BinaryFormZeroByteAtPinLaw", "z", "([BIIII)Z"⟩ : MethodName) (head1 (Jvm.Cond.code (⟨"com/example/transmute/transmute/BinaryFormZeroByteAtPinLaw", "z", "([BIIII)Z"⟩ : MethodName) method_4_code 5 (some .boolean) :: ws) ({ frames := 0, cells := 0, slots := 0, locals := 0 } : Room)) (fun a U => a = #[(.ref a1), (.int p2), (.int p3), (.int p4), (.int p5)] ∧ Z.Warmed39 U.vm ∧ U.heap = h0) (fun _ _ _ _ _ => True) (fun _ U o U' => ∃ v L, o = .returned v ∧ Q3 Z a1 p2 p3 p4 p5 0 h0 n0 v U'.heap L ∧ FrameEnd U o U' L ({ frames := 0, cells := 0, slots := 0, locals := 0 } : Room).cells ({ frames := 0, cells := 0, slots := 0, locals := 0 } : Room).slots) := by
  refine MetFree.of_bodySF (plainFor_of_name pn_3) hisR ?_
  intro p e s m args below meth c s₁ Bd hml0 hP hK
  obtain ⟨rfl, hZ, hh⟩ := hP
  have hx := Bd.exec
  have hby := Bd.bytes
  have hml : c.maxLocals = 5 := hml0
  have hown : s.vm.findClass "com/example/transmute/transmute/BinaryFormZeroByteAtPinLaw" = some m.cls := findClass_of_methodNamed Bd.named
  have hnm := (name_of_methodNamed Bd.named Bd.method).1
  have X0 : Stand p l e ({ frames := 0, cells := 0, slots := 0, locals := 0 } : Room) s m #[(.ref a1), (.int p2), (.int p3), (.int p4), (.int p5)] below meth c s₁ [] 0 0 := Stand.of_body Bd
  have e0 : s₁.heap = h0 := by rw [← hh, Bd.state]; rfl
  have N0 := Fr.nil n0
  have pre0 : ∀ t, Steps p.tables e below (s₁.setTop (mkF m 0 #[.val (.ref a1), .val (.int p2), .val (.int p3), .val (.int p4), .val (.int p5)] [])) t → Steps p.tables e below (s₁.setTop (entryFrame m #[(.ref a1), (.int p2), (.int p3), (.int p4), (.int p5)] 5)) t := fun t k => castTop (ef_3 m a1 p2 p3 p4 p5) k

  obtain ⟨fs, hr, hrun, hended, hW, hsame⟩ := X0.leave (v := some (.int (0 : Int32))) (fun h => by rw [Bd.returns] at h; cases h)
  refine ⟨_, _, pre0 _ ?_, hrun, hended, _, _, rfl, ?_, ⟨_, rfl⟩, hW, hsame.mono (by decide) (by decide)⟩
  · show Steps p.tables e below (s₁.setTop (mkF m 0 #[.val (.ref a1), .val (.int p2), .val (.int p3), .val (.int p4), .val (.int p5)] [])) _
    refine XS.iload X0.here hx rfl (hb hby d3_0) rfl ?_
    show Steps p.tables e below (s₁.setTop (mkF m 2 #[.val (.ref a1), .val (.int p2), .val (.int p3), .val (.int p4), .val (.int p5)] [(.int p5)])) _
    refine XS.iloadN X0.here hx rfl (hb hby d3_2) rfl ?_
    show Steps p.tables e below (s₁.setTop (mkF m 3 #[.val (.ref a1), .val (.int p2), .val (.int p3), .val (.int p4), .val (.int p5)] [(.int p3), (.int p5)])) _
    refine XS.icmpNo X0.here hx rfl (hb hby d3_3) rfl (flt hc3).1 ?_
    show Steps p.tables e below (s₁.setTop (mkF m 6 #[.val (.ref a1), .val (.int p2), .val (.int p3), .val (.int p4), .val (.int p5)] [])) _
    refine XS.iload X0.here hx rfl (hb hby d3_6) rfl ?_
    show Steps p.tables e below (s₁.setTop (mkF m 8 #[.val (.ref a1), .val (.int p2), .val (.int p3), .val (.int p4), .val (.int p5)] [(.int p5)])) _
    refine XS.iloadN X0.here hx rfl (hb hby d3_8) rfl ?_
    show Steps p.tables e below (s₁.setTop (mkF m 9 #[.val (.ref a1), .val (.int p2), .val (.int p3), .val (.int p4), .val (.int p5)] [(.int p4), (.int p5)])) _
    refine XS.icmpNo X0.here hx rfl (hb hby d3_9) rfl (tlt hc9).2.1 ?_
    show Steps p.tables e below (s₁.setTop (mkF m 12 #[.val (.ref a1), .val (.int p2), .val (.int p3), .val (.int p4), .val (.int p5)] [])) _
    refine XS.aloadN X0.here hx rfl (hb hby d3_12) rfl rfl ?_
    show Steps p.tables e below (s₁.setTop (mkF m 13 #[.val (.ref a1), .val (.int p2), .val (.int p3), .val (.int p4), .val (.int p5)] [(.ref a1)])) _
    refine XS.iloadN X0.here hx rfl (hb hby d3_13) rfl ?_
    show Steps p.tables e below (s₁.setTop (mkF m 14 #[.val (.ref a1), .val (.int p2), .val (.int p3), .val (.int p4), .val (.int p5)] [(.int p2), (.ref a1)])) _
    refine XS.iload X0.here hx rfl (hb hby d3_14) rfl ?_
    show Steps p.tables e below (s₁.setTop (mkF m 16 #[.val (.ref a1), .val (.int p2), .val (.int p3), .val (.int p4), .val (.int p5)] [(.int p5), (.int p2), (.ref a1)])) _
    refine XS.iadd X0.here hx rfl (hb hby d3_16) rfl ?_
    show Steps p.tables e below (s₁.setTop (mkF m 17 #[.val (.ref a1), .val (.int p2), .val (.int p3), .val (.int p4), .val (.int p5)] [(.int (p2 + p5)), (.ref a1)])) _
    refine X0.baloadBytes hx (j := (p2 + p5)) (v := (.int w6)) (by rw [e0]; exact Ar_a1.1) (State.isArrayOf_alike hZ.alike Ar_a1.2.1) Ar_a1.2.2 hin17 hat17 (g := (mkF m 17 #[.val (.ref a1), .val (.int p2), .val (.int p3), .val (.int p4), .val (.int p5)] [(.int (p2 + p5)), (.ref a1)])) rfl rfl (hb hby d3_17) _ ?_
    show Steps p.tables e below (s₁.setTop (mkF m 18 #[.val (.ref a1), .val (.int p2), .val (.int p3), .val (.int p4), .val (.int p5)] [(.int w6)])) _
    refine XS.ifYes X0.here hx rfl (pc0 := 18) (pc' := 25) rfl (hb hby d3_18) rfl ((if0 _ _).trans (feq hc18).2) (by decide) (by decide) ?_
    show Steps p.tables e below (s₁.setTop (mkF m 25 #[.val (.ref a1), .val (.int p2), .val (.int p3), .val (.int p4), .val (.int p5)] [])) _
    refine XS.iconst X0.here hx rfl (hb hby d3_25) ?_
    show Steps p.tables e below (s₁.setTop (mkF m 26 #[.val (.ref a1), .val (.int p2), .val (.int p3), .val (.int p4), .val (.int p5)] [(.int (0 : Int32))])) _
    exact retN X0 hx (t := .boolean) Bd.returns (by simp) (hb hby d3_26) hr
  · show Q3 Z a1 p2 p3 p4 p5 0 h0 n0 _ s₁.heap _
    rw [e0]
    exact ⟨rfl, N0, rfl⟩
set_option maxRecDepth 65536 in
set_option maxHeartbeats 40000000 in
theorem rm3_fff (l : Launch) (Z : State) (a0 : Array Value) (hw : ∀ d ∈ tables_1, d.before a0 Z = true) (ws : List Jvm.Cond) (a1 : Addr) (p2 : Int32) (p3 : Int32) (p4 : Int32) (p5 : Int32) (w6 : Int32) (cl_a1 : Cell) (h0 : Heap) (n0 : Nat) (Z0 : n0 ≤ h0.size) (Ar_a1 : Arr Z h0 a1 cl_a1 .byte) (hin17 : ¬ ((p2 + p5) < 0 ∨ cl_a1.slots.size ≤ ((p2 + p5)).toNatClampNeg)) (hat17 : cl_a1.slots[((p2 + p5)).toNatClampNeg]? = some (.int w6)) (hc3 : ¬ (p5 < p3)) (hc9 : p5 < p4) (hc18 : w6 = (0 : Int32)) :
    MetFree l (⟨"com/example/transmute/transmute/BinaryFormZeroByteAtPinLaw", "z", "([BIIII)Z"⟩ : MethodName) (head1 (Jvm.Cond.code (⟨"com/example/transmute/transmute/BinaryFormZeroByteAtPinLaw", "z", "([BIIII)Z"⟩ : MethodName) method_4_code 5 (some .boolean) :: ws) ({ frames := 0, cells := 0, slots := 0, locals := 0 } : Room)) (fun a U => a = #[(.ref a1), (.int p2), (.int p3), (.int p4), (.int p5)] ∧ Z.Warmed39 U.vm ∧ U.heap = h0) (fun _ _ _ _ _ => True) (fun _ U o U' => ∃ v L, o = .returned v ∧ Q3 Z a1 p2 p3 p4 p5 1 h0 n0 v U'.heap L ∧ FrameEnd U o U' L ({ frames := 0, cells := 0, slots := 0, locals := 0 } : Room).cells ({ frames := 0, cells := 0, slots := 0, locals := 0 } : Room).slots) := by
  refine MetFree.of_bodySF (plainFor_of_name pn_3) hisR ?_
  intro p e s m args below meth c s₁ Bd hml0 hP hK
  obtain ⟨rfl, hZ, hh⟩ := hP
  have hx := Bd.exec
  have hby := Bd.bytes
  have hml : c.maxLocals = 5 := hml0
  have hown : s.vm.findClass "com/example/transmute/transmute/BinaryFormZeroByteAtPinLaw" = some m.cls := findClass_of_methodNamed Bd.named
  have hnm := (name_of_methodNamed Bd.named Bd.method).1
  have X0 : Stand p l e ({ frames := 0, cells := 0, slots := 0, locals := 0 } : Room) s m #[(.ref a1), (.int p2), (.int p3), (.int p4), (.int p5)] below meth c s₁ [] 0 0 := Stand.of_body Bd
  have e0 : s₁.heap = h0 := by rw [← hh, Bd.state]; rfl
  have N0 := Fr.nil n0
  have pre0 : ∀ t, Steps p.tables e below (s₁.setTop (mkF m 0 #[.val (.ref a1), .val (.int p2), .val (.int p3), .val (.int p4), .val (.int p5)] [])) t → Steps p.tables e below (s₁.setTop (entryFrame m #[(.ref a1), (.int p2), (.int p3), (.int p4), (.int p5)] 5)) t := fun t k => castTop (ef_3 m a1 p2 p3 p4 p5) k

  obtain ⟨fs, hr, hrun, hended, hW, hsame⟩ := X0.leave (v := some (.int (1 : Int32))) (fun h => by rw [Bd.returns] at h; cases h)
  refine ⟨_, _, pre0 _ ?_, hrun, hended, _, _, rfl, ?_, ⟨_, rfl⟩, hW, hsame.mono (by decide) (by decide)⟩
  · show Steps p.tables e below (s₁.setTop (mkF m 0 #[.val (.ref a1), .val (.int p2), .val (.int p3), .val (.int p4), .val (.int p5)] [])) _
    refine XS.iload X0.here hx rfl (hb hby d3_0) rfl ?_
    show Steps p.tables e below (s₁.setTop (mkF m 2 #[.val (.ref a1), .val (.int p2), .val (.int p3), .val (.int p4), .val (.int p5)] [(.int p5)])) _
    refine XS.iloadN X0.here hx rfl (hb hby d3_2) rfl ?_
    show Steps p.tables e below (s₁.setTop (mkF m 3 #[.val (.ref a1), .val (.int p2), .val (.int p3), .val (.int p4), .val (.int p5)] [(.int p3), (.int p5)])) _
    refine XS.icmpNo X0.here hx rfl (hb hby d3_3) rfl (flt hc3).1 ?_
    show Steps p.tables e below (s₁.setTop (mkF m 6 #[.val (.ref a1), .val (.int p2), .val (.int p3), .val (.int p4), .val (.int p5)] [])) _
    refine XS.iload X0.here hx rfl (hb hby d3_6) rfl ?_
    show Steps p.tables e below (s₁.setTop (mkF m 8 #[.val (.ref a1), .val (.int p2), .val (.int p3), .val (.int p4), .val (.int p5)] [(.int p5)])) _
    refine XS.iloadN X0.here hx rfl (hb hby d3_8) rfl ?_
    show Steps p.tables e below (s₁.setTop (mkF m 9 #[.val (.ref a1), .val (.int p2), .val (.int p3), .val (.int p4), .val (.int p5)] [(.int p4), (.int p5)])) _
    refine XS.icmpNo X0.here hx rfl (hb hby d3_9) rfl (tlt hc9).2.1 ?_
    show Steps p.tables e below (s₁.setTop (mkF m 12 #[.val (.ref a1), .val (.int p2), .val (.int p3), .val (.int p4), .val (.int p5)] [])) _
    refine XS.aloadN X0.here hx rfl (hb hby d3_12) rfl rfl ?_
    show Steps p.tables e below (s₁.setTop (mkF m 13 #[.val (.ref a1), .val (.int p2), .val (.int p3), .val (.int p4), .val (.int p5)] [(.ref a1)])) _
    refine XS.iloadN X0.here hx rfl (hb hby d3_13) rfl ?_
    show Steps p.tables e below (s₁.setTop (mkF m 14 #[.val (.ref a1), .val (.int p2), .val (.int p3), .val (.int p4), .val (.int p5)] [(.int p2), (.ref a1)])) _
    refine XS.iload X0.here hx rfl (hb hby d3_14) rfl ?_
    show Steps p.tables e below (s₁.setTop (mkF m 16 #[.val (.ref a1), .val (.int p2), .val (.int p3), .val (.int p4), .val (.int p5)] [(.int p5), (.int p2), (.ref a1)])) _
    refine XS.iadd X0.here hx rfl (hb hby d3_16) rfl ?_
    show Steps p.tables e below (s₁.setTop (mkF m 17 #[.val (.ref a1), .val (.int p2), .val (.int p3), .val (.int p4), .val (.int p5)] [(.int (p2 + p5)), (.ref a1)])) _
    refine X0.baloadBytes hx (j := (p2 + p5)) (v := (.int w6)) (by rw [e0]; exact Ar_a1.1) (State.isArrayOf_alike hZ.alike Ar_a1.2.1) Ar_a1.2.2 hin17 hat17 (g := (mkF m 17 #[.val (.ref a1), .val (.int p2), .val (.int p3), .val (.int p4), .val (.int p5)] [(.int (p2 + p5)), (.ref a1)])) rfl rfl (hb hby d3_17) _ ?_
    show Steps p.tables e below (s₁.setTop (mkF m 18 #[.val (.ref a1), .val (.int p2), .val (.int p3), .val (.int p4), .val (.int p5)] [(.int w6)])) _
    refine XS.ifNo X0.here hx rfl (hb hby d3_18) rfl ((if0 _ _).trans (teq hc18).2) ?_
    show Steps p.tables e below (s₁.setTop (mkF m 21 #[.val (.ref a1), .val (.int p2), .val (.int p3), .val (.int p4), .val (.int p5)] [])) _
    refine XS.iconst X0.here hx rfl (hb hby d3_21) ?_
    show Steps p.tables e below (s₁.setTop (mkF m 22 #[.val (.ref a1), .val (.int p2), .val (.int p3), .val (.int p4), .val (.int p5)] [(.int (1 : Int32))])) _
    refine XS.goto X0.here hx rfl (pc0 := 22) (pc' := 26) rfl (hb hby d3_22) (by decide) (by decide) ?_
    show Steps p.tables e below (s₁.setTop (mkF m 26 #[.val (.ref a1), .val (.int p2), .val (.int p3), .val (.int p4), .val (.int p5)] [(.int (1 : Int32))])) _
    exact retN X0 hx (t := .boolean) Bd.returns (by simp) (hb hby d3_26) hr
  · show Q3 Z a1 p2 p3 p4 p5 1 h0 n0 _ s₁.heap _
    rw [e0]
    exact ⟨rfl, N0, rfl⟩
set_option maxRecDepth 65536 in
theorem rm3 (l : Launch) (Z : State) (a0 : Array Value) (hw : ∀ d ∈ tables_1, d.before a0 Z = true) (ws : List Jvm.Cond) (a1 : Addr) (p2 : Int32) (p3 : Int32) (p4 : Int32) (p5 : Int32) (O Fm Ln P : Nat) (kA : ClassId) (vs : List Value) (h0 : Heap) (n0 : Nat) (Z0 : n0 ≤ h0.size) (eO : p2 = Int32.ofNat O) (eF : p3 = Int32.ofNat Fm) (eL : p4 = Int32.ofNat Ln) (eP : p5 = Int32.ofNat P) (hP : P < 6) (hO : O + Ln ≤ 6) (hF : Fm ≤ 7) (V : Arv Z h0 a1 kA .byte (6 : Int32) vs (.int (0 : Int32))) :
    MetFree l (⟨"com/example/transmute/transmute/BinaryFormZeroByteAtPinLaw", "z", "([BIIII)Z"⟩ : MethodName) (head1 (Jvm.Cond.code (⟨"com/example/transmute/transmute/BinaryFormZeroByteAtPinLaw", "z", "([BIIII)Z"⟩ : MethodName) method_4_code 5 (some .boolean) :: ws) ({ frames := 0, cells := 0, slots := 0, locals := 0 } : Room)) (fun a U => a = #[(.ref a1), (.int p2), (.int p3), (.int p4), (.int p5)] ∧ Z.Warmed39 U.vm ∧ U.heap = h0) (fun _ _ _ _ _ => True) (fun _ U o U' => ∃ v L, o = .returned v ∧ Q3 Z a1 p2 p3 p4 p5 (own_zv (own_wv vs) O Fm Ln P) h0 n0 v U'.heap L ∧ FrameEnd U o U' L ({ frames := 0, cells := 0, slots := 0, locals := 0 } : Room).cells ({ frames := 0, cells := 0, slots := 0, locals := 0 } : Room).slots) := by
  obtain ⟨cl, Ar, -, S, -, H, G⟩ := V
  have e1 : p5 < p3 ↔ P < Fm := by rw [eP, eF, own_lt _ _ (by omega) (by omega)]
  have e2 : p5 < p4 ↔ P < Ln := by rw [eP, eL, own_lt _ _ (by omega) (by omega)]
  unfold own_zv
  by_cases c1 : P < Fm
  · rw [if_pos c1]; exact rm3_t l Z a0 hw ws a1 p2 p3 p4 p5 h0 n0 Z0 (e1.mpr c1)
  · rw [if_neg c1]
    by_cases c2 : P < Ln
    · rw [if_pos c2]
      have es : p2 + p5 = Int32.ofNat (O + P) := by rw [eO, eP, ← Int32.ofNat_add]
      have hin : ¬ ((p2 + p5) < 0 ∨ cl.slots.size ≤ (p2 + p5).toNatClampNeg) := inb_of S (by rw [es]; exact own_pl _ (by omega))
      have hat : cl.slots[(p2 + p5).toNatClampNeg]? = some (.int (own_wv vs (O + P))) := Has.at H hin (by
        rw [es, own_cl _ (by omega)]
        exact own_wv_at vs (O + P) (G _ (by rw [S]; exact (show O + P < 6 by omega))))
      by_cases hz : own_wv vs (O + P) = (0 : Int32)
      · rw [if_pos hz]; exact rm3_fff l Z a0 hw ws a1 p2 p3 p4 p5 (own_wv vs (O + P)) cl h0 n0 Z0 Ar hin hat (fun h => c1 (e1.mp h)) (e2.mpr c2) hz
      · rw [if_neg hz]; exact rm3_fft l Z a0 hw ws a1 p2 p3 p4 p5 (own_wv vs (O + P)) cl h0 n0 Z0 Ar hin hat (fun h => c1 (e1.mp h)) (e2.mpr c2) hz
    · rw [if_neg c2]; exact rm3_ft l Z a0 hw ws a1 p2 p3 p4 p5 h0 n0 Z0 (fun h => c1 (e1.mp h)) (fun h => c2 (e2.mp h))
theorem pn_0 : plainName "com/example/transmute/transmute/BinaryFormZeroByteAtPinLaw" = true := by first | (simp [plainName, overriddenIn]; done) | decide +kernel
theorem pd_0_0 : parseMethodDescriptor "(JII)B" = some ⟨[.long, .int, .int], some .byte⟩ := by decide +kernel
theorem pd_0_1 : parseMethodDescriptor "([BIII)I" = some ⟨[(.array .byte), .int, .int, .int], some .int⟩ := by decide +kernel
theorem pd_0_2 : parseMethodDescriptor "([BIIII)Z" = some ⟨[(.array .byte), .int, .int, .int, .int], some .boolean⟩ := by decide +kernel
theorem ef_0 (m : MethodId) (x0 : Int64) (x1 : Int32) (x2 : Int32) (x3 : Int32) (x4 : Int32) : entryFrame m #[(.long x0), (.int x1), (.int x2), (.int x3), (.int x4)] maxLocals = mkF m 0 #[.val (.long x0), .second, .val (.int x1), .val (.int x2), .val (.int x3), .val (.int x4), .unset, .unset, .unset, .unset, .unset, .unset] [] := by first | (simp [entryFrame, mkF, argsToLocals, Value.category, maxLocals]; done) | rfl
def Q0 (Z : State) (q1 : Int64) (p2 : Int32) (p3 : Int32) (p4 : Int32) (p5 : Int32) (h0 : Heap) (n0 : Nat) (v : Option Value) (h : Heap) (L : List Loc) : Prop := v = some (.int (1 : Int32)) ∧ Fr n0 L
set_option maxRecDepth 65536 in
set_option maxHeartbeats 40000000 in
theorem rm0 (l : Launch) (Z : State) (a0 : Array Value) (hw : ∀ d ∈ tables_1, d.before a0 Z = true) (ws : List Jvm.Cond) (q1 : Int64) (p2 : Int32) (p3 : Int32) (p4 : Int32) (p5 : Int32) (h0 : Heap) (n0 : Nat) (Z0 : n0 ≤ h0.size) :
    MetFree l x (head1 (Jvm.Cond.code x code maxLocals ret :: ws) room_1) (fun a U => a = #[(.long q1), (.int p2), (.int p3), (.int p4), (.int p5)] ∧ Z.Warmed39 U.vm ∧ U.heap = h0) (fun _ _ _ _ _ => True) (fun _ U o U' => ∃ v L, o = .returned v ∧ Q0 Z q1 p2 p3 p4 p5 h0 n0 v U'.heap L ∧ FrameEnd U o U' L room_1.cells room_1.slots) := by
  refine MetFree.of_bodySF (plainFor_of_name pn_0) hisR ?_
  intro p e s m args below meth c s₁ Bd hml0 hP hK
  obtain ⟨rfl, hZ, hh⟩ := hP
  have hx := Bd.exec
  have hby := Bd.bytes
  have hml : c.maxLocals = 12 := hml0
  have hown : s.vm.findClass "com/example/transmute/transmute/BinaryFormZeroByteAtPinLaw" = some m.cls := findClass_of_methodNamed Bd.named
  have hnm := (name_of_methodNamed Bd.named Bd.method).1
  have X0 : Stand p l e room_1 s m #[(.long q1), (.int p2), (.int p3), (.int p4), (.int p5)] below meth c s₁ [] 0 0 := Stand.of_body Bd
  have e0 : s₁.heap = h0 := by rw [← hh, Bd.state]; rfl
  have N0 := Fr.nil n0
  have pre0 : ∀ t, Steps p.tables e below (s₁.setTop (mkF m 0 #[.val (.long q1), .second, .val (.int p2), .val (.int p3), .val (.int p4), .val (.int p5), .unset, .unset, .unset, .unset, .unset, .unset] [])) t → Steps p.tables e below (s₁.setTop (entryFrame m #[(.long q1), (.int p2), (.int p3), (.int p4), (.int p5)] maxLocals)) t := fun t k => castTop (ef_0 m q1 p2 p3 p4 p5) k
  obtain ⟨O, hO, eO⟩ := own_mod p3 7 (by decide) (by decide)
  have eO : ((p3 &&& (2147483647 : Int32)) % (7 : Int32)) = Int32.ofNat O := eO
  obtain ⟨Ln, hL, eL⟩ := own_mod p5 (7 - O) (by omega) (by omega)
  have e7 : (7 : Int32) - ((p3 &&& (2147483647 : Int32)) % (7 : Int32)) = Int32.ofNat (7 - O) := by rw [eO]; exact own_seven O hO
  have hnz85 : ¬ (((7 : Int32) - ((p3 &&& (2147483647 : Int32)) % (7 : Int32))) = (0 : Int32)) := by rw [e7]; exact own_nz _ (by omega) (by omega)
  have eL : ((p5 &&& (2147483647 : Int32)) % ((7 : Int32) - ((p3 &&& (2147483647 : Int32)) % (7 : Int32)))) = Int32.ofNat Ln := by rw [e7]; exact eL
  obtain ⟨Fm, hF, eF⟩ := own_mod p4 8 (by decide) (by decide)
  have eF : ((p4 &&& (2147483647 : Int32)) % (8 : Int32)) = Int32.ofNat Fm := eF
  obtain ⟨T6, h6, k6, X6, e6, E6, A6, st6⟩ := newP X0 hx hZ (hw _ (List.mem_of_getElem? (i := 0) rfl)) e0 (g := (mkF m 2 #[.val (.long q1), .second, .val (.int p2), .val (.int p3), .val (.int p4), .val (.int p5), .unset, .unset, .unset, .unset, .unset, .unset] [(.int (6 : Int32))])) rfl (hb hby at_2) rfl (by decide) (cap := 6) (by decide) (by decide) (by decide) (by decide)
  obtain ⟨b6, g6⟩ : ∃ z, z = h0.size := ⟨_, rfl⟩
  rw [← g6] at A6 st6
  have V_b6 : Arv Z h6 b6 k6 .byte (6 : Int32) [(.int (0 : Int32)), (.int (0 : Int32)), (.int (0 : Int32)), (.int (0 : Int32)), (.int (0 : Int32)), (.int (0 : Int32))] (.int (0 : Int32)) := (Arv.new A6 (by decide)).pad (pad_rep [] (.int (0 : Int32)) 6)
  have g_b6 : n0 ≤ b6 := Nat.le_trans Z0 (Nat.le_of_eq g6.symm)
  have sz_b6 : h0.size ≤ b6 := (Nat.le_trans (Keep.refl h0 []).1 (Nat.le_of_eq g6.symm))
  have K6 : Keep h0 h6 [] := (Keep.refl h0 []).ext E6
  obtain ⟨_, _, ⟨T7, L7, k7, n7⟩, -, X7, ⟨Lc7, hQ7, l7, y7, z7⟩, st7⟩ := Jvm.LawKit.callS X6 hx (y := (⟨"com/example/transmute/transmute/BinaryFormZeroByteAtPinLaw", "pick", "(JII)B"⟩ : MethodName)) hown (mvT hZ (hw _ (List.mem_of_getElem? (i := 1) rfl))) (mvT hZ (hw _ (List.mem_of_getElem? (i := 2) rfl))) (mvT hZ (hw _ (List.mem_of_getElem? (i := 3) rfl))) (mvT hZ (hw _ (List.mem_of_getElem? (i := 4) rfl))) (by decide) (backOf (W := 2) (rm1 l Z a0 hw [] q1 p2 (0 : Int32) h6 n0 (Nat.le_trans Z0 K6.1)) hZ (hw _ (List.mem_of_getElem? (i := 4) rfl)) (hw _ (List.mem_of_getElem? (i := 3) rfl)) (by decide) (by decide)) (g := (mkF m 12 #[.val (.long q1), .second, .val (.int p2), .val (.int p3), .val (.int p4), .val (.int p5), .val (.ref b6), .unset, .unset, .unset, .unset, .unset] [(.int (0 : Int32)), (.int p2), (.long q1), (.int (0 : Int32)), (.ref b6)])) rfl (by rw [hml]; rfl) (argsL := [(.long q1), (.int p2), (.int (0 : Int32))]) (rest := [(.int (0 : Int32)), (.ref b6)]) (lenOf pd_0_0 rfl) rfl (by show 2 * 0 + _ ≤ _; exact Nat.le_of_eq rfl) (hb hby at_12) (fun _ _ => ⟨rfl, e6, (by decide : 1 + 0 ≤ _), (by decide : 6 + 0 ≤ _)⟩)
  dsimp only [Pt.U, Pt.locs, Pt.cells, Pt.slots] at X7 l7 y7 z7 st7 hQ7
  subst l7 y7 z7
  obtain ⟨rfl, N7q, eh7⟩ := hQ7
  have N7 := Fr.app N0 N7q
  have kc7 : Keep h6 T7.heap [] := by rw [eh7]; exact Keep.refl _ _
  have kh7 : Keep h0 T7.heap [] := by rw [eh7]; exact K6
  obtain ⟨cl_b6_15, Ar_b6, q_b6, S_b6, N_b6, H_b6, G_b6⟩ := (V_b6.keep kc7 nin0)
  have hin15 : ¬ ((0 : Int32) < 0 ∨ cl_b6_15.slots.size ≤ ((0 : Int32)).toNatClampNeg) := inb_of S_b6 ⟨by decide, by decide⟩
  obtain ⟨T8, h8, X8, e8, W8, st8⟩ := stB X7 hx hZ rfl Ar_b6 (j := (0 : Int32)) hin15 (g := (mkF m 15 #[.val (.long q1), .second, .val (.int p2), .val (.int p3), .val (.int p4), .val (.int p5), .val (.ref b6), .unset, .unset, .unset, .unset, .unset] [(.int (own_pick q1 p2 (0 : Int32))), (.int (0 : Int32)), (.ref b6)])) rfl rfl (hb hby at_15)
  have V_b6_8 := Arv.set Ar_b6 q_b6 S_b6 N_b6 H_b6 G_b6 (fits_nar_byte _) W8 0 rfl (Nat.le_of_ble_eq_true rfl)
  have K8 : Keep h0 h8 [] := kh7.wr W8 (Or.inr sz_b6)
  have N8 := Fr.snoc X8 N7 g_b6
  obtain ⟨_, _, ⟨T9, L9, k9, n9⟩, -, X9, ⟨Lc9, hQ9, l9, y9, z9⟩, st9⟩ := Jvm.LawKit.callS X8 hx (y := (⟨"com/example/transmute/transmute/BinaryFormZeroByteAtPinLaw", "pick", "(JII)B"⟩ : MethodName)) hown (mvT hZ (hw _ (List.mem_of_getElem? (i := 1) rfl))) (mvT hZ (hw _ (List.mem_of_getElem? (i := 2) rfl))) (mvT hZ (hw _ (List.mem_of_getElem? (i := 3) rfl))) (mvT hZ (hw _ (List.mem_of_getElem? (i := 4) rfl))) (by decide) (backOf (W := 2) (rm1 l Z a0 hw [] q1 p2 (1 : Int32) h8 n0 (Nat.le_trans Z0 K8.1)) hZ (hw _ (List.mem_of_getElem? (i := 4) rfl)) (hw _ (List.mem_of_getElem? (i := 3) rfl)) (by decide) (by decide)) (g := (mkF m 22 #[.val (.long q1), .second, .val (.int p2), .val (.int p3), .val (.int p4), .val (.int p5), .val (.ref b6), .unset, .unset, .unset, .unset, .unset] [(.int (1 : Int32)), (.int p2), (.long q1), (.int (1 : Int32)), (.ref b6)])) rfl (by rw [hml]; rfl) (argsL := [(.long q1), (.int p2), (.int (1 : Int32))]) (rest := [(.int (1 : Int32)), (.ref b6)]) (lenOf pd_0_0 rfl) rfl (by show 2 * 0 + _ ≤ _; exact Nat.le_of_eq rfl) (hb hby at_22) (fun _ _ => ⟨rfl, e8, (by decide : 1 + 0 ≤ _), (by decide : 6 + 0 ≤ _)⟩)
  dsimp only [Pt.U, Pt.locs, Pt.cells, Pt.slots] at X9 l9 y9 z9 st9 hQ9
  subst l9 y9 z9
  obtain ⟨rfl, N9q, eh9⟩ := hQ9
  have N9 := Fr.app N8 N9q
  have kc9 : Keep h8 T9.heap [] := by rw [eh9]; exact Keep.refl _ _
  have kh9 : Keep h0 T9.heap [] := by rw [eh9]; exact K8
  obtain ⟨cl_b6_25, Ar_b6, q_b6, S_b6, N_b6, H_b6, G_b6⟩ := (V_b6_8.keep kc9 nin0)
  have hin25 : ¬ ((1 : Int32) < 0 ∨ cl_b6_25.slots.size ≤ ((1 : Int32)).toNatClampNeg) := inb_of S_b6 ⟨by decide, by decide⟩
  obtain ⟨T10, h10, X10, e10, W10, st10⟩ := stB X9 hx hZ rfl Ar_b6 (j := (1 : Int32)) hin25 (g := (mkF m 25 #[.val (.long q1), .second, .val (.int p2), .val (.int p3), .val (.int p4), .val (.int p5), .val (.ref b6), .unset, .unset, .unset, .unset, .unset] [(.int (own_pick q1 p2 (1 : Int32))), (.int (1 : Int32)), (.ref b6)])) rfl rfl (hb hby at_25)
  have V_b6_10 := Arv.set Ar_b6 q_b6 S_b6 N_b6 H_b6 G_b6 (fits_nar_byte _) W10 1 rfl (Nat.le_of_ble_eq_true rfl)
  have K10 : Keep h0 h10 [] := kh9.wr W10 (Or.inr sz_b6)
  have N10 := Fr.snoc X10 N9 g_b6
  obtain ⟨_, _, ⟨T11, L11, k11, n11⟩, -, X11, ⟨Lc11, hQ11, l11, y11, z11⟩, st11⟩ := Jvm.LawKit.callS X10 hx (y := (⟨"com/example/transmute/transmute/BinaryFormZeroByteAtPinLaw", "pick", "(JII)B"⟩ : MethodName)) hown (mvT hZ (hw _ (List.mem_of_getElem? (i := 1) rfl))) (mvT hZ (hw _ (List.mem_of_getElem? (i := 2) rfl))) (mvT hZ (hw _ (List.mem_of_getElem? (i := 3) rfl))) (mvT hZ (hw _ (List.mem_of_getElem? (i := 4) rfl))) (by decide) (backOf (W := 2) (rm1 l Z a0 hw [] q1 p2 (2 : Int32) h10 n0 (Nat.le_trans Z0 K10.1)) hZ (hw _ (List.mem_of_getElem? (i := 4) rfl)) (hw _ (List.mem_of_getElem? (i := 3) rfl)) (by decide) (by decide)) (g := (mkF m 32 #[.val (.long q1), .second, .val (.int p2), .val (.int p3), .val (.int p4), .val (.int p5), .val (.ref b6), .unset, .unset, .unset, .unset, .unset] [(.int (2 : Int32)), (.int p2), (.long q1), (.int (2 : Int32)), (.ref b6)])) rfl (by rw [hml]; rfl) (argsL := [(.long q1), (.int p2), (.int (2 : Int32))]) (rest := [(.int (2 : Int32)), (.ref b6)]) (lenOf pd_0_0 rfl) rfl (by show 2 * 0 + _ ≤ _; exact Nat.le_of_eq rfl) (hb hby at_32) (fun _ _ => ⟨rfl, e10, (by decide : 1 + 0 ≤ _), (by decide : 6 + 0 ≤ _)⟩)
  dsimp only [Pt.U, Pt.locs, Pt.cells, Pt.slots] at X11 l11 y11 z11 st11 hQ11
  subst l11 y11 z11
  obtain ⟨rfl, N11q, eh11⟩ := hQ11
  have N11 := Fr.app N10 N11q
  have kc11 : Keep h10 T11.heap [] := by rw [eh11]; exact Keep.refl _ _
  have kh11 : Keep h0 T11.heap [] := by rw [eh11]; exact K10
  obtain ⟨cl_b6_35, Ar_b6, q_b6, S_b6, N_b6, H_b6, G_b6⟩ := (V_b6_10.keep kc11 nin0)
  have hin35 : ¬ ((2 : Int32) < 0 ∨ cl_b6_35.slots.size ≤ ((2 : Int32)).toNatClampNeg) := inb_of S_b6 ⟨by decide, by decide⟩
  obtain ⟨T12, h12, X12, e12, W12, st12⟩ := stB X11 hx hZ rfl Ar_b6 (j := (2 : Int32)) hin35 (g := (mkF m 35 #[.val (.long q1), .second, .val (.int p2), .val (.int p3), .val (.int p4), .val (.int p5), .val (.ref b6), .unset, .unset, .unset, .unset, .unset] [(.int (own_pick q1 p2 (2 : Int32))), (.int (2 : Int32)), (.ref b6)])) rfl rfl (hb hby at_35)
  have V_b6_12 := Arv.set Ar_b6 q_b6 S_b6 N_b6 H_b6 G_b6 (fits_nar_byte _) W12 2 rfl (Nat.le_of_ble_eq_true rfl)
  have K12 : Keep h0 h12 [] := kh11.wr W12 (Or.inr sz_b6)
  have N12 := Fr.snoc X12 N11 g_b6
  obtain ⟨_, _, ⟨T13, L13, k13, n13⟩, -, X13, ⟨Lc13, hQ13, l13, y13, z13⟩, st13⟩ := Jvm.LawKit.callS X12 hx (y := (⟨"com/example/transmute/transmute/BinaryFormZeroByteAtPinLaw", "pick", "(JII)B"⟩ : MethodName)) hown (mvT hZ (hw _ (List.mem_of_getElem? (i := 1) rfl))) (mvT hZ (hw _ (List.mem_of_getElem? (i := 2) rfl))) (mvT hZ (hw _ (List.mem_of_getElem? (i := 3) rfl))) (mvT hZ (hw _ (List.mem_of_getElem? (i := 4) rfl))) (by decide) (backOf (W := 2) (rm1 l Z a0 hw [] q1 p2 (3 : Int32) h12 n0 (Nat.le_trans Z0 K12.1)) hZ (hw _ (List.mem_of_getElem? (i := 4) rfl)) (hw _ (List.mem_of_getElem? (i := 3) rfl)) (by decide) (by decide)) (g := (mkF m 42 #[.val (.long q1), .second, .val (.int p2), .val (.int p3), .val (.int p4), .val (.int p5), .val (.ref b6), .unset, .unset, .unset, .unset, .unset] [(.int (3 : Int32)), (.int p2), (.long q1), (.int (3 : Int32)), (.ref b6)])) rfl (by rw [hml]; rfl) (argsL := [(.long q1), (.int p2), (.int (3 : Int32))]) (rest := [(.int (3 : Int32)), (.ref b6)]) (lenOf pd_0_0 rfl) rfl (by show 2 * 0 + _ ≤ _; exact Nat.le_of_eq rfl) (hb hby at_42) (fun _ _ => ⟨rfl, e12, (by decide : 1 + 0 ≤ _), (by decide : 6 + 0 ≤ _)⟩)
  dsimp only [Pt.U, Pt.locs, Pt.cells, Pt.slots] at X13 l13 y13 z13 st13 hQ13
  subst l13 y13 z13
  obtain ⟨rfl, N13q, eh13⟩ := hQ13
  have N13 := Fr.app N12 N13q
  have kc13 : Keep h12 T13.heap [] := by rw [eh13]; exact Keep.refl _ _
  have kh13 : Keep h0 T13.heap [] := by rw [eh13]; exact K12
  obtain ⟨cl_b6_45, Ar_b6, q_b6, S_b6, N_b6, H_b6, G_b6⟩ := (V_b6_12.keep kc13 nin0)
  have hin45 : ¬ ((3 : Int32) < 0 ∨ cl_b6_45.slots.size ≤ ((3 : Int32)).toNatClampNeg) := inb_of S_b6 ⟨by decide, by decide⟩
  obtain ⟨T14, h14, X14, e14, W14, st14⟩ := stB X13 hx hZ rfl Ar_b6 (j := (3 : Int32)) hin45 (g := (mkF m 45 #[.val (.long q1), .second, .val (.int p2), .val (.int p3), .val (.int p4), .val (.int p5), .val (.ref b6), .unset, .unset, .unset, .unset, .unset] [(.int (own_pick q1 p2 (3 : Int32))), (.int (3 : Int32)), (.ref b6)])) rfl rfl (hb hby at_45)
  have V_b6_14 := Arv.set Ar_b6 q_b6 S_b6 N_b6 H_b6 G_b6 (fits_nar_byte _) W14 3 rfl (Nat.le_of_ble_eq_true rfl)
  have K14 : Keep h0 h14 [] := kh13.wr W14 (Or.inr sz_b6)
  have N14 := Fr.snoc X14 N13 g_b6
  obtain ⟨_, _, ⟨T15, L15, k15, n15⟩, -, X15, ⟨Lc15, hQ15, l15, y15, z15⟩, st15⟩ := Jvm.LawKit.callS X14 hx (y := (⟨"com/example/transmute/transmute/BinaryFormZeroByteAtPinLaw", "pick", "(JII)B"⟩ : MethodName)) hown (mvT hZ (hw _ (List.mem_of_getElem? (i := 1) rfl))) (mvT hZ (hw _ (List.mem_of_getElem? (i := 2) rfl))) (mvT hZ (hw _ (List.mem_of_getElem? (i := 3) rfl))) (mvT hZ (hw _ (List.mem_of_getElem? (i := 4) rfl))) (by decide) (backOf (W := 2) (rm1 l Z a0 hw [] q1 p2 (4 : Int32) h14 n0 (Nat.le_trans Z0 K14.1)) hZ (hw _ (List.mem_of_getElem? (i := 4) rfl)) (hw _ (List.mem_of_getElem? (i := 3) rfl)) (by decide) (by decide)) (g := (mkF m 52 #[.val (.long q1), .second, .val (.int p2), .val (.int p3), .val (.int p4), .val (.int p5), .val (.ref b6), .unset, .unset, .unset, .unset, .unset] [(.int (4 : Int32)), (.int p2), (.long q1), (.int (4 : Int32)), (.ref b6)])) rfl (by rw [hml]; rfl) (argsL := [(.long q1), (.int p2), (.int (4 : Int32))]) (rest := [(.int (4 : Int32)), (.ref b6)]) (lenOf pd_0_0 rfl) rfl (by show 2 * 0 + _ ≤ _; exact Nat.le_of_eq rfl) (hb hby at_52) (fun _ _ => ⟨rfl, e14, (by decide : 1 + 0 ≤ _), (by decide : 6 + 0 ≤ _)⟩)
  dsimp only [Pt.U, Pt.locs, Pt.cells, Pt.slots] at X15 l15 y15 z15 st15 hQ15
  subst l15 y15 z15
  obtain ⟨rfl, N15q, eh15⟩ := hQ15
  have N15 := Fr.app N14 N15q
  have kc15 : Keep h14 T15.heap [] := by rw [eh15]; exact Keep.refl _ _
  have kh15 : Keep h0 T15.heap [] := by rw [eh15]; exact K14
  obtain ⟨cl_b6_55, Ar_b6, q_b6, S_b6, N_b6, H_b6, G_b6⟩ := (V_b6_14.keep kc15 nin0)
  have hin55 : ¬ ((4 : Int32) < 0 ∨ cl_b6_55.slots.size ≤ ((4 : Int32)).toNatClampNeg) := inb_of S_b6 ⟨by decide, by decide⟩
  obtain ⟨T16, h16, X16, e16, W16, st16⟩ := stB X15 hx hZ rfl Ar_b6 (j := (4 : Int32)) hin55 (g := (mkF m 55 #[.val (.long q1), .second, .val (.int p2), .val (.int p3), .val (.int p4), .val (.int p5), .val (.ref b6), .unset, .unset, .unset, .unset, .unset] [(.int (own_pick q1 p2 (4 : Int32))), (.int (4 : Int32)), (.ref b6)])) rfl rfl (hb hby at_55)
  have V_b6_16 := Arv.set Ar_b6 q_b6 S_b6 N_b6 H_b6 G_b6 (fits_nar_byte _) W16 4 rfl (Nat.le_of_ble_eq_true rfl)
  have K16 : Keep h0 h16 [] := kh15.wr W16 (Or.inr sz_b6)
  have N16 := Fr.snoc X16 N15 g_b6
  obtain ⟨_, _, ⟨T17, L17, k17, n17⟩, -, X17, ⟨Lc17, hQ17, l17, y17, z17⟩, st17⟩ := Jvm.LawKit.callS X16 hx (y := (⟨"com/example/transmute/transmute/BinaryFormZeroByteAtPinLaw", "pick", "(JII)B"⟩ : MethodName)) hown (mvT hZ (hw _ (List.mem_of_getElem? (i := 1) rfl))) (mvT hZ (hw _ (List.mem_of_getElem? (i := 2) rfl))) (mvT hZ (hw _ (List.mem_of_getElem? (i := 3) rfl))) (mvT hZ (hw _ (List.mem_of_getElem? (i := 4) rfl))) (by decide) (backOf (W := 2) (rm1 l Z a0 hw [] q1 p2 (5 : Int32) h16 n0 (Nat.le_trans Z0 K16.1)) hZ (hw _ (List.mem_of_getElem? (i := 4) rfl)) (hw _ (List.mem_of_getElem? (i := 3) rfl)) (by decide) (by decide)) (g := (mkF m 62 #[.val (.long q1), .second, .val (.int p2), .val (.int p3), .val (.int p4), .val (.int p5), .val (.ref b6), .unset, .unset, .unset, .unset, .unset] [(.int (5 : Int32)), (.int p2), (.long q1), (.int (5 : Int32)), (.ref b6)])) rfl (by rw [hml]; rfl) (argsL := [(.long q1), (.int p2), (.int (5 : Int32))]) (rest := [(.int (5 : Int32)), (.ref b6)]) (lenOf pd_0_0 rfl) rfl (by show 2 * 0 + _ ≤ _; exact Nat.le_of_eq rfl) (hb hby at_62) (fun _ _ => ⟨rfl, e16, (by decide : 1 + 0 ≤ _), (by decide : 6 + 0 ≤ _)⟩)
  dsimp only [Pt.U, Pt.locs, Pt.cells, Pt.slots] at X17 l17 y17 z17 st17 hQ17
  subst l17 y17 z17
  obtain ⟨rfl, N17q, eh17⟩ := hQ17
  have N17 := Fr.app N16 N17q
  have kc17 : Keep h16 T17.heap [] := by rw [eh17]; exact Keep.refl _ _
  have kh17 : Keep h0 T17.heap [] := by rw [eh17]; exact K16
  obtain ⟨cl_b6_65, Ar_b6, q_b6, S_b6, N_b6, H_b6, G_b6⟩ := (V_b6_16.keep kc17 nin0)
  have hin65 : ¬ ((5 : Int32) < 0 ∨ cl_b6_65.slots.size ≤ ((5 : Int32)).toNatClampNeg) := inb_of S_b6 ⟨by decide, by decide⟩
  obtain ⟨T18, h18, X18, e18, W18, st18⟩ := stB X17 hx hZ rfl Ar_b6 (j := (5 : Int32)) hin65 (g := (mkF m 65 #[.val (.long q1), .second, .val (.int p2), .val (.int p3), .val (.int p4), .val (.int p5), .val (.ref b6), .unset, .unset, .unset, .unset, .unset] [(.int (own_pick q1 p2 (5 : Int32))), (.int (5 : Int32)), (.ref b6)])) rfl rfl (hb hby at_65)
  have V_b6_18 := Arv.set Ar_b6 q_b6 S_b6 N_b6 H_b6 G_b6 (fits_nar_byte _) W18 5 rfl (Nat.le_of_ble_eq_true rfl)
  have K18 : Keep h0 h18 [] := kh17.wr W18 (Or.inr sz_b6)
  have N18 := Fr.snoc X18 N17 g_b6
  obtain ⟨vs, V18⟩ : ∃ vs : List Value, Arv Z h18 b6 k6 .byte (6 : Int32) vs (.int (0 : Int32)) := ⟨_, V_b6_18⟩
  obtain ⟨_, _, ⟨T19, L19, k19, n19⟩, -, X19, ⟨Lc19, hQ19, l19, y19, z19⟩, st19⟩ := Jvm.LawKit.callS X18 hx (y := (⟨"com/example/transmute/transmute/BinaryForm", "zeroByteAt", "([BIII)I"⟩ : MethodName)) hown (mvT hZ (hw _ (List.mem_of_getElem? (i := 6) rfl))) (mvT hZ (hw _ (List.mem_of_getElem? (i := 7) rfl))) (mvT hZ (hw _ (List.mem_of_getElem? (i := 8) rfl))) (mvT hZ (hw _ (List.mem_of_getElem? (i := 9) rfl))) (by decide) (backOf (W := 0) (rm2 l Z a0 hw [] b6 ((p3 &&& (2147483647 : Int32)) % (7 : Int32)) ((p4 &&& (2147483647 : Int32)) % (8 : Int32)) ((p5 &&& (2147483647 : Int32)) % ((7 : Int32) - ((p3 &&& (2147483647 : Int32)) % (7 : Int32)))) O Fm Ln k6 vs h18 n0 (Nat.le_trans Z0 K18.1) eO eF eL (by omega) (by omega) V18) hZ (hw _ (List.mem_of_getElem? (i := 9) rfl)) (hw _ (List.mem_of_getElem? (i := 8) rfl)) (by decide) (by decide)) (g := (mkF m 106 #[.val (.long q1), .second, .val (.int p2), .val (.int p3), .val (.int p4), .val (.int p5), .val (.ref b6), .val (.int ((p3 &&& (2147483647 : Int32)) % (7 : Int32))), .val (.int ((p5 &&& (2147483647 : Int32)) % ((7 : Int32) - ((p3 &&& (2147483647 : Int32)) % (7 : Int32))))), .val (.int ((p4 &&& (2147483647 : Int32)) % (8 : Int32))), .unset, .unset] [(.int ((p5 &&& (2147483647 : Int32)) % ((7 : Int32) - ((p3 &&& (2147483647 : Int32)) % (7 : Int32))))), (.int ((p4 &&& (2147483647 : Int32)) % (8 : Int32))), (.int ((p3 &&& (2147483647 : Int32)) % (7 : Int32))), (.ref b6)])) rfl (by rw [hml]; rfl) (argsL := [(.ref b6), (.int ((p3 &&& (2147483647 : Int32)) % (7 : Int32))), (.int ((p4 &&& (2147483647 : Int32)) % (8 : Int32))), (.int ((p5 &&& (2147483647 : Int32)) % ((7 : Int32) - ((p3 &&& (2147483647 : Int32)) % (7 : Int32)))))]) (rest := []) (lenOf pd_0_1 rfl) rfl (by show 2 * 0 + _ ≤ _; exact Nat.le_of_eq rfl) (hb hby at_106) (fun _ _ => ⟨rfl, e18, (by decide : 1 + 0 ≤ _), (by decide : 6 + 0 ≤ _)⟩)
  dsimp only [Pt.U, Pt.locs, Pt.cells, Pt.slots] at X19 l19 y19 z19 st19 hQ19
  subst l19 y19 z19
  obtain ⟨rfl, N19q, eh19⟩ := hQ19
  have N19 := Fr.app N18 N19q
  have V19 : Arv Z T19.heap b6 k6 .byte (6 : Int32) vs (.int (0 : Int32)) := by rw [eh19]; exact V18
  have Z19 : n0 ≤ T19.heap.size := by rw [eh19]; exact Nat.le_trans Z0 K18.1
  obtain ⟨_, _, ⟨T20, L20, k20, n20⟩, -, X20, ⟨Lc20, hQ20, l20, y20, z20⟩, st20⟩ := Jvm.LawKit.callS X19 hx (y := (⟨"com/example/transmute/transmute/BinaryFormZeroByteAtPinLaw", "z", "([BIIII)Z"⟩ : MethodName)) hown (mvT hZ (hw _ (List.mem_of_getElem? (i := 10) rfl))) (mvT hZ (hw _ (List.mem_of_getElem? (i := 11) rfl))) (mvT hZ (hw _ (List.mem_of_getElem? (i := 3) rfl))) (mvT hZ (hw _ (List.mem_of_getElem? (i := 12) rfl))) (by decide) (backOf (W := 0) (rm3 l Z a0 hw [] b6 ((p3 &&& (2147483647 : Int32)) % (7 : Int32)) ((p4 &&& (2147483647 : Int32)) % (8 : Int32)) ((p5 &&& (2147483647 : Int32)) % ((7 : Int32) - ((p3 &&& (2147483647 : Int32)) % (7 : Int32)))) (5 : Int32) O Fm Ln 5 k6 vs T19.heap n0 Z19 eO eF eL rfl (by decide) (by omega) (by omega) V19) hZ (hw _ (List.mem_of_getElem? (i := 12) rfl)) (hw _ (List.mem_of_getElem? (i := 3) rfl)) (by decide) (by decide)) (g := (mkF m 123 #[.val (.long q1), .second, .val (.int p2), .val (.int p3), .val (.int p4), .val (.int p5), .val (.ref b6), .val (.int ((p3 &&& (2147483647 : Int32)) % (7 : Int32))), .val (.int ((p5 &&& (2147483647 : Int32)) % ((7 : Int32) - ((p3 &&& (2147483647 : Int32)) % (7 : Int32))))), .val (.int ((p4 &&& (2147483647 : Int32)) % (8 : Int32))), .val (.int (own_find (own_wv vs) O (Ln - Fm) Fm)), .val (.int (-1 : Int32))] [(.int (5 : Int32)), (.int ((p5 &&& (2147483647 : Int32)) % ((7 : Int32) - ((p3 &&& (2147483647 : Int32)) % (7 : Int32))))), (.int ((p4 &&& (2147483647 : Int32)) % (8 : Int32))), (.int ((p3 &&& (2147483647 : Int32)) % (7 : Int32))), (.ref b6)])) rfl (by rw [hml]; rfl) (argsL := [(.ref b6), (.int ((p3 &&& (2147483647 : Int32)) % (7 : Int32))), (.int ((p4 &&& (2147483647 : Int32)) % (8 : Int32))), (.int ((p5 &&& (2147483647 : Int32)) % ((7 : Int32) - ((p3 &&& (2147483647 : Int32)) % (7 : Int32))))), (.int (5 : Int32))]) (rest := []) (lenOf pd_0_2 rfl) rfl (by show 2 * 0 + _ ≤ _; exact Nat.le_of_eq rfl) (hb hby at_123) (fun _ _ => ⟨rfl, rfl, (by decide : 1 + 0 ≤ _), (by decide : 6 + 0 ≤ _)⟩)
  dsimp only [Pt.U, Pt.locs, Pt.cells, Pt.slots] at X20 l20 y20 z20 st20 hQ20
  subst l20 y20 z20
  obtain ⟨rfl, N20q, eh20⟩ := hQ20
  have N20 := Fr.app N19 N20q
  have V20 : Arv Z T20.heap b6 k6 .byte (6 : Int32) vs (.int (0 : Int32)) := by rw [eh20]; exact V19
  have Z20 : n0 ≤ T20.heap.size := by rw [eh20]; exact Z19
  obtain ⟨_, _, ⟨T21, L21, k21, n21⟩, -, X21, ⟨Lc21, hQ21, l21, y21, z21⟩, st21⟩ := Jvm.LawKit.callS X20 hx (y := (⟨"com/example/transmute/transmute/BinaryFormZeroByteAtPinLaw", "z", "([BIIII)Z"⟩ : MethodName)) hown (mvT hZ (hw _ (List.mem_of_getElem? (i := 10) rfl))) (mvT hZ (hw _ (List.mem_of_getElem? (i := 11) rfl))) (mvT hZ (hw _ (List.mem_of_getElem? (i := 3) rfl))) (mvT hZ (hw _ (List.mem_of_getElem? (i := 12) rfl))) (by decide) (backOf (W := 0) (rm3 l Z a0 hw [] b6 ((p3 &&& (2147483647 : Int32)) % (7 : Int32)) ((p4 &&& (2147483647 : Int32)) % (8 : Int32)) ((p5 &&& (2147483647 : Int32)) % ((7 : Int32) - ((p3 &&& (2147483647 : Int32)) % (7 : Int32)))) (4 : Int32) O Fm Ln 4 k6 vs T20.heap n0 Z20 eO eF eL rfl (by decide) (by omega) (by omega) V20) hZ (hw _ (List.mem_of_getElem? (i := 12) rfl)) (hw _ (List.mem_of_getElem? (i := 3) rfl)) (by decide) (by decide)) (g := (mkF m 141 #[.val (.long q1), .second, .val (.int p2), .val (.int p3), .val (.int p4), .val (.int p5), .val (.ref b6), .val (.int ((p3 &&& (2147483647 : Int32)) % (7 : Int32))), .val (.int ((p5 &&& (2147483647 : Int32)) % ((7 : Int32) - ((p3 &&& (2147483647 : Int32)) % (7 : Int32))))), .val (.int ((p4 &&& (2147483647 : Int32)) % (8 : Int32))), .val (.int (own_find (own_wv vs) O (Ln - Fm) Fm)), .val (.int (own_up (own_zv (own_wv vs) O Fm Ln 5) (5 : Int32) (-1 : Int32)))] [(.int (4 : Int32)), (.int ((p5 &&& (2147483647 : Int32)) % ((7 : Int32) - ((p3 &&& (2147483647 : Int32)) % (7 : Int32))))), (.int ((p4 &&& (2147483647 : Int32)) % (8 : Int32))), (.int ((p3 &&& (2147483647 : Int32)) % (7 : Int32))), (.ref b6)])) rfl (by rw [hml]; rfl) (argsL := [(.ref b6), (.int ((p3 &&& (2147483647 : Int32)) % (7 : Int32))), (.int ((p4 &&& (2147483647 : Int32)) % (8 : Int32))), (.int ((p5 &&& (2147483647 : Int32)) % ((7 : Int32) - ((p3 &&& (2147483647 : Int32)) % (7 : Int32))))), (.int (4 : Int32))]) (rest := []) (lenOf pd_0_2 rfl) rfl (by show 2 * 0 + _ ≤ _; exact Nat.le_of_eq rfl) (hb hby at_141) (fun _ _ => ⟨rfl, rfl, (by decide : 1 + 0 ≤ _), (by decide : 6 + 0 ≤ _)⟩)
  dsimp only [Pt.U, Pt.locs, Pt.cells, Pt.slots] at X21 l21 y21 z21 st21 hQ21
  subst l21 y21 z21
  obtain ⟨rfl, N21q, eh21⟩ := hQ21
  have N21 := Fr.app N20 N21q
  have V21 : Arv Z T21.heap b6 k6 .byte (6 : Int32) vs (.int (0 : Int32)) := by rw [eh21]; exact V20
  have Z21 : n0 ≤ T21.heap.size := by rw [eh21]; exact Z20
  obtain ⟨_, _, ⟨T22, L22, k22, n22⟩, -, X22, ⟨Lc22, hQ22, l22, y22, z22⟩, st22⟩ := Jvm.LawKit.callS X21 hx (y := (⟨"com/example/transmute/transmute/BinaryFormZeroByteAtPinLaw", "z", "([BIIII)Z"⟩ : MethodName)) hown (mvT hZ (hw _ (List.mem_of_getElem? (i := 10) rfl))) (mvT hZ (hw _ (List.mem_of_getElem? (i := 11) rfl))) (mvT hZ (hw _ (List.mem_of_getElem? (i := 3) rfl))) (mvT hZ (hw _ (List.mem_of_getElem? (i := 12) rfl))) (by decide) (backOf (W := 0) (rm3 l Z a0 hw [] b6 ((p3 &&& (2147483647 : Int32)) % (7 : Int32)) ((p4 &&& (2147483647 : Int32)) % (8 : Int32)) ((p5 &&& (2147483647 : Int32)) % ((7 : Int32) - ((p3 &&& (2147483647 : Int32)) % (7 : Int32)))) (3 : Int32) O Fm Ln 3 k6 vs T21.heap n0 Z21 eO eF eL rfl (by decide) (by omega) (by omega) V21) hZ (hw _ (List.mem_of_getElem? (i := 12) rfl)) (hw _ (List.mem_of_getElem? (i := 3) rfl)) (by decide) (by decide)) (g := (mkF m 159 #[.val (.long q1), .second, .val (.int p2), .val (.int p3), .val (.int p4), .val (.int p5), .val (.ref b6), .val (.int ((p3 &&& (2147483647 : Int32)) % (7 : Int32))), .val (.int ((p5 &&& (2147483647 : Int32)) % ((7 : Int32) - ((p3 &&& (2147483647 : Int32)) % (7 : Int32))))), .val (.int ((p4 &&& (2147483647 : Int32)) % (8 : Int32))), .val (.int (own_find (own_wv vs) O (Ln - Fm) Fm)), .val (.int (own_up (own_zv (own_wv vs) O Fm Ln 4) (4 : Int32) (own_up (own_zv (own_wv vs) O Fm Ln 5) (5 : Int32) (-1 : Int32))))] [(.int (3 : Int32)), (.int ((p5 &&& (2147483647 : Int32)) % ((7 : Int32) - ((p3 &&& (2147483647 : Int32)) % (7 : Int32))))), (.int ((p4 &&& (2147483647 : Int32)) % (8 : Int32))), (.int ((p3 &&& (2147483647 : Int32)) % (7 : Int32))), (.ref b6)])) rfl (by rw [hml]; rfl) (argsL := [(.ref b6), (.int ((p3 &&& (2147483647 : Int32)) % (7 : Int32))), (.int ((p4 &&& (2147483647 : Int32)) % (8 : Int32))), (.int ((p5 &&& (2147483647 : Int32)) % ((7 : Int32) - ((p3 &&& (2147483647 : Int32)) % (7 : Int32))))), (.int (3 : Int32))]) (rest := []) (lenOf pd_0_2 rfl) rfl (by show 2 * 0 + _ ≤ _; exact Nat.le_of_eq rfl) (hb hby at_159) (fun _ _ => ⟨rfl, rfl, (by decide : 1 + 0 ≤ _), (by decide : 6 + 0 ≤ _)⟩)
  dsimp only [Pt.U, Pt.locs, Pt.cells, Pt.slots] at X22 l22 y22 z22 st22 hQ22
  subst l22 y22 z22
  obtain ⟨rfl, N22q, eh22⟩ := hQ22
  have N22 := Fr.app N21 N22q
  have V22 : Arv Z T22.heap b6 k6 .byte (6 : Int32) vs (.int (0 : Int32)) := by rw [eh22]; exact V21
  have Z22 : n0 ≤ T22.heap.size := by rw [eh22]; exact Z21
  obtain ⟨_, _, ⟨T23, L23, k23, n23⟩, -, X23, ⟨Lc23, hQ23, l23, y23, z23⟩, st23⟩ := Jvm.LawKit.callS X22 hx (y := (⟨"com/example/transmute/transmute/BinaryFormZeroByteAtPinLaw", "z", "([BIIII)Z"⟩ : MethodName)) hown (mvT hZ (hw _ (List.mem_of_getElem? (i := 10) rfl))) (mvT hZ (hw _ (List.mem_of_getElem? (i := 11) rfl))) (mvT hZ (hw _ (List.mem_of_getElem? (i := 3) rfl))) (mvT hZ (hw _ (List.mem_of_getElem? (i := 12) rfl))) (by decide) (backOf (W := 0) (rm3 l Z a0 hw [] b6 ((p3 &&& (2147483647 : Int32)) % (7 : Int32)) ((p4 &&& (2147483647 : Int32)) % (8 : Int32)) ((p5 &&& (2147483647 : Int32)) % ((7 : Int32) - ((p3 &&& (2147483647 : Int32)) % (7 : Int32)))) (2 : Int32) O Fm Ln 2 k6 vs T22.heap n0 Z22 eO eF eL rfl (by decide) (by omega) (by omega) V22) hZ (hw _ (List.mem_of_getElem? (i := 12) rfl)) (hw _ (List.mem_of_getElem? (i := 3) rfl)) (by decide) (by decide)) (g := (mkF m 177 #[.val (.long q1), .second, .val (.int p2), .val (.int p3), .val (.int p4), .val (.int p5), .val (.ref b6), .val (.int ((p3 &&& (2147483647 : Int32)) % (7 : Int32))), .val (.int ((p5 &&& (2147483647 : Int32)) % ((7 : Int32) - ((p3 &&& (2147483647 : Int32)) % (7 : Int32))))), .val (.int ((p4 &&& (2147483647 : Int32)) % (8 : Int32))), .val (.int (own_find (own_wv vs) O (Ln - Fm) Fm)), .val (.int (own_up (own_zv (own_wv vs) O Fm Ln 3) (3 : Int32) (own_up (own_zv (own_wv vs) O Fm Ln 4) (4 : Int32) (own_up (own_zv (own_wv vs) O Fm Ln 5) (5 : Int32) (-1 : Int32)))))] [(.int (2 : Int32)), (.int ((p5 &&& (2147483647 : Int32)) % ((7 : Int32) - ((p3 &&& (2147483647 : Int32)) % (7 : Int32))))), (.int ((p4 &&& (2147483647 : Int32)) % (8 : Int32))), (.int ((p3 &&& (2147483647 : Int32)) % (7 : Int32))), (.ref b6)])) rfl (by rw [hml]; rfl) (argsL := [(.ref b6), (.int ((p3 &&& (2147483647 : Int32)) % (7 : Int32))), (.int ((p4 &&& (2147483647 : Int32)) % (8 : Int32))), (.int ((p5 &&& (2147483647 : Int32)) % ((7 : Int32) - ((p3 &&& (2147483647 : Int32)) % (7 : Int32))))), (.int (2 : Int32))]) (rest := []) (lenOf pd_0_2 rfl) rfl (by show 2 * 0 + _ ≤ _; exact Nat.le_of_eq rfl) (hb hby at_177) (fun _ _ => ⟨rfl, rfl, (by decide : 1 + 0 ≤ _), (by decide : 6 + 0 ≤ _)⟩)
  dsimp only [Pt.U, Pt.locs, Pt.cells, Pt.slots] at X23 l23 y23 z23 st23 hQ23
  subst l23 y23 z23
  obtain ⟨rfl, N23q, eh23⟩ := hQ23
  have N23 := Fr.app N22 N23q
  have V23 : Arv Z T23.heap b6 k6 .byte (6 : Int32) vs (.int (0 : Int32)) := by rw [eh23]; exact V22
  have Z23 : n0 ≤ T23.heap.size := by rw [eh23]; exact Z22
  obtain ⟨_, _, ⟨T24, L24, k24, n24⟩, -, X24, ⟨Lc24, hQ24, l24, y24, z24⟩, st24⟩ := Jvm.LawKit.callS X23 hx (y := (⟨"com/example/transmute/transmute/BinaryFormZeroByteAtPinLaw", "z", "([BIIII)Z"⟩ : MethodName)) hown (mvT hZ (hw _ (List.mem_of_getElem? (i := 10) rfl))) (mvT hZ (hw _ (List.mem_of_getElem? (i := 11) rfl))) (mvT hZ (hw _ (List.mem_of_getElem? (i := 3) rfl))) (mvT hZ (hw _ (List.mem_of_getElem? (i := 12) rfl))) (by decide) (backOf (W := 0) (rm3 l Z a0 hw [] b6 ((p3 &&& (2147483647 : Int32)) % (7 : Int32)) ((p4 &&& (2147483647 : Int32)) % (8 : Int32)) ((p5 &&& (2147483647 : Int32)) % ((7 : Int32) - ((p3 &&& (2147483647 : Int32)) % (7 : Int32)))) (1 : Int32) O Fm Ln 1 k6 vs T23.heap n0 Z23 eO eF eL rfl (by decide) (by omega) (by omega) V23) hZ (hw _ (List.mem_of_getElem? (i := 12) rfl)) (hw _ (List.mem_of_getElem? (i := 3) rfl)) (by decide) (by decide)) (g := (mkF m 195 #[.val (.long q1), .second, .val (.int p2), .val (.int p3), .val (.int p4), .val (.int p5), .val (.ref b6), .val (.int ((p3 &&& (2147483647 : Int32)) % (7 : Int32))), .val (.int ((p5 &&& (2147483647 : Int32)) % ((7 : Int32) - ((p3 &&& (2147483647 : Int32)) % (7 : Int32))))), .val (.int ((p4 &&& (2147483647 : Int32)) % (8 : Int32))), .val (.int (own_find (own_wv vs) O (Ln - Fm) Fm)), .val (.int (own_up (own_zv (own_wv vs) O Fm Ln 2) (2 : Int32) (own_up (own_zv (own_wv vs) O Fm Ln 3) (3 : Int32) (own_up (own_zv (own_wv vs) O Fm Ln 4) (4 : Int32) (own_up (own_zv (own_wv vs) O Fm Ln 5) (5 : Int32) (-1 : Int32))))))] [(.int (1 : Int32)), (.int ((p5 &&& (2147483647 : Int32)) % ((7 : Int32) - ((p3 &&& (2147483647 : Int32)) % (7 : Int32))))), (.int ((p4 &&& (2147483647 : Int32)) % (8 : Int32))), (.int ((p3 &&& (2147483647 : Int32)) % (7 : Int32))), (.ref b6)])) rfl (by rw [hml]; rfl) (argsL := [(.ref b6), (.int ((p3 &&& (2147483647 : Int32)) % (7 : Int32))), (.int ((p4 &&& (2147483647 : Int32)) % (8 : Int32))), (.int ((p5 &&& (2147483647 : Int32)) % ((7 : Int32) - ((p3 &&& (2147483647 : Int32)) % (7 : Int32))))), (.int (1 : Int32))]) (rest := []) (lenOf pd_0_2 rfl) rfl (by show 2 * 0 + _ ≤ _; exact Nat.le_of_eq rfl) (hb hby at_195) (fun _ _ => ⟨rfl, rfl, (by decide : 1 + 0 ≤ _), (by decide : 6 + 0 ≤ _)⟩)
  dsimp only [Pt.U, Pt.locs, Pt.cells, Pt.slots] at X24 l24 y24 z24 st24 hQ24
  subst l24 y24 z24
  obtain ⟨rfl, N24q, eh24⟩ := hQ24
  have N24 := Fr.app N23 N24q
  have V24 : Arv Z T24.heap b6 k6 .byte (6 : Int32) vs (.int (0 : Int32)) := by rw [eh24]; exact V23
  have Z24 : n0 ≤ T24.heap.size := by rw [eh24]; exact Z23
  obtain ⟨_, _, ⟨T25, L25, k25, n25⟩, -, X25, ⟨Lc25, hQ25, l25, y25, z25⟩, st25⟩ := Jvm.LawKit.callS X24 hx (y := (⟨"com/example/transmute/transmute/BinaryFormZeroByteAtPinLaw", "z", "([BIIII)Z"⟩ : MethodName)) hown (mvT hZ (hw _ (List.mem_of_getElem? (i := 10) rfl))) (mvT hZ (hw _ (List.mem_of_getElem? (i := 11) rfl))) (mvT hZ (hw _ (List.mem_of_getElem? (i := 3) rfl))) (mvT hZ (hw _ (List.mem_of_getElem? (i := 12) rfl))) (by decide) (backOf (W := 0) (rm3 l Z a0 hw [] b6 ((p3 &&& (2147483647 : Int32)) % (7 : Int32)) ((p4 &&& (2147483647 : Int32)) % (8 : Int32)) ((p5 &&& (2147483647 : Int32)) % ((7 : Int32) - ((p3 &&& (2147483647 : Int32)) % (7 : Int32)))) (0 : Int32) O Fm Ln 0 k6 vs T24.heap n0 Z24 eO eF eL rfl (by decide) (by omega) (by omega) V24) hZ (hw _ (List.mem_of_getElem? (i := 12) rfl)) (hw _ (List.mem_of_getElem? (i := 3) rfl)) (by decide) (by decide)) (g := (mkF m 213 #[.val (.long q1), .second, .val (.int p2), .val (.int p3), .val (.int p4), .val (.int p5), .val (.ref b6), .val (.int ((p3 &&& (2147483647 : Int32)) % (7 : Int32))), .val (.int ((p5 &&& (2147483647 : Int32)) % ((7 : Int32) - ((p3 &&& (2147483647 : Int32)) % (7 : Int32))))), .val (.int ((p4 &&& (2147483647 : Int32)) % (8 : Int32))), .val (.int (own_find (own_wv vs) O (Ln - Fm) Fm)), .val (.int (own_up (own_zv (own_wv vs) O Fm Ln 1) (1 : Int32) (own_up (own_zv (own_wv vs) O Fm Ln 2) (2 : Int32) (own_up (own_zv (own_wv vs) O Fm Ln 3) (3 : Int32) (own_up (own_zv (own_wv vs) O Fm Ln 4) (4 : Int32) (own_up (own_zv (own_wv vs) O Fm Ln 5) (5 : Int32) (-1 : Int32)))))))] [(.int (0 : Int32)), (.int ((p5 &&& (2147483647 : Int32)) % ((7 : Int32) - ((p3 &&& (2147483647 : Int32)) % (7 : Int32))))), (.int ((p4 &&& (2147483647 : Int32)) % (8 : Int32))), (.int ((p3 &&& (2147483647 : Int32)) % (7 : Int32))), (.ref b6)])) rfl (by rw [hml]; rfl) (argsL := [(.ref b6), (.int ((p3 &&& (2147483647 : Int32)) % (7 : Int32))), (.int ((p4 &&& (2147483647 : Int32)) % (8 : Int32))), (.int ((p5 &&& (2147483647 : Int32)) % ((7 : Int32) - ((p3 &&& (2147483647 : Int32)) % (7 : Int32))))), (.int (0 : Int32))]) (rest := []) (lenOf pd_0_2 rfl) rfl (by show 2 * 0 + _ ≤ _; exact Nat.le_of_eq rfl) (hb hby at_213) (fun _ _ => ⟨rfl, rfl, (by decide : 1 + 0 ≤ _), (by decide : 6 + 0 ≤ _)⟩)
  dsimp only [Pt.U, Pt.locs, Pt.cells, Pt.slots] at X25 l25 y25 z25 st25 hQ25
  subst l25 y25 z25
  obtain ⟨rfl, N25q, eh25⟩ := hQ25
  have N25 := Fr.app N24 N25q
  have V25 : Arv Z T25.heap b6 k6 .byte (6 : Int32) vs (.int (0 : Int32)) := by rw [eh25]; exact V24
  have Z25 : n0 ≤ T25.heap.size := by rw [eh25]; exact Z24
  obtain ⟨fs, hr, hrun, hended, hW, hsame⟩ := X25.leave (v := some (.int (1 : Int32))) (fun h => by rw [Bd.returns] at h; cases h)
  refine ⟨_, _, pre0 _ ?_, hrun, hended, _, _, rfl, ?_, ⟨_, rfl⟩, hW, hsame.mono (by decide) (by decide)⟩
  · show Steps p.tables e below (s₁.setTop (mkF m 0 #[.val (.long q1), .second, .val (.int p2), .val (.int p3), .val (.int p4), .val (.int p5), .unset, .unset, .unset, .unset, .unset, .unset] [])) _
    refine XS.bipush X0.here hx rfl (hb hby at_0) ?_
    show Steps p.tables e below (s₁.setTop (mkF m 2 #[.val (.long q1), .second, .val (.int p2), .val (.int p3), .val (.int p4), .val (.int p5), .unset, .unset, .unset, .unset, .unset, .unset] [(.int (6 : Int32))])) _
    refine st6 _ ?_
    show Steps p.tables e below (T6.setTop (mkF m 4 #[.val (.long q1), .second, .val (.int p2), .val (.int p3), .val (.int p4), .val (.int p5), .unset, .unset, .unset, .unset, .unset, .unset] [(.ref b6)])) _
    refine XS.astore X6.here hx rfl (hb hby at_4) rfl rfl (l' := #[.val (.long q1), .second, .val (.int p2), .val (.int p3), .val (.int p4), .val (.int p5), .val (.ref b6), .unset, .unset, .unset, .unset, .unset]) rfl ?_
    show Steps p.tables e below (T6.setTop (mkF m 6 #[.val (.long q1), .second, .val (.int p2), .val (.int p3), .val (.int p4), .val (.int p5), .val (.ref b6), .unset, .unset, .unset, .unset, .unset] [])) _
    refine XS.aload X6.here hx rfl (hb hby at_6) rfl rfl ?_
    show Steps p.tables e below (T6.setTop (mkF m 8 #[.val (.long q1), .second, .val (.int p2), .val (.int p3), .val (.int p4), .val (.int p5), .val (.ref b6), .unset, .unset, .unset, .unset, .unset] [(.ref b6)])) _
    refine XS.iconst X6.here hx rfl (hb hby at_8) ?_
    show Steps p.tables e below (T6.setTop (mkF m 9 #[.val (.long q1), .second, .val (.int p2), .val (.int p3), .val (.int p4), .val (.int p5), .val (.ref b6), .unset, .unset, .unset, .unset, .unset] [(.int (0 : Int32)), (.ref b6)])) _
    refine XS.lloadN X6.here hx rfl (hb hby at_9) rfl ?_
    show Steps p.tables e below (T6.setTop (mkF m 10 #[.val (.long q1), .second, .val (.int p2), .val (.int p3), .val (.int p4), .val (.int p5), .val (.ref b6), .unset, .unset, .unset, .unset, .unset] [(.long q1), (.int (0 : Int32)), (.ref b6)])) _
    refine XS.iloadN X6.here hx rfl (hb hby at_10) rfl ?_
    show Steps p.tables e below (T6.setTop (mkF m 11 #[.val (.long q1), .second, .val (.int p2), .val (.int p3), .val (.int p4), .val (.int p5), .val (.ref b6), .unset, .unset, .unset, .unset, .unset] [(.int p2), (.long q1), (.int (0 : Int32)), (.ref b6)])) _
    refine XS.iconst X6.here hx rfl (hb hby at_11) ?_
    show Steps p.tables e below (T6.setTop (mkF m 12 #[.val (.long q1), .second, .val (.int p2), .val (.int p3), .val (.int p4), .val (.int p5), .val (.ref b6), .unset, .unset, .unset, .unset, .unset] [(.int (0 : Int32)), (.int p2), (.long q1), (.int (0 : Int32)), (.ref b6)])) _
    refine st7 _ ?_
    show Steps p.tables e below (T7.setTop (mkF m 15 #[.val (.long q1), .second, .val (.int p2), .val (.int p3), .val (.int p4), .val (.int p5), .val (.ref b6), .unset, .unset, .unset, .unset, .unset] [(.int (own_pick q1 p2 (0 : Int32))), (.int (0 : Int32)), (.ref b6)])) _
    refine st8 _ ?_
    show Steps p.tables e below (T8.setTop (mkF m 16 #[.val (.long q1), .second, .val (.int p2), .val (.int p3), .val (.int p4), .val (.int p5), .val (.ref b6), .unset, .unset, .unset, .unset, .unset] [])) _
    refine XS.aload X8.here hx rfl (hb hby at_16) rfl rfl ?_
    show Steps p.tables e below (T8.setTop (mkF m 18 #[.val (.long q1), .second, .val (.int p2), .val (.int p3), .val (.int p4), .val (.int p5), .val (.ref b6), .unset, .unset, .unset, .unset, .unset] [(.ref b6)])) _
    refine XS.iconst X8.here hx rfl (hb hby at_18) ?_
    show Steps p.tables e below (T8.setTop (mkF m 19 #[.val (.long q1), .second, .val (.int p2), .val (.int p3), .val (.int p4), .val (.int p5), .val (.ref b6), .unset, .unset, .unset, .unset, .unset] [(.int (1 : Int32)), (.ref b6)])) _
    refine XS.lloadN X8.here hx rfl (hb hby at_19) rfl ?_
    show Steps p.tables e below (T8.setTop (mkF m 20 #[.val (.long q1), .second, .val (.int p2), .val (.int p3), .val (.int p4), .val (.int p5), .val (.ref b6), .unset, .unset, .unset, .unset, .unset] [(.long q1), (.int (1 : Int32)), (.ref b6)])) _
    refine XS.iloadN X8.here hx rfl (hb hby at_20) rfl ?_
    show Steps p.tables e below (T8.setTop (mkF m 21 #[.val (.long q1), .second, .val (.int p2), .val (.int p3), .val (.int p4), .val (.int p5), .val (.ref b6), .unset, .unset, .unset, .unset, .unset] [(.int p2), (.long q1), (.int (1 : Int32)), (.ref b6)])) _
    refine XS.iconst X8.here hx rfl (hb hby at_21) ?_
    show Steps p.tables e below (T8.setTop (mkF m 22 #[.val (.long q1), .second, .val (.int p2), .val (.int p3), .val (.int p4), .val (.int p5), .val (.ref b6), .unset, .unset, .unset, .unset, .unset] [(.int (1 : Int32)), (.int p2), (.long q1), (.int (1 : Int32)), (.ref b6)])) _
    refine st9 _ ?_
    show Steps p.tables e below (T9.setTop (mkF m 25 #[.val (.long q1), .second, .val (.int p2), .val (.int p3), .val (.int p4), .val (.int p5), .val (.ref b6), .unset, .unset, .unset, .unset, .unset] [(.int (own_pick q1 p2 (1 : Int32))), (.int (1 : Int32)), (.ref b6)])) _
    refine st10 _ ?_
    show Steps p.tables e below (T10.setTop (mkF m 26 #[.val (.long q1), .second, .val (.int p2), .val (.int p3), .val (.int p4), .val (.int p5), .val (.ref b6), .unset, .unset, .unset, .unset, .unset] [])) _
    refine XS.aload X10.here hx rfl (hb hby at_26) rfl rfl ?_
    show Steps p.tables e below (T10.setTop (mkF m 28 #[.val (.long q1), .second, .val (.int p2), .val (.int p3), .val (.int p4), .val (.int p5), .val (.ref b6), .unset, .unset, .unset, .unset, .unset] [(.ref b6)])) _
    refine XS.iconst X10.here hx rfl (hb hby at_28) ?_
    show Steps p.tables e below (T10.setTop (mkF m 29 #[.val (.long q1), .second, .val (.int p2), .val (.int p3), .val (.int p4), .val (.int p5), .val (.ref b6), .unset, .unset, .unset, .unset, .unset] [(.int (2 : Int32)), (.ref b6)])) _
    refine XS.lloadN X10.here hx rfl (hb hby at_29) rfl ?_
    show Steps p.tables e below (T10.setTop (mkF m 30 #[.val (.long q1), .second, .val (.int p2), .val (.int p3), .val (.int p4), .val (.int p5), .val (.ref b6), .unset, .unset, .unset, .unset, .unset] [(.long q1), (.int (2 : Int32)), (.ref b6)])) _
    refine XS.iloadN X10.here hx rfl (hb hby at_30) rfl ?_
    show Steps p.tables e below (T10.setTop (mkF m 31 #[.val (.long q1), .second, .val (.int p2), .val (.int p3), .val (.int p4), .val (.int p5), .val (.ref b6), .unset, .unset, .unset, .unset, .unset] [(.int p2), (.long q1), (.int (2 : Int32)), (.ref b6)])) _
    refine XS.iconst X10.here hx rfl (hb hby at_31) ?_
    show Steps p.tables e below (T10.setTop (mkF m 32 #[.val (.long q1), .second, .val (.int p2), .val (.int p3), .val (.int p4), .val (.int p5), .val (.ref b6), .unset, .unset, .unset, .unset, .unset] [(.int (2 : Int32)), (.int p2), (.long q1), (.int (2 : Int32)), (.ref b6)])) _
    refine st11 _ ?_
    show Steps p.tables e below (T11.setTop (mkF m 35 #[.val (.long q1), .second, .val (.int p2), .val (.int p3), .val (.int p4), .val (.int p5), .val (.ref b6), .unset, .unset, .unset, .unset, .unset] [(.int (own_pick q1 p2 (2 : Int32))), (.int (2 : Int32)), (.ref b6)])) _
    refine st12 _ ?_
    show Steps p.tables e below (T12.setTop (mkF m 36 #[.val (.long q1), .second, .val (.int p2), .val (.int p3), .val (.int p4), .val (.int p5), .val (.ref b6), .unset, .unset, .unset, .unset, .unset] [])) _
    refine XS.aload X12.here hx rfl (hb hby at_36) rfl rfl ?_
    show Steps p.tables e below (T12.setTop (mkF m 38 #[.val (.long q1), .second, .val (.int p2), .val (.int p3), .val (.int p4), .val (.int p5), .val (.ref b6), .unset, .unset, .unset, .unset, .unset] [(.ref b6)])) _
    refine XS.iconst X12.here hx rfl (hb hby at_38) ?_
    show Steps p.tables e below (T12.setTop (mkF m 39 #[.val (.long q1), .second, .val (.int p2), .val (.int p3), .val (.int p4), .val (.int p5), .val (.ref b6), .unset, .unset, .unset, .unset, .unset] [(.int (3 : Int32)), (.ref b6)])) _
    refine XS.lloadN X12.here hx rfl (hb hby at_39) rfl ?_
    show Steps p.tables e below (T12.setTop (mkF m 40 #[.val (.long q1), .second, .val (.int p2), .val (.int p3), .val (.int p4), .val (.int p5), .val (.ref b6), .unset, .unset, .unset, .unset, .unset] [(.long q1), (.int (3 : Int32)), (.ref b6)])) _
    refine XS.iloadN X12.here hx rfl (hb hby at_40) rfl ?_
    show Steps p.tables e below (T12.setTop (mkF m 41 #[.val (.long q1), .second, .val (.int p2), .val (.int p3), .val (.int p4), .val (.int p5), .val (.ref b6), .unset, .unset, .unset, .unset, .unset] [(.int p2), (.long q1), (.int (3 : Int32)), (.ref b6)])) _
    refine XS.iconst X12.here hx rfl (hb hby at_41) ?_
    show Steps p.tables e below (T12.setTop (mkF m 42 #[.val (.long q1), .second, .val (.int p2), .val (.int p3), .val (.int p4), .val (.int p5), .val (.ref b6), .unset, .unset, .unset, .unset, .unset] [(.int (3 : Int32)), (.int p2), (.long q1), (.int (3 : Int32)), (.ref b6)])) _
    refine st13 _ ?_
    show Steps p.tables e below (T13.setTop (mkF m 45 #[.val (.long q1), .second, .val (.int p2), .val (.int p3), .val (.int p4), .val (.int p5), .val (.ref b6), .unset, .unset, .unset, .unset, .unset] [(.int (own_pick q1 p2 (3 : Int32))), (.int (3 : Int32)), (.ref b6)])) _
    refine st14 _ ?_
    show Steps p.tables e below (T14.setTop (mkF m 46 #[.val (.long q1), .second, .val (.int p2), .val (.int p3), .val (.int p4), .val (.int p5), .val (.ref b6), .unset, .unset, .unset, .unset, .unset] [])) _
    refine XS.aload X14.here hx rfl (hb hby at_46) rfl rfl ?_
    show Steps p.tables e below (T14.setTop (mkF m 48 #[.val (.long q1), .second, .val (.int p2), .val (.int p3), .val (.int p4), .val (.int p5), .val (.ref b6), .unset, .unset, .unset, .unset, .unset] [(.ref b6)])) _
    refine XS.iconst X14.here hx rfl (hb hby at_48) ?_
    show Steps p.tables e below (T14.setTop (mkF m 49 #[.val (.long q1), .second, .val (.int p2), .val (.int p3), .val (.int p4), .val (.int p5), .val (.ref b6), .unset, .unset, .unset, .unset, .unset] [(.int (4 : Int32)), (.ref b6)])) _
    refine XS.lloadN X14.here hx rfl (hb hby at_49) rfl ?_
    show Steps p.tables e below (T14.setTop (mkF m 50 #[.val (.long q1), .second, .val (.int p2), .val (.int p3), .val (.int p4), .val (.int p5), .val (.ref b6), .unset, .unset, .unset, .unset, .unset] [(.long q1), (.int (4 : Int32)), (.ref b6)])) _
    refine XS.iloadN X14.here hx rfl (hb hby at_50) rfl ?_
    show Steps p.tables e below (T14.setTop (mkF m 51 #[.val (.long q1), .second, .val (.int p2), .val (.int p3), .val (.int p4), .val (.int p5), .val (.ref b6), .unset, .unset, .unset, .unset, .unset] [(.int p2), (.long q1), (.int (4 : Int32)), (.ref b6)])) _
    refine XS.iconst X14.here hx rfl (hb hby at_51) ?_
    show Steps p.tables e below (T14.setTop (mkF m 52 #[.val (.long q1), .second, .val (.int p2), .val (.int p3), .val (.int p4), .val (.int p5), .val (.ref b6), .unset, .unset, .unset, .unset, .unset] [(.int (4 : Int32)), (.int p2), (.long q1), (.int (4 : Int32)), (.ref b6)])) _
    refine st15 _ ?_
    show Steps p.tables e below (T15.setTop (mkF m 55 #[.val (.long q1), .second, .val (.int p2), .val (.int p3), .val (.int p4), .val (.int p5), .val (.ref b6), .unset, .unset, .unset, .unset, .unset] [(.int (own_pick q1 p2 (4 : Int32))), (.int (4 : Int32)), (.ref b6)])) _
    refine st16 _ ?_
    show Steps p.tables e below (T16.setTop (mkF m 56 #[.val (.long q1), .second, .val (.int p2), .val (.int p3), .val (.int p4), .val (.int p5), .val (.ref b6), .unset, .unset, .unset, .unset, .unset] [])) _
    refine XS.aload X16.here hx rfl (hb hby at_56) rfl rfl ?_
    show Steps p.tables e below (T16.setTop (mkF m 58 #[.val (.long q1), .second, .val (.int p2), .val (.int p3), .val (.int p4), .val (.int p5), .val (.ref b6), .unset, .unset, .unset, .unset, .unset] [(.ref b6)])) _
    refine XS.iconst X16.here hx rfl (hb hby at_58) ?_
    show Steps p.tables e below (T16.setTop (mkF m 59 #[.val (.long q1), .second, .val (.int p2), .val (.int p3), .val (.int p4), .val (.int p5), .val (.ref b6), .unset, .unset, .unset, .unset, .unset] [(.int (5 : Int32)), (.ref b6)])) _
    refine XS.lloadN X16.here hx rfl (hb hby at_59) rfl ?_
    show Steps p.tables e below (T16.setTop (mkF m 60 #[.val (.long q1), .second, .val (.int p2), .val (.int p3), .val (.int p4), .val (.int p5), .val (.ref b6), .unset, .unset, .unset, .unset, .unset] [(.long q1), (.int (5 : Int32)), (.ref b6)])) _
    refine XS.iloadN X16.here hx rfl (hb hby at_60) rfl ?_
    show Steps p.tables e below (T16.setTop (mkF m 61 #[.val (.long q1), .second, .val (.int p2), .val (.int p3), .val (.int p4), .val (.int p5), .val (.ref b6), .unset, .unset, .unset, .unset, .unset] [(.int p2), (.long q1), (.int (5 : Int32)), (.ref b6)])) _
    refine XS.iconst X16.here hx rfl (hb hby at_61) ?_
    show Steps p.tables e below (T16.setTop (mkF m 62 #[.val (.long q1), .second, .val (.int p2), .val (.int p3), .val (.int p4), .val (.int p5), .val (.ref b6), .unset, .unset, .unset, .unset, .unset] [(.int (5 : Int32)), (.int p2), (.long q1), (.int (5 : Int32)), (.ref b6)])) _
    refine st17 _ ?_
    show Steps p.tables e below (T17.setTop (mkF m 65 #[.val (.long q1), .second, .val (.int p2), .val (.int p3), .val (.int p4), .val (.int p5), .val (.ref b6), .unset, .unset, .unset, .unset, .unset] [(.int (own_pick q1 p2 (5 : Int32))), (.int (5 : Int32)), (.ref b6)])) _
    refine st18 _ ?_
    show Steps p.tables e below (T18.setTop (mkF m 66 #[.val (.long q1), .second, .val (.int p2), .val (.int p3), .val (.int p4), .val (.int p5), .val (.ref b6), .unset, .unset, .unset, .unset, .unset] [])) _
    refine XS.iloadN X18.here hx rfl (hb hby at_66) rfl ?_
    show Steps p.tables e below (T18.setTop (mkF m 67 #[.val (.long q1), .second, .val (.int p2), .val (.int p3), .val (.int p4), .val (.int p5), .val (.ref b6), .unset, .unset, .unset, .unset, .unset] [(.int p3)])) _
    refine X18.ldcInt hx hown (mvT hZ (hw _ (List.mem_of_getElem? (i := 5) rfl))) (g := (mkF m 67 #[.val (.long q1), .second, .val (.int p2), .val (.int p3), .val (.int p4), .val (.int p5), .val (.ref b6), .unset, .unset, .unset, .unset, .unset] [(.int p3)])) rfl (hb hby at_67) _ ?_
    show Steps p.tables e below (T18.setTop (mkF m 69 #[.val (.long q1), .second, .val (.int p2), .val (.int p3), .val (.int p4), .val (.int p5), .val (.ref b6), .unset, .unset, .unset, .unset, .unset] [(.int (2147483647 : Int32)), (.int p3)])) _
    refine XS.iand X18.here hx rfl (hb hby at_69) rfl ?_
    show Steps p.tables e below (T18.setTop (mkF m 70 #[.val (.long q1), .second, .val (.int p2), .val (.int p3), .val (.int p4), .val (.int p5), .val (.ref b6), .unset, .unset, .unset, .unset, .unset] [(.int (p3 &&& (2147483647 : Int32)))])) _
    refine XS.bipush X18.here hx rfl (hb hby at_70) ?_
    show Steps p.tables e below (T18.setTop (mkF m 72 #[.val (.long q1), .second, .val (.int p2), .val (.int p3), .val (.int p4), .val (.int p5), .val (.ref b6), .unset, .unset, .unset, .unset, .unset] [(.int (7 : Int32)), (.int (p3 &&& (2147483647 : Int32)))])) _
    refine iremM X18 hx rfl (hb hby at_72) rfl (by decide) ?_
    show Steps p.tables e below (T18.setTop (mkF m 73 #[.val (.long q1), .second, .val (.int p2), .val (.int p3), .val (.int p4), .val (.int p5), .val (.ref b6), .unset, .unset, .unset, .unset, .unset] [(.int ((p3 &&& (2147483647 : Int32)) % (7 : Int32)))])) _
    refine XS.istore X18.here hx rfl (hb hby at_73) rfl (l' := #[.val (.long q1), .second, .val (.int p2), .val (.int p3), .val (.int p4), .val (.int p5), .val (.ref b6), .val (.int ((p3 &&& (2147483647 : Int32)) % (7 : Int32))), .unset, .unset, .unset, .unset]) rfl ?_
    show Steps p.tables e below (T18.setTop (mkF m 75 #[.val (.long q1), .second, .val (.int p2), .val (.int p3), .val (.int p4), .val (.int p5), .val (.ref b6), .val (.int ((p3 &&& (2147483647 : Int32)) % (7 : Int32))), .unset, .unset, .unset, .unset] [])) _
    refine XS.iload X18.here hx rfl (hb hby at_75) rfl ?_
    show Steps p.tables e below (T18.setTop (mkF m 77 #[.val (.long q1), .second, .val (.int p2), .val (.int p3), .val (.int p4), .val (.int p5), .val (.ref b6), .val (.int ((p3 &&& (2147483647 : Int32)) % (7 : Int32))), .unset, .unset, .unset, .unset] [(.int p5)])) _
    refine X18.ldcInt hx hown (mvT hZ (hw _ (List.mem_of_getElem? (i := 5) rfl))) (g := (mkF m 77 #[.val (.long q1), .second, .val (.int p2), .val (.int p3), .val (.int p4), .val (.int p5), .val (.ref b6), .val (.int ((p3 &&& (2147483647 : Int32)) % (7 : Int32))), .unset, .unset, .unset, .unset] [(.int p5)])) rfl (hb hby at_77) _ ?_
    show Steps p.tables e below (T18.setTop (mkF m 79 #[.val (.long q1), .second, .val (.int p2), .val (.int p3), .val (.int p4), .val (.int p5), .val (.ref b6), .val (.int ((p3 &&& (2147483647 : Int32)) % (7 : Int32))), .unset, .unset, .unset, .unset] [(.int (2147483647 : Int32)), (.int p5)])) _
    refine XS.iand X18.here hx rfl (hb hby at_79) rfl ?_
    show Steps p.tables e below (T18.setTop (mkF m 80 #[.val (.long q1), .second, .val (.int p2), .val (.int p3), .val (.int p4), .val (.int p5), .val (.ref b6), .val (.int ((p3 &&& (2147483647 : Int32)) % (7 : Int32))), .unset, .unset, .unset, .unset] [(.int (p5 &&& (2147483647 : Int32)))])) _
    refine XS.bipush X18.here hx rfl (hb hby at_80) ?_
    show Steps p.tables e below (T18.setTop (mkF m 82 #[.val (.long q1), .second, .val (.int p2), .val (.int p3), .val (.int p4), .val (.int p5), .val (.ref b6), .val (.int ((p3 &&& (2147483647 : Int32)) % (7 : Int32))), .unset, .unset, .unset, .unset] [(.int (7 : Int32)), (.int (p5 &&& (2147483647 : Int32)))])) _
    refine XS.iload X18.here hx rfl (hb hby at_82) rfl ?_
    show Steps p.tables e below (T18.setTop (mkF m 84 #[.val (.long q1), .second, .val (.int p2), .val (.int p3), .val (.int p4), .val (.int p5), .val (.ref b6), .val (.int ((p3 &&& (2147483647 : Int32)) % (7 : Int32))), .unset, .unset, .unset, .unset] [(.int ((p3 &&& (2147483647 : Int32)) % (7 : Int32))), (.int (7 : Int32)), (.int (p5 &&& (2147483647 : Int32)))])) _
    refine XS.isub X18.here hx rfl (hb hby at_84) rfl ?_
    show Steps p.tables e below (T18.setTop (mkF m 85 #[.val (.long q1), .second, .val (.int p2), .val (.int p3), .val (.int p4), .val (.int p5), .val (.ref b6), .val (.int ((p3 &&& (2147483647 : Int32)) % (7 : Int32))), .unset, .unset, .unset, .unset] [(.int ((7 : Int32) - ((p3 &&& (2147483647 : Int32)) % (7 : Int32)))), (.int (p5 &&& (2147483647 : Int32)))])) _
    refine iremM X18 hx rfl (hb hby at_85) rfl hnz85 ?_
    show Steps p.tables e below (T18.setTop (mkF m 86 #[.val (.long q1), .second, .val (.int p2), .val (.int p3), .val (.int p4), .val (.int p5), .val (.ref b6), .val (.int ((p3 &&& (2147483647 : Int32)) % (7 : Int32))), .unset, .unset, .unset, .unset] [(.int ((p5 &&& (2147483647 : Int32)) % ((7 : Int32) - ((p3 &&& (2147483647 : Int32)) % (7 : Int32)))))])) _
    refine XS.istore X18.here hx rfl (hb hby at_86) rfl (l' := #[.val (.long q1), .second, .val (.int p2), .val (.int p3), .val (.int p4), .val (.int p5), .val (.ref b6), .val (.int ((p3 &&& (2147483647 : Int32)) % (7 : Int32))), .val (.int ((p5 &&& (2147483647 : Int32)) % ((7 : Int32) - ((p3 &&& (2147483647 : Int32)) % (7 : Int32))))), .unset, .unset, .unset]) rfl ?_
    show Steps p.tables e below (T18.setTop (mkF m 88 #[.val (.long q1), .second, .val (.int p2), .val (.int p3), .val (.int p4), .val (.int p5), .val (.ref b6), .val (.int ((p3 &&& (2147483647 : Int32)) % (7 : Int32))), .val (.int ((p5 &&& (2147483647 : Int32)) % ((7 : Int32) - ((p3 &&& (2147483647 : Int32)) % (7 : Int32))))), .unset, .unset, .unset] [])) _
    refine XS.iload X18.here hx rfl (hb hby at_88) rfl ?_
    show Steps p.tables e below (T18.setTop (mkF m 90 #[.val (.long q1), .second, .val (.int p2), .val (.int p3), .val (.int p4), .val (.int p5), .val (.ref b6), .val (.int ((p3 &&& (2147483647 : Int32)) % (7 : Int32))), .val (.int ((p5 &&& (2147483647 : Int32)) % ((7 : Int32) - ((p3 &&& (2147483647 : Int32)) % (7 : Int32))))), .unset, .unset, .unset] [(.int p4)])) _
    refine X18.ldcInt hx hown (mvT hZ (hw _ (List.mem_of_getElem? (i := 5) rfl))) (g := (mkF m 90 #[.val (.long q1), .second, .val (.int p2), .val (.int p3), .val (.int p4), .val (.int p5), .val (.ref b6), .val (.int ((p3 &&& (2147483647 : Int32)) % (7 : Int32))), .val (.int ((p5 &&& (2147483647 : Int32)) % ((7 : Int32) - ((p3 &&& (2147483647 : Int32)) % (7 : Int32))))), .unset, .unset, .unset] [(.int p4)])) rfl (hb hby at_90) _ ?_
    show Steps p.tables e below (T18.setTop (mkF m 92 #[.val (.long q1), .second, .val (.int p2), .val (.int p3), .val (.int p4), .val (.int p5), .val (.ref b6), .val (.int ((p3 &&& (2147483647 : Int32)) % (7 : Int32))), .val (.int ((p5 &&& (2147483647 : Int32)) % ((7 : Int32) - ((p3 &&& (2147483647 : Int32)) % (7 : Int32))))), .unset, .unset, .unset] [(.int (2147483647 : Int32)), (.int p4)])) _
    refine XS.iand X18.here hx rfl (hb hby at_92) rfl ?_
    show Steps p.tables e below (T18.setTop (mkF m 93 #[.val (.long q1), .second, .val (.int p2), .val (.int p3), .val (.int p4), .val (.int p5), .val (.ref b6), .val (.int ((p3 &&& (2147483647 : Int32)) % (7 : Int32))), .val (.int ((p5 &&& (2147483647 : Int32)) % ((7 : Int32) - ((p3 &&& (2147483647 : Int32)) % (7 : Int32))))), .unset, .unset, .unset] [(.int (p4 &&& (2147483647 : Int32)))])) _
    refine XS.bipush X18.here hx rfl (hb hby at_93) ?_
    show Steps p.tables e below (T18.setTop (mkF m 95 #[.val (.long q1), .second, .val (.int p2), .val (.int p3), .val (.int p4), .val (.int p5), .val (.ref b6), .val (.int ((p3 &&& (2147483647 : Int32)) % (7 : Int32))), .val (.int ((p5 &&& (2147483647 : Int32)) % ((7 : Int32) - ((p3 &&& (2147483647 : Int32)) % (7 : Int32))))), .unset, .unset, .unset] [(.int (8 : Int32)), (.int (p4 &&& (2147483647 : Int32)))])) _
    refine iremM X18 hx rfl (hb hby at_95) rfl (by decide) ?_
    show Steps p.tables e below (T18.setTop (mkF m 96 #[.val (.long q1), .second, .val (.int p2), .val (.int p3), .val (.int p4), .val (.int p5), .val (.ref b6), .val (.int ((p3 &&& (2147483647 : Int32)) % (7 : Int32))), .val (.int ((p5 &&& (2147483647 : Int32)) % ((7 : Int32) - ((p3 &&& (2147483647 : Int32)) % (7 : Int32))))), .unset, .unset, .unset] [(.int ((p4 &&& (2147483647 : Int32)) % (8 : Int32)))])) _
    refine XS.istore X18.here hx rfl (hb hby at_96) rfl (l' := #[.val (.long q1), .second, .val (.int p2), .val (.int p3), .val (.int p4), .val (.int p5), .val (.ref b6), .val (.int ((p3 &&& (2147483647 : Int32)) % (7 : Int32))), .val (.int ((p5 &&& (2147483647 : Int32)) % ((7 : Int32) - ((p3 &&& (2147483647 : Int32)) % (7 : Int32))))), .val (.int ((p4 &&& (2147483647 : Int32)) % (8 : Int32))), .unset, .unset]) rfl ?_
    show Steps p.tables e below (T18.setTop (mkF m 98 #[.val (.long q1), .second, .val (.int p2), .val (.int p3), .val (.int p4), .val (.int p5), .val (.ref b6), .val (.int ((p3 &&& (2147483647 : Int32)) % (7 : Int32))), .val (.int ((p5 &&& (2147483647 : Int32)) % ((7 : Int32) - ((p3 &&& (2147483647 : Int32)) % (7 : Int32))))), .val (.int ((p4 &&& (2147483647 : Int32)) % (8 : Int32))), .unset, .unset] [])) _
    refine XS.aload X18.here hx rfl (hb hby at_98) rfl rfl ?_
    show Steps p.tables e below (T18.setTop (mkF m 100 #[.val (.long q1), .second, .val (.int p2), .val (.int p3), .val (.int p4), .val (.int p5), .val (.ref b6), .val (.int ((p3 &&& (2147483647 : Int32)) % (7 : Int32))), .val (.int ((p5 &&& (2147483647 : Int32)) % ((7 : Int32) - ((p3 &&& (2147483647 : Int32)) % (7 : Int32))))), .val (.int ((p4 &&& (2147483647 : Int32)) % (8 : Int32))), .unset, .unset] [(.ref b6)])) _
    refine XS.iload X18.here hx rfl (hb hby at_100) rfl ?_
    show Steps p.tables e below (T18.setTop (mkF m 102 #[.val (.long q1), .second, .val (.int p2), .val (.int p3), .val (.int p4), .val (.int p5), .val (.ref b6), .val (.int ((p3 &&& (2147483647 : Int32)) % (7 : Int32))), .val (.int ((p5 &&& (2147483647 : Int32)) % ((7 : Int32) - ((p3 &&& (2147483647 : Int32)) % (7 : Int32))))), .val (.int ((p4 &&& (2147483647 : Int32)) % (8 : Int32))), .unset, .unset] [(.int ((p3 &&& (2147483647 : Int32)) % (7 : Int32))), (.ref b6)])) _
    refine XS.iload X18.here hx rfl (hb hby at_102) rfl ?_
    show Steps p.tables e below (T18.setTop (mkF m 104 #[.val (.long q1), .second, .val (.int p2), .val (.int p3), .val (.int p4), .val (.int p5), .val (.ref b6), .val (.int ((p3 &&& (2147483647 : Int32)) % (7 : Int32))), .val (.int ((p5 &&& (2147483647 : Int32)) % ((7 : Int32) - ((p3 &&& (2147483647 : Int32)) % (7 : Int32))))), .val (.int ((p4 &&& (2147483647 : Int32)) % (8 : Int32))), .unset, .unset] [(.int ((p4 &&& (2147483647 : Int32)) % (8 : Int32))), (.int ((p3 &&& (2147483647 : Int32)) % (7 : Int32))), (.ref b6)])) _
    refine XS.iload X18.here hx rfl (hb hby at_104) rfl ?_
    show Steps p.tables e below (T18.setTop (mkF m 106 #[.val (.long q1), .second, .val (.int p2), .val (.int p3), .val (.int p4), .val (.int p5), .val (.ref b6), .val (.int ((p3 &&& (2147483647 : Int32)) % (7 : Int32))), .val (.int ((p5 &&& (2147483647 : Int32)) % ((7 : Int32) - ((p3 &&& (2147483647 : Int32)) % (7 : Int32))))), .val (.int ((p4 &&& (2147483647 : Int32)) % (8 : Int32))), .unset, .unset] [(.int ((p5 &&& (2147483647 : Int32)) % ((7 : Int32) - ((p3 &&& (2147483647 : Int32)) % (7 : Int32))))), (.int ((p4 &&& (2147483647 : Int32)) % (8 : Int32))), (.int ((p3 &&& (2147483647 : Int32)) % (7 : Int32))), (.ref b6)])) _
    refine st19 _ ?_
    show Steps p.tables e below (T19.setTop (mkF m 109 #[.val (.long q1), .second, .val (.int p2), .val (.int p3), .val (.int p4), .val (.int p5), .val (.ref b6), .val (.int ((p3 &&& (2147483647 : Int32)) % (7 : Int32))), .val (.int ((p5 &&& (2147483647 : Int32)) % ((7 : Int32) - ((p3 &&& (2147483647 : Int32)) % (7 : Int32))))), .val (.int ((p4 &&& (2147483647 : Int32)) % (8 : Int32))), .unset, .unset] [(.int (own_find (own_wv vs) O (Ln - Fm) Fm))])) _
    refine XS.istore X19.here hx rfl (hb hby at_109) rfl (l' := #[.val (.long q1), .second, .val (.int p2), .val (.int p3), .val (.int p4), .val (.int p5), .val (.ref b6), .val (.int ((p3 &&& (2147483647 : Int32)) % (7 : Int32))), .val (.int ((p5 &&& (2147483647 : Int32)) % ((7 : Int32) - ((p3 &&& (2147483647 : Int32)) % (7 : Int32))))), .val (.int ((p4 &&& (2147483647 : Int32)) % (8 : Int32))), .val (.int (own_find (own_wv vs) O (Ln - Fm) Fm)), .unset]) rfl ?_
    show Steps p.tables e below (T19.setTop (mkF m 111 #[.val (.long q1), .second, .val (.int p2), .val (.int p3), .val (.int p4), .val (.int p5), .val (.ref b6), .val (.int ((p3 &&& (2147483647 : Int32)) % (7 : Int32))), .val (.int ((p5 &&& (2147483647 : Int32)) % ((7 : Int32) - ((p3 &&& (2147483647 : Int32)) % (7 : Int32))))), .val (.int ((p4 &&& (2147483647 : Int32)) % (8 : Int32))), .val (.int (own_find (own_wv vs) O (Ln - Fm) Fm)), .unset] [])) _
    refine XS.iconst X19.here hx rfl (hb hby at_111) ?_
    show Steps p.tables e below (T19.setTop (mkF m 112 #[.val (.long q1), .second, .val (.int p2), .val (.int p3), .val (.int p4), .val (.int p5), .val (.ref b6), .val (.int ((p3 &&& (2147483647 : Int32)) % (7 : Int32))), .val (.int ((p5 &&& (2147483647 : Int32)) % ((7 : Int32) - ((p3 &&& (2147483647 : Int32)) % (7 : Int32))))), .val (.int ((p4 &&& (2147483647 : Int32)) % (8 : Int32))), .val (.int (own_find (own_wv vs) O (Ln - Fm) Fm)), .unset] [(.int (-1 : Int32))])) _
    refine XS.istore X19.here hx rfl (hb hby at_112) rfl (l' := #[.val (.long q1), .second, .val (.int p2), .val (.int p3), .val (.int p4), .val (.int p5), .val (.ref b6), .val (.int ((p3 &&& (2147483647 : Int32)) % (7 : Int32))), .val (.int ((p5 &&& (2147483647 : Int32)) % ((7 : Int32) - ((p3 &&& (2147483647 : Int32)) % (7 : Int32))))), .val (.int ((p4 &&& (2147483647 : Int32)) % (8 : Int32))), .val (.int (own_find (own_wv vs) O (Ln - Fm) Fm)), .val (.int (-1 : Int32))]) rfl ?_
    show Steps p.tables e below (T19.setTop (mkF m 114 #[.val (.long q1), .second, .val (.int p2), .val (.int p3), .val (.int p4), .val (.int p5), .val (.ref b6), .val (.int ((p3 &&& (2147483647 : Int32)) % (7 : Int32))), .val (.int ((p5 &&& (2147483647 : Int32)) % ((7 : Int32) - ((p3 &&& (2147483647 : Int32)) % (7 : Int32))))), .val (.int ((p4 &&& (2147483647 : Int32)) % (8 : Int32))), .val (.int (own_find (own_wv vs) O (Ln - Fm) Fm)), .val (.int (-1 : Int32))] [])) _
    refine XS.aload X19.here hx rfl (hb hby at_114) rfl rfl ?_
    show Steps p.tables e below (T19.setTop (mkF m 116 #[.val (.long q1), .second, .val (.int p2), .val (.int p3), .val (.int p4), .val (.int p5), .val (.ref b6), .val (.int ((p3 &&& (2147483647 : Int32)) % (7 : Int32))), .val (.int ((p5 &&& (2147483647 : Int32)) % ((7 : Int32) - ((p3 &&& (2147483647 : Int32)) % (7 : Int32))))), .val (.int ((p4 &&& (2147483647 : Int32)) % (8 : Int32))), .val (.int (own_find (own_wv vs) O (Ln - Fm) Fm)), .val (.int (-1 : Int32))] [(.ref b6)])) _
    refine XS.iload X19.here hx rfl (hb hby at_116) rfl ?_
    show Steps p.tables e below (T19.setTop (mkF m 118 #[.val (.long q1), .second, .val (.int p2), .val (.int p3), .val (.int p4), .val (.int p5), .val (.ref b6), .val (.int ((p3 &&& (2147483647 : Int32)) % (7 : Int32))), .val (.int ((p5 &&& (2147483647 : Int32)) % ((7 : Int32) - ((p3 &&& (2147483647 : Int32)) % (7 : Int32))))), .val (.int ((p4 &&& (2147483647 : Int32)) % (8 : Int32))), .val (.int (own_find (own_wv vs) O (Ln - Fm) Fm)), .val (.int (-1 : Int32))] [(.int ((p3 &&& (2147483647 : Int32)) % (7 : Int32))), (.ref b6)])) _
    refine XS.iload X19.here hx rfl (hb hby at_118) rfl ?_
    show Steps p.tables e below (T19.setTop (mkF m 120 #[.val (.long q1), .second, .val (.int p2), .val (.int p3), .val (.int p4), .val (.int p5), .val (.ref b6), .val (.int ((p3 &&& (2147483647 : Int32)) % (7 : Int32))), .val (.int ((p5 &&& (2147483647 : Int32)) % ((7 : Int32) - ((p3 &&& (2147483647 : Int32)) % (7 : Int32))))), .val (.int ((p4 &&& (2147483647 : Int32)) % (8 : Int32))), .val (.int (own_find (own_wv vs) O (Ln - Fm) Fm)), .val (.int (-1 : Int32))] [(.int ((p4 &&& (2147483647 : Int32)) % (8 : Int32))), (.int ((p3 &&& (2147483647 : Int32)) % (7 : Int32))), (.ref b6)])) _
    refine XS.iload X19.here hx rfl (hb hby at_120) rfl ?_
    show Steps p.tables e below (T19.setTop (mkF m 122 #[.val (.long q1), .second, .val (.int p2), .val (.int p3), .val (.int p4), .val (.int p5), .val (.ref b6), .val (.int ((p3 &&& (2147483647 : Int32)) % (7 : Int32))), .val (.int ((p5 &&& (2147483647 : Int32)) % ((7 : Int32) - ((p3 &&& (2147483647 : Int32)) % (7 : Int32))))), .val (.int ((p4 &&& (2147483647 : Int32)) % (8 : Int32))), .val (.int (own_find (own_wv vs) O (Ln - Fm) Fm)), .val (.int (-1 : Int32))] [(.int ((p5 &&& (2147483647 : Int32)) % ((7 : Int32) - ((p3 &&& (2147483647 : Int32)) % (7 : Int32))))), (.int ((p4 &&& (2147483647 : Int32)) % (8 : Int32))), (.int ((p3 &&& (2147483647 : Int32)) % (7 : Int32))), (.ref b6)])) _
    refine XS.iconst X19.here hx rfl (hb hby at_122) ?_
    show Steps p.tables e below (T19.setTop (mkF m 123 #[.val (.long q1), .second, .val (.int p2), .val (.int p3), .val (.int p4), .val (.int p5), .val (.ref b6), .val (.int ((p3 &&& (2147483647 : Int32)) % (7 : Int32))), .val (.int ((p5 &&& (2147483647 : Int32)) % ((7 : Int32) - ((p3 &&& (2147483647 : Int32)) % (7 : Int32))))), .val (.int ((p4 &&& (2147483647 : Int32)) % (8 : Int32))), .val (.int (own_find (own_wv vs) O (Ln - Fm) Fm)), .val (.int (-1 : Int32))] [(.int (5 : Int32)), (.int ((p5 &&& (2147483647 : Int32)) % ((7 : Int32) - ((p3 &&& (2147483647 : Int32)) % (7 : Int32))))), (.int ((p4 &&& (2147483647 : Int32)) % (8 : Int32))), (.int ((p3 &&& (2147483647 : Int32)) % (7 : Int32))), (.ref b6)])) _
    refine st20 _ ?_
    show Steps p.tables e below (T20.setTop (mkF m 126 #[.val (.long q1), .second, .val (.int p2), .val (.int p3), .val (.int p4), .val (.int p5), .val (.ref b6), .val (.int ((p3 &&& (2147483647 : Int32)) % (7 : Int32))), .val (.int ((p5 &&& (2147483647 : Int32)) % ((7 : Int32) - ((p3 &&& (2147483647 : Int32)) % (7 : Int32))))), .val (.int ((p4 &&& (2147483647 : Int32)) % (8 : Int32))), .val (.int (own_find (own_wv vs) O (Ln - Fm) Fm)), .val (.int (-1 : Int32))] [(.int (own_zv (own_wv vs) O Fm Ln 5))])) _
    have J5 : ∀ tg, Steps p.tables e below (T20.setTop (mkF m 132 #[.val (.long q1), .second, .val (.int p2), .val (.int p3), .val (.int p4), .val (.int p5), .val (.ref b6), .val (.int ((p3 &&& (2147483647 : Int32)) % (7 : Int32))), .val (.int ((p5 &&& (2147483647 : Int32)) % ((7 : Int32) - ((p3 &&& (2147483647 : Int32)) % (7 : Int32))))), .val (.int ((p4 &&& (2147483647 : Int32)) % (8 : Int32))), .val (.int (own_find (own_wv vs) O (Ln - Fm) Fm)), .val (.int (own_up (own_zv (own_wv vs) O Fm Ln 5) (5 : Int32) (-1 : Int32)))] [])) tg → Steps p.tables e below (T20.setTop (mkF m 126 #[.val (.long q1), .second, .val (.int p2), .val (.int p3), .val (.int p4), .val (.int p5), .val (.ref b6), .val (.int ((p3 &&& (2147483647 : Int32)) % (7 : Int32))), .val (.int ((p5 &&& (2147483647 : Int32)) % ((7 : Int32) - ((p3 &&& (2147483647 : Int32)) % (7 : Int32))))), .val (.int ((p4 &&& (2147483647 : Int32)) % (8 : Int32))), .val (.int (own_find (own_wv vs) O (Ln - Fm) Fm)), .val (.int (-1 : Int32))] [(.int (own_zv (own_wv vs) O Fm Ln 5))])) tg := by
      intro tg kt
      by_cases hz : (own_zv (own_wv vs) O Fm Ln 5) = (0 : Int32)
      · refine XS.ifYes X20.here hx rfl (pc0 := 126) (pc' := 132) rfl (hb hby at_126) rfl ((if0 _ _).trans (teq hz).1) (by decide) (by decide) ?_
        have ew : (own_up (own_zv (own_wv vs) O Fm Ln 5) (5 : Int32) (-1 : Int32)) = (-1 : Int32) := if_pos hz
        rw [ew] at kt; exact kt
      · refine XS.ifNo X20.here hx rfl (hb hby at_126) rfl ((if0 _ _).trans (feq hz).1) ?_
        show Steps p.tables e below (T20.setTop (mkF m 129 #[.val (.long q1), .second, .val (.int p2), .val (.int p3), .val (.int p4), .val (.int p5), .val (.ref b6), .val (.int ((p3 &&& (2147483647 : Int32)) % (7 : Int32))), .val (.int ((p5 &&& (2147483647 : Int32)) % ((7 : Int32) - ((p3 &&& (2147483647 : Int32)) % (7 : Int32))))), .val (.int ((p4 &&& (2147483647 : Int32)) % (8 : Int32))), .val (.int (own_find (own_wv vs) O (Ln - Fm) Fm)), .val (.int (-1 : Int32))] [])) _
        refine XS.iconst X20.here hx rfl (hb hby at_129) ?_
        show Steps p.tables e below (T20.setTop (mkF m 130 #[.val (.long q1), .second, .val (.int p2), .val (.int p3), .val (.int p4), .val (.int p5), .val (.ref b6), .val (.int ((p3 &&& (2147483647 : Int32)) % (7 : Int32))), .val (.int ((p5 &&& (2147483647 : Int32)) % ((7 : Int32) - ((p3 &&& (2147483647 : Int32)) % (7 : Int32))))), .val (.int ((p4 &&& (2147483647 : Int32)) % (8 : Int32))), .val (.int (own_find (own_wv vs) O (Ln - Fm) Fm)), .val (.int (-1 : Int32))] [(.int (5 : Int32))])) _
        refine XS.istore X20.here hx rfl (hb hby at_130) rfl (l' := #[.val (.long q1), .second, .val (.int p2), .val (.int p3), .val (.int p4), .val (.int p5), .val (.ref b6), .val (.int ((p3 &&& (2147483647 : Int32)) % (7 : Int32))), .val (.int ((p5 &&& (2147483647 : Int32)) % ((7 : Int32) - ((p3 &&& (2147483647 : Int32)) % (7 : Int32))))), .val (.int ((p4 &&& (2147483647 : Int32)) % (8 : Int32))), .val (.int (own_find (own_wv vs) O (Ln - Fm) Fm)), .val (.int (5 : Int32))]) rfl ?_
        have ew : (own_up (own_zv (own_wv vs) O Fm Ln 5) (5 : Int32) (-1 : Int32)) = (5 : Int32) := if_neg hz
        rw [ew] at kt; exact kt
    refine J5 _ ?_
    show Steps p.tables e below (T20.setTop (mkF m 132 #[.val (.long q1), .second, .val (.int p2), .val (.int p3), .val (.int p4), .val (.int p5), .val (.ref b6), .val (.int ((p3 &&& (2147483647 : Int32)) % (7 : Int32))), .val (.int ((p5 &&& (2147483647 : Int32)) % ((7 : Int32) - ((p3 &&& (2147483647 : Int32)) % (7 : Int32))))), .val (.int ((p4 &&& (2147483647 : Int32)) % (8 : Int32))), .val (.int (own_find (own_wv vs) O (Ln - Fm) Fm)), .val (.int (own_up (own_zv (own_wv vs) O Fm Ln 5) (5 : Int32) (-1 : Int32)))] [])) _
    refine XS.aload X20.here hx rfl (hb hby at_132) rfl rfl ?_
    show Steps p.tables e below (T20.setTop (mkF m 134 #[.val (.long q1), .second, .val (.int p2), .val (.int p3), .val (.int p4), .val (.int p5), .val (.ref b6), .val (.int ((p3 &&& (2147483647 : Int32)) % (7 : Int32))), .val (.int ((p5 &&& (2147483647 : Int32)) % ((7 : Int32) - ((p3 &&& (2147483647 : Int32)) % (7 : Int32))))), .val (.int ((p4 &&& (2147483647 : Int32)) % (8 : Int32))), .val (.int (own_find (own_wv vs) O (Ln - Fm) Fm)), .val (.int (own_up (own_zv (own_wv vs) O Fm Ln 5) (5 : Int32) (-1 : Int32)))] [(.ref b6)])) _
    refine XS.iload X20.here hx rfl (hb hby at_134) rfl ?_
    show Steps p.tables e below (T20.setTop (mkF m 136 #[.val (.long q1), .second, .val (.int p2), .val (.int p3), .val (.int p4), .val (.int p5), .val (.ref b6), .val (.int ((p3 &&& (2147483647 : Int32)) % (7 : Int32))), .val (.int ((p5 &&& (2147483647 : Int32)) % ((7 : Int32) - ((p3 &&& (2147483647 : Int32)) % (7 : Int32))))), .val (.int ((p4 &&& (2147483647 : Int32)) % (8 : Int32))), .val (.int (own_find (own_wv vs) O (Ln - Fm) Fm)), .val (.int (own_up (own_zv (own_wv vs) O Fm Ln 5) (5 : Int32) (-1 : Int32)))] [(.int ((p3 &&& (2147483647 : Int32)) % (7 : Int32))), (.ref b6)])) _
    refine XS.iload X20.here hx rfl (hb hby at_136) rfl ?_
    show Steps p.tables e below (T20.setTop (mkF m 138 #[.val (.long q1), .second, .val (.int p2), .val (.int p3), .val (.int p4), .val (.int p5), .val (.ref b6), .val (.int ((p3 &&& (2147483647 : Int32)) % (7 : Int32))), .val (.int ((p5 &&& (2147483647 : Int32)) % ((7 : Int32) - ((p3 &&& (2147483647 : Int32)) % (7 : Int32))))), .val (.int ((p4 &&& (2147483647 : Int32)) % (8 : Int32))), .val (.int (own_find (own_wv vs) O (Ln - Fm) Fm)), .val (.int (own_up (own_zv (own_wv vs) O Fm Ln 5) (5 : Int32) (-1 : Int32)))] [(.int ((p4 &&& (2147483647 : Int32)) % (8 : Int32))), (.int ((p3 &&& (2147483647 : Int32)) % (7 : Int32))), (.ref b6)])) _
    refine XS.iload X20.here hx rfl (hb hby at_138) rfl ?_
    show Steps p.tables e below (T20.setTop (mkF m 140 #[.val (.long q1), .second, .val (.int p2), .val (.int p3), .val (.int p4), .val (.int p5), .val (.ref b6), .val (.int ((p3 &&& (2147483647 : Int32)) % (7 : Int32))), .val (.int ((p5 &&& (2147483647 : Int32)) % ((7 : Int32) - ((p3 &&& (2147483647 : Int32)) % (7 : Int32))))), .val (.int ((p4 &&& (2147483647 : Int32)) % (8 : Int32))), .val (.int (own_find (own_wv vs) O (Ln - Fm) Fm)), .val (.int (own_up (own_zv (own_wv vs) O Fm Ln 5) (5 : Int32) (-1 : Int32)))] [(.int ((p5 &&& (2147483647 : Int32)) % ((7 : Int32) - ((p3 &&& (2147483647 : Int32)) % (7 : Int32))))), (.int ((p4 &&& (2147483647 : Int32)) % (8 : Int32))), (.int ((p3 &&& (2147483647 : Int32)) % (7 : Int32))), (.ref b6)])) _
    refine XS.iconst X20.here hx rfl (hb hby at_140) ?_
    show Steps p.tables e below (T20.setTop (mkF m 141 #[.val (.long q1), .second, .val (.int p2), .val (.int p3), .val (.int p4), .val (.int p5), .val (.ref b6), .val (.int ((p3 &&& (2147483647 : Int32)) % (7 : Int32))), .val (.int ((p5 &&& (2147483647 : Int32)) % ((7 : Int32) - ((p3 &&& (2147483647 : Int32)) % (7 : Int32))))), .val (.int ((p4 &&& (2147483647 : Int32)) % (8 : Int32))), .val (.int (own_find (own_wv vs) O (Ln - Fm) Fm)), .val (.int (own_up (own_zv (own_wv vs) O Fm Ln 5) (5 : Int32) (-1 : Int32)))] [(.int (4 : Int32)), (.int ((p5 &&& (2147483647 : Int32)) % ((7 : Int32) - ((p3 &&& (2147483647 : Int32)) % (7 : Int32))))), (.int ((p4 &&& (2147483647 : Int32)) % (8 : Int32))), (.int ((p3 &&& (2147483647 : Int32)) % (7 : Int32))), (.ref b6)])) _
    refine st21 _ ?_
    show Steps p.tables e below (T21.setTop (mkF m 144 #[.val (.long q1), .second, .val (.int p2), .val (.int p3), .val (.int p4), .val (.int p5), .val (.ref b6), .val (.int ((p3 &&& (2147483647 : Int32)) % (7 : Int32))), .val (.int ((p5 &&& (2147483647 : Int32)) % ((7 : Int32) - ((p3 &&& (2147483647 : Int32)) % (7 : Int32))))), .val (.int ((p4 &&& (2147483647 : Int32)) % (8 : Int32))), .val (.int (own_find (own_wv vs) O (Ln - Fm) Fm)), .val (.int (own_up (own_zv (own_wv vs) O Fm Ln 5) (5 : Int32) (-1 : Int32)))] [(.int (own_zv (own_wv vs) O Fm Ln 4))])) _
    have J4 : ∀ tg, Steps p.tables e below (T21.setTop (mkF m 150 #[.val (.long q1), .second, .val (.int p2), .val (.int p3), .val (.int p4), .val (.int p5), .val (.ref b6), .val (.int ((p3 &&& (2147483647 : Int32)) % (7 : Int32))), .val (.int ((p5 &&& (2147483647 : Int32)) % ((7 : Int32) - ((p3 &&& (2147483647 : Int32)) % (7 : Int32))))), .val (.int ((p4 &&& (2147483647 : Int32)) % (8 : Int32))), .val (.int (own_find (own_wv vs) O (Ln - Fm) Fm)), .val (.int (own_up (own_zv (own_wv vs) O Fm Ln 4) (4 : Int32) (own_up (own_zv (own_wv vs) O Fm Ln 5) (5 : Int32) (-1 : Int32))))] [])) tg → Steps p.tables e below (T21.setTop (mkF m 144 #[.val (.long q1), .second, .val (.int p2), .val (.int p3), .val (.int p4), .val (.int p5), .val (.ref b6), .val (.int ((p3 &&& (2147483647 : Int32)) % (7 : Int32))), .val (.int ((p5 &&& (2147483647 : Int32)) % ((7 : Int32) - ((p3 &&& (2147483647 : Int32)) % (7 : Int32))))), .val (.int ((p4 &&& (2147483647 : Int32)) % (8 : Int32))), .val (.int (own_find (own_wv vs) O (Ln - Fm) Fm)), .val (.int (own_up (own_zv (own_wv vs) O Fm Ln 5) (5 : Int32) (-1 : Int32)))] [(.int (own_zv (own_wv vs) O Fm Ln 4))])) tg := by
      intro tg kt
      by_cases hz : (own_zv (own_wv vs) O Fm Ln 4) = (0 : Int32)
      · refine XS.ifYes X21.here hx rfl (pc0 := 144) (pc' := 150) rfl (hb hby at_144) rfl ((if0 _ _).trans (teq hz).1) (by decide) (by decide) ?_
        have ew : (own_up (own_zv (own_wv vs) O Fm Ln 4) (4 : Int32) (own_up (own_zv (own_wv vs) O Fm Ln 5) (5 : Int32) (-1 : Int32))) = (own_up (own_zv (own_wv vs) O Fm Ln 5) (5 : Int32) (-1 : Int32)) := if_pos hz
        rw [ew] at kt; exact kt
      · refine XS.ifNo X21.here hx rfl (hb hby at_144) rfl ((if0 _ _).trans (feq hz).1) ?_
        show Steps p.tables e below (T21.setTop (mkF m 147 #[.val (.long q1), .second, .val (.int p2), .val (.int p3), .val (.int p4), .val (.int p5), .val (.ref b6), .val (.int ((p3 &&& (2147483647 : Int32)) % (7 : Int32))), .val (.int ((p5 &&& (2147483647 : Int32)) % ((7 : Int32) - ((p3 &&& (2147483647 : Int32)) % (7 : Int32))))), .val (.int ((p4 &&& (2147483647 : Int32)) % (8 : Int32))), .val (.int (own_find (own_wv vs) O (Ln - Fm) Fm)), .val (.int (own_up (own_zv (own_wv vs) O Fm Ln 5) (5 : Int32) (-1 : Int32)))] [])) _
        refine XS.iconst X21.here hx rfl (hb hby at_147) ?_
        show Steps p.tables e below (T21.setTop (mkF m 148 #[.val (.long q1), .second, .val (.int p2), .val (.int p3), .val (.int p4), .val (.int p5), .val (.ref b6), .val (.int ((p3 &&& (2147483647 : Int32)) % (7 : Int32))), .val (.int ((p5 &&& (2147483647 : Int32)) % ((7 : Int32) - ((p3 &&& (2147483647 : Int32)) % (7 : Int32))))), .val (.int ((p4 &&& (2147483647 : Int32)) % (8 : Int32))), .val (.int (own_find (own_wv vs) O (Ln - Fm) Fm)), .val (.int (own_up (own_zv (own_wv vs) O Fm Ln 5) (5 : Int32) (-1 : Int32)))] [(.int (4 : Int32))])) _
        refine XS.istore X21.here hx rfl (hb hby at_148) rfl (l' := #[.val (.long q1), .second, .val (.int p2), .val (.int p3), .val (.int p4), .val (.int p5), .val (.ref b6), .val (.int ((p3 &&& (2147483647 : Int32)) % (7 : Int32))), .val (.int ((p5 &&& (2147483647 : Int32)) % ((7 : Int32) - ((p3 &&& (2147483647 : Int32)) % (7 : Int32))))), .val (.int ((p4 &&& (2147483647 : Int32)) % (8 : Int32))), .val (.int (own_find (own_wv vs) O (Ln - Fm) Fm)), .val (.int (4 : Int32))]) rfl ?_
        have ew : (own_up (own_zv (own_wv vs) O Fm Ln 4) (4 : Int32) (own_up (own_zv (own_wv vs) O Fm Ln 5) (5 : Int32) (-1 : Int32))) = (4 : Int32) := if_neg hz
        rw [ew] at kt; exact kt
    refine J4 _ ?_
    show Steps p.tables e below (T21.setTop (mkF m 150 #[.val (.long q1), .second, .val (.int p2), .val (.int p3), .val (.int p4), .val (.int p5), .val (.ref b6), .val (.int ((p3 &&& (2147483647 : Int32)) % (7 : Int32))), .val (.int ((p5 &&& (2147483647 : Int32)) % ((7 : Int32) - ((p3 &&& (2147483647 : Int32)) % (7 : Int32))))), .val (.int ((p4 &&& (2147483647 : Int32)) % (8 : Int32))), .val (.int (own_find (own_wv vs) O (Ln - Fm) Fm)), .val (.int (own_up (own_zv (own_wv vs) O Fm Ln 4) (4 : Int32) (own_up (own_zv (own_wv vs) O Fm Ln 5) (5 : Int32) (-1 : Int32))))] [])) _
    refine XS.aload X21.here hx rfl (hb hby at_150) rfl rfl ?_
    show Steps p.tables e below (T21.setTop (mkF m 152 #[.val (.long q1), .second, .val (.int p2), .val (.int p3), .val (.int p4), .val (.int p5), .val (.ref b6), .val (.int ((p3 &&& (2147483647 : Int32)) % (7 : Int32))), .val (.int ((p5 &&& (2147483647 : Int32)) % ((7 : Int32) - ((p3 &&& (2147483647 : Int32)) % (7 : Int32))))), .val (.int ((p4 &&& (2147483647 : Int32)) % (8 : Int32))), .val (.int (own_find (own_wv vs) O (Ln - Fm) Fm)), .val (.int (own_up (own_zv (own_wv vs) O Fm Ln 4) (4 : Int32) (own_up (own_zv (own_wv vs) O Fm Ln 5) (5 : Int32) (-1 : Int32))))] [(.ref b6)])) _
    refine XS.iload X21.here hx rfl (hb hby at_152) rfl ?_
    show Steps p.tables e below (T21.setTop (mkF m 154 #[.val (.long q1), .second, .val (.int p2), .val (.int p3), .val (.int p4), .val (.int p5), .val (.ref b6), .val (.int ((p3 &&& (2147483647 : Int32)) % (7 : Int32))), .val (.int ((p5 &&& (2147483647 : Int32)) % ((7 : Int32) - ((p3 &&& (2147483647 : Int32)) % (7 : Int32))))), .val (.int ((p4 &&& (2147483647 : Int32)) % (8 : Int32))), .val (.int (own_find (own_wv vs) O (Ln - Fm) Fm)), .val (.int (own_up (own_zv (own_wv vs) O Fm Ln 4) (4 : Int32) (own_up (own_zv (own_wv vs) O Fm Ln 5) (5 : Int32) (-1 : Int32))))] [(.int ((p3 &&& (2147483647 : Int32)) % (7 : Int32))), (.ref b6)])) _
    refine XS.iload X21.here hx rfl (hb hby at_154) rfl ?_
    show Steps p.tables e below (T21.setTop (mkF m 156 #[.val (.long q1), .second, .val (.int p2), .val (.int p3), .val (.int p4), .val (.int p5), .val (.ref b6), .val (.int ((p3 &&& (2147483647 : Int32)) % (7 : Int32))), .val (.int ((p5 &&& (2147483647 : Int32)) % ((7 : Int32) - ((p3 &&& (2147483647 : Int32)) % (7 : Int32))))), .val (.int ((p4 &&& (2147483647 : Int32)) % (8 : Int32))), .val (.int (own_find (own_wv vs) O (Ln - Fm) Fm)), .val (.int (own_up (own_zv (own_wv vs) O Fm Ln 4) (4 : Int32) (own_up (own_zv (own_wv vs) O Fm Ln 5) (5 : Int32) (-1 : Int32))))] [(.int ((p4 &&& (2147483647 : Int32)) % (8 : Int32))), (.int ((p3 &&& (2147483647 : Int32)) % (7 : Int32))), (.ref b6)])) _
    refine XS.iload X21.here hx rfl (hb hby at_156) rfl ?_
    show Steps p.tables e below (T21.setTop (mkF m 158 #[.val (.long q1), .second, .val (.int p2), .val (.int p3), .val (.int p4), .val (.int p5), .val (.ref b6), .val (.int ((p3 &&& (2147483647 : Int32)) % (7 : Int32))), .val (.int ((p5 &&& (2147483647 : Int32)) % ((7 : Int32) - ((p3 &&& (2147483647 : Int32)) % (7 : Int32))))), .val (.int ((p4 &&& (2147483647 : Int32)) % (8 : Int32))), .val (.int (own_find (own_wv vs) O (Ln - Fm) Fm)), .val (.int (own_up (own_zv (own_wv vs) O Fm Ln 4) (4 : Int32) (own_up (own_zv (own_wv vs) O Fm Ln 5) (5 : Int32) (-1 : Int32))))] [(.int ((p5 &&& (2147483647 : Int32)) % ((7 : Int32) - ((p3 &&& (2147483647 : Int32)) % (7 : Int32))))), (.int ((p4 &&& (2147483647 : Int32)) % (8 : Int32))), (.int ((p3 &&& (2147483647 : Int32)) % (7 : Int32))), (.ref b6)])) _
    refine XS.iconst X21.here hx rfl (hb hby at_158) ?_
    show Steps p.tables e below (T21.setTop (mkF m 159 #[.val (.long q1), .second, .val (.int p2), .val (.int p3), .val (.int p4), .val (.int p5), .val (.ref b6), .val (.int ((p3 &&& (2147483647 : Int32)) % (7 : Int32))), .val (.int ((p5 &&& (2147483647 : Int32)) % ((7 : Int32) - ((p3 &&& (2147483647 : Int32)) % (7 : Int32))))), .val (.int ((p4 &&& (2147483647 : Int32)) % (8 : Int32))), .val (.int (own_find (own_wv vs) O (Ln - Fm) Fm)), .val (.int (own_up (own_zv (own_wv vs) O Fm Ln 4) (4 : Int32) (own_up (own_zv (own_wv vs) O Fm Ln 5) (5 : Int32) (-1 : Int32))))] [(.int (3 : Int32)), (.int ((p5 &&& (2147483647 : Int32)) % ((7 : Int32) - ((p3 &&& (2147483647 : Int32)) % (7 : Int32))))), (.int ((p4 &&& (2147483647 : Int32)) % (8 : Int32))), (.int ((p3 &&& (2147483647 : Int32)) % (7 : Int32))), (.ref b6)])) _
    refine st22 _ ?_
    show Steps p.tables e below (T22.setTop (mkF m 162 #[.val (.long q1), .second, .val (.int p2), .val (.int p3), .val (.int p4), .val (.int p5), .val (.ref b6), .val (.int ((p3 &&& (2147483647 : Int32)) % (7 : Int32))), .val (.int ((p5 &&& (2147483647 : Int32)) % ((7 : Int32) - ((p3 &&& (2147483647 : Int32)) % (7 : Int32))))), .val (.int ((p4 &&& (2147483647 : Int32)) % (8 : Int32))), .val (.int (own_find (own_wv vs) O (Ln - Fm) Fm)), .val (.int (own_up (own_zv (own_wv vs) O Fm Ln 4) (4 : Int32) (own_up (own_zv (own_wv vs) O Fm Ln 5) (5 : Int32) (-1 : Int32))))] [(.int (own_zv (own_wv vs) O Fm Ln 3))])) _
    have J3 : ∀ tg, Steps p.tables e below (T22.setTop (mkF m 168 #[.val (.long q1), .second, .val (.int p2), .val (.int p3), .val (.int p4), .val (.int p5), .val (.ref b6), .val (.int ((p3 &&& (2147483647 : Int32)) % (7 : Int32))), .val (.int ((p5 &&& (2147483647 : Int32)) % ((7 : Int32) - ((p3 &&& (2147483647 : Int32)) % (7 : Int32))))), .val (.int ((p4 &&& (2147483647 : Int32)) % (8 : Int32))), .val (.int (own_find (own_wv vs) O (Ln - Fm) Fm)), .val (.int (own_up (own_zv (own_wv vs) O Fm Ln 3) (3 : Int32) (own_up (own_zv (own_wv vs) O Fm Ln 4) (4 : Int32) (own_up (own_zv (own_wv vs) O Fm Ln 5) (5 : Int32) (-1 : Int32)))))] [])) tg → Steps p.tables e below (T22.setTop (mkF m 162 #[.val (.long q1), .second, .val (.int p2), .val (.int p3), .val (.int p4), .val (.int p5), .val (.ref b6), .val (.int ((p3 &&& (2147483647 : Int32)) % (7 : Int32))), .val (.int ((p5 &&& (2147483647 : Int32)) % ((7 : Int32) - ((p3 &&& (2147483647 : Int32)) % (7 : Int32))))), .val (.int ((p4 &&& (2147483647 : Int32)) % (8 : Int32))), .val (.int (own_find (own_wv vs) O (Ln - Fm) Fm)), .val (.int (own_up (own_zv (own_wv vs) O Fm Ln 4) (4 : Int32) (own_up (own_zv (own_wv vs) O Fm Ln 5) (5 : Int32) (-1 : Int32))))] [(.int (own_zv (own_wv vs) O Fm Ln 3))])) tg := by
      intro tg kt
      by_cases hz : (own_zv (own_wv vs) O Fm Ln 3) = (0 : Int32)
      · refine XS.ifYes X22.here hx rfl (pc0 := 162) (pc' := 168) rfl (hb hby at_162) rfl ((if0 _ _).trans (teq hz).1) (by decide) (by decide) ?_
        have ew : (own_up (own_zv (own_wv vs) O Fm Ln 3) (3 : Int32) (own_up (own_zv (own_wv vs) O Fm Ln 4) (4 : Int32) (own_up (own_zv (own_wv vs) O Fm Ln 5) (5 : Int32) (-1 : Int32)))) = (own_up (own_zv (own_wv vs) O Fm Ln 4) (4 : Int32) (own_up (own_zv (own_wv vs) O Fm Ln 5) (5 : Int32) (-1 : Int32))) := if_pos hz
        rw [ew] at kt; exact kt
      · refine XS.ifNo X22.here hx rfl (hb hby at_162) rfl ((if0 _ _).trans (feq hz).1) ?_
        show Steps p.tables e below (T22.setTop (mkF m 165 #[.val (.long q1), .second, .val (.int p2), .val (.int p3), .val (.int p4), .val (.int p5), .val (.ref b6), .val (.int ((p3 &&& (2147483647 : Int32)) % (7 : Int32))), .val (.int ((p5 &&& (2147483647 : Int32)) % ((7 : Int32) - ((p3 &&& (2147483647 : Int32)) % (7 : Int32))))), .val (.int ((p4 &&& (2147483647 : Int32)) % (8 : Int32))), .val (.int (own_find (own_wv vs) O (Ln - Fm) Fm)), .val (.int (own_up (own_zv (own_wv vs) O Fm Ln 4) (4 : Int32) (own_up (own_zv (own_wv vs) O Fm Ln 5) (5 : Int32) (-1 : Int32))))] [])) _
        refine XS.iconst X22.here hx rfl (hb hby at_165) ?_
        show Steps p.tables e below (T22.setTop (mkF m 166 #[.val (.long q1), .second, .val (.int p2), .val (.int p3), .val (.int p4), .val (.int p5), .val (.ref b6), .val (.int ((p3 &&& (2147483647 : Int32)) % (7 : Int32))), .val (.int ((p5 &&& (2147483647 : Int32)) % ((7 : Int32) - ((p3 &&& (2147483647 : Int32)) % (7 : Int32))))), .val (.int ((p4 &&& (2147483647 : Int32)) % (8 : Int32))), .val (.int (own_find (own_wv vs) O (Ln - Fm) Fm)), .val (.int (own_up (own_zv (own_wv vs) O Fm Ln 4) (4 : Int32) (own_up (own_zv (own_wv vs) O Fm Ln 5) (5 : Int32) (-1 : Int32))))] [(.int (3 : Int32))])) _
        refine XS.istore X22.here hx rfl (hb hby at_166) rfl (l' := #[.val (.long q1), .second, .val (.int p2), .val (.int p3), .val (.int p4), .val (.int p5), .val (.ref b6), .val (.int ((p3 &&& (2147483647 : Int32)) % (7 : Int32))), .val (.int ((p5 &&& (2147483647 : Int32)) % ((7 : Int32) - ((p3 &&& (2147483647 : Int32)) % (7 : Int32))))), .val (.int ((p4 &&& (2147483647 : Int32)) % (8 : Int32))), .val (.int (own_find (own_wv vs) O (Ln - Fm) Fm)), .val (.int (3 : Int32))]) rfl ?_
        have ew : (own_up (own_zv (own_wv vs) O Fm Ln 3) (3 : Int32) (own_up (own_zv (own_wv vs) O Fm Ln 4) (4 : Int32) (own_up (own_zv (own_wv vs) O Fm Ln 5) (5 : Int32) (-1 : Int32)))) = (3 : Int32) := if_neg hz
        rw [ew] at kt; exact kt
    refine J3 _ ?_
    show Steps p.tables e below (T22.setTop (mkF m 168 #[.val (.long q1), .second, .val (.int p2), .val (.int p3), .val (.int p4), .val (.int p5), .val (.ref b6), .val (.int ((p3 &&& (2147483647 : Int32)) % (7 : Int32))), .val (.int ((p5 &&& (2147483647 : Int32)) % ((7 : Int32) - ((p3 &&& (2147483647 : Int32)) % (7 : Int32))))), .val (.int ((p4 &&& (2147483647 : Int32)) % (8 : Int32))), .val (.int (own_find (own_wv vs) O (Ln - Fm) Fm)), .val (.int (own_up (own_zv (own_wv vs) O Fm Ln 3) (3 : Int32) (own_up (own_zv (own_wv vs) O Fm Ln 4) (4 : Int32) (own_up (own_zv (own_wv vs) O Fm Ln 5) (5 : Int32) (-1 : Int32)))))] [])) _
    refine XS.aload X22.here hx rfl (hb hby at_168) rfl rfl ?_
    show Steps p.tables e below (T22.setTop (mkF m 170 #[.val (.long q1), .second, .val (.int p2), .val (.int p3), .val (.int p4), .val (.int p5), .val (.ref b6), .val (.int ((p3 &&& (2147483647 : Int32)) % (7 : Int32))), .val (.int ((p5 &&& (2147483647 : Int32)) % ((7 : Int32) - ((p3 &&& (2147483647 : Int32)) % (7 : Int32))))), .val (.int ((p4 &&& (2147483647 : Int32)) % (8 : Int32))), .val (.int (own_find (own_wv vs) O (Ln - Fm) Fm)), .val (.int (own_up (own_zv (own_wv vs) O Fm Ln 3) (3 : Int32) (own_up (own_zv (own_wv vs) O Fm Ln 4) (4 : Int32) (own_up (own_zv (own_wv vs) O Fm Ln 5) (5 : Int32) (-1 : Int32)))))] [(.ref b6)])) _
    refine XS.iload X22.here hx rfl (hb hby at_170) rfl ?_
    show Steps p.tables e below (T22.setTop (mkF m 172 #[.val (.long q1), .second, .val (.int p2), .val (.int p3), .val (.int p4), .val (.int p5), .val (.ref b6), .val (.int ((p3 &&& (2147483647 : Int32)) % (7 : Int32))), .val (.int ((p5 &&& (2147483647 : Int32)) % ((7 : Int32) - ((p3 &&& (2147483647 : Int32)) % (7 : Int32))))), .val (.int ((p4 &&& (2147483647 : Int32)) % (8 : Int32))), .val (.int (own_find (own_wv vs) O (Ln - Fm) Fm)), .val (.int (own_up (own_zv (own_wv vs) O Fm Ln 3) (3 : Int32) (own_up (own_zv (own_wv vs) O Fm Ln 4) (4 : Int32) (own_up (own_zv (own_wv vs) O Fm Ln 5) (5 : Int32) (-1 : Int32)))))] [(.int ((p3 &&& (2147483647 : Int32)) % (7 : Int32))), (.ref b6)])) _
    refine XS.iload X22.here hx rfl (hb hby at_172) rfl ?_
    show Steps p.tables e below (T22.setTop (mkF m 174 #[.val (.long q1), .second, .val (.int p2), .val (.int p3), .val (.int p4), .val (.int p5), .val (.ref b6), .val (.int ((p3 &&& (2147483647 : Int32)) % (7 : Int32))), .val (.int ((p5 &&& (2147483647 : Int32)) % ((7 : Int32) - ((p3 &&& (2147483647 : Int32)) % (7 : Int32))))), .val (.int ((p4 &&& (2147483647 : Int32)) % (8 : Int32))), .val (.int (own_find (own_wv vs) O (Ln - Fm) Fm)), .val (.int (own_up (own_zv (own_wv vs) O Fm Ln 3) (3 : Int32) (own_up (own_zv (own_wv vs) O Fm Ln 4) (4 : Int32) (own_up (own_zv (own_wv vs) O Fm Ln 5) (5 : Int32) (-1 : Int32)))))] [(.int ((p4 &&& (2147483647 : Int32)) % (8 : Int32))), (.int ((p3 &&& (2147483647 : Int32)) % (7 : Int32))), (.ref b6)])) _
    refine XS.iload X22.here hx rfl (hb hby at_174) rfl ?_
    show Steps p.tables e below (T22.setTop (mkF m 176 #[.val (.long q1), .second, .val (.int p2), .val (.int p3), .val (.int p4), .val (.int p5), .val (.ref b6), .val (.int ((p3 &&& (2147483647 : Int32)) % (7 : Int32))), .val (.int ((p5 &&& (2147483647 : Int32)) % ((7 : Int32) - ((p3 &&& (2147483647 : Int32)) % (7 : Int32))))), .val (.int ((p4 &&& (2147483647 : Int32)) % (8 : Int32))), .val (.int (own_find (own_wv vs) O (Ln - Fm) Fm)), .val (.int (own_up (own_zv (own_wv vs) O Fm Ln 3) (3 : Int32) (own_up (own_zv (own_wv vs) O Fm Ln 4) (4 : Int32) (own_up (own_zv (own_wv vs) O Fm Ln 5) (5 : Int32) (-1 : Int32)))))] [(.int ((p5 &&& (2147483647 : Int32)) % ((7 : Int32) - ((p3 &&& (2147483647 : Int32)) % (7 : Int32))))), (.int ((p4 &&& (2147483647 : Int32)) % (8 : Int32))), (.int ((p3 &&& (2147483647 : Int32)) % (7 : Int32))), (.ref b6)])) _
    refine XS.iconst X22.here hx rfl (hb hby at_176) ?_
    show Steps p.tables e below (T22.setTop (mkF m 177 #[.val (.long q1), .second, .val (.int p2), .val (.int p3), .val (.int p4), .val (.int p5), .val (.ref b6), .val (.int ((p3 &&& (2147483647 : Int32)) % (7 : Int32))), .val (.int ((p5 &&& (2147483647 : Int32)) % ((7 : Int32) - ((p3 &&& (2147483647 : Int32)) % (7 : Int32))))), .val (.int ((p4 &&& (2147483647 : Int32)) % (8 : Int32))), .val (.int (own_find (own_wv vs) O (Ln - Fm) Fm)), .val (.int (own_up (own_zv (own_wv vs) O Fm Ln 3) (3 : Int32) (own_up (own_zv (own_wv vs) O Fm Ln 4) (4 : Int32) (own_up (own_zv (own_wv vs) O Fm Ln 5) (5 : Int32) (-1 : Int32)))))] [(.int (2 : Int32)), (.int ((p5 &&& (2147483647 : Int32)) % ((7 : Int32) - ((p3 &&& (2147483647 : Int32)) % (7 : Int32))))), (.int ((p4 &&& (2147483647 : Int32)) % (8 : Int32))), (.int ((p3 &&& (2147483647 : Int32)) % (7 : Int32))), (.ref b6)])) _
    refine st23 _ ?_
    show Steps p.tables e below (T23.setTop (mkF m 180 #[.val (.long q1), .second, .val (.int p2), .val (.int p3), .val (.int p4), .val (.int p5), .val (.ref b6), .val (.int ((p3 &&& (2147483647 : Int32)) % (7 : Int32))), .val (.int ((p5 &&& (2147483647 : Int32)) % ((7 : Int32) - ((p3 &&& (2147483647 : Int32)) % (7 : Int32))))), .val (.int ((p4 &&& (2147483647 : Int32)) % (8 : Int32))), .val (.int (own_find (own_wv vs) O (Ln - Fm) Fm)), .val (.int (own_up (own_zv (own_wv vs) O Fm Ln 3) (3 : Int32) (own_up (own_zv (own_wv vs) O Fm Ln 4) (4 : Int32) (own_up (own_zv (own_wv vs) O Fm Ln 5) (5 : Int32) (-1 : Int32)))))] [(.int (own_zv (own_wv vs) O Fm Ln 2))])) _
    have J2 : ∀ tg, Steps p.tables e below (T23.setTop (mkF m 186 #[.val (.long q1), .second, .val (.int p2), .val (.int p3), .val (.int p4), .val (.int p5), .val (.ref b6), .val (.int ((p3 &&& (2147483647 : Int32)) % (7 : Int32))), .val (.int ((p5 &&& (2147483647 : Int32)) % ((7 : Int32) - ((p3 &&& (2147483647 : Int32)) % (7 : Int32))))), .val (.int ((p4 &&& (2147483647 : Int32)) % (8 : Int32))), .val (.int (own_find (own_wv vs) O (Ln - Fm) Fm)), .val (.int (own_up (own_zv (own_wv vs) O Fm Ln 2) (2 : Int32) (own_up (own_zv (own_wv vs) O Fm Ln 3) (3 : Int32) (own_up (own_zv (own_wv vs) O Fm Ln 4) (4 : Int32) (own_up (own_zv (own_wv vs) O Fm Ln 5) (5 : Int32) (-1 : Int32))))))] [])) tg → Steps p.tables e below (T23.setTop (mkF m 180 #[.val (.long q1), .second, .val (.int p2), .val (.int p3), .val (.int p4), .val (.int p5), .val (.ref b6), .val (.int ((p3 &&& (2147483647 : Int32)) % (7 : Int32))), .val (.int ((p5 &&& (2147483647 : Int32)) % ((7 : Int32) - ((p3 &&& (2147483647 : Int32)) % (7 : Int32))))), .val (.int ((p4 &&& (2147483647 : Int32)) % (8 : Int32))), .val (.int (own_find (own_wv vs) O (Ln - Fm) Fm)), .val (.int (own_up (own_zv (own_wv vs) O Fm Ln 3) (3 : Int32) (own_up (own_zv (own_wv vs) O Fm Ln 4) (4 : Int32) (own_up (own_zv (own_wv vs) O Fm Ln 5) (5 : Int32) (-1 : Int32)))))] [(.int (own_zv (own_wv vs) O Fm Ln 2))])) tg := by
      intro tg kt
      by_cases hz : (own_zv (own_wv vs) O Fm Ln 2) = (0 : Int32)
      · refine XS.ifYes X23.here hx rfl (pc0 := 180) (pc' := 186) rfl (hb hby at_180) rfl ((if0 _ _).trans (teq hz).1) (by decide) (by decide) ?_
        have ew : (own_up (own_zv (own_wv vs) O Fm Ln 2) (2 : Int32) (own_up (own_zv (own_wv vs) O Fm Ln 3) (3 : Int32) (own_up (own_zv (own_wv vs) O Fm Ln 4) (4 : Int32) (own_up (own_zv (own_wv vs) O Fm Ln 5) (5 : Int32) (-1 : Int32))))) = (own_up (own_zv (own_wv vs) O Fm Ln 3) (3 : Int32) (own_up (own_zv (own_wv vs) O Fm Ln 4) (4 : Int32) (own_up (own_zv (own_wv vs) O Fm Ln 5) (5 : Int32) (-1 : Int32)))) := if_pos hz
        rw [ew] at kt; exact kt
      · refine XS.ifNo X23.here hx rfl (hb hby at_180) rfl ((if0 _ _).trans (feq hz).1) ?_
        show Steps p.tables e below (T23.setTop (mkF m 183 #[.val (.long q1), .second, .val (.int p2), .val (.int p3), .val (.int p4), .val (.int p5), .val (.ref b6), .val (.int ((p3 &&& (2147483647 : Int32)) % (7 : Int32))), .val (.int ((p5 &&& (2147483647 : Int32)) % ((7 : Int32) - ((p3 &&& (2147483647 : Int32)) % (7 : Int32))))), .val (.int ((p4 &&& (2147483647 : Int32)) % (8 : Int32))), .val (.int (own_find (own_wv vs) O (Ln - Fm) Fm)), .val (.int (own_up (own_zv (own_wv vs) O Fm Ln 3) (3 : Int32) (own_up (own_zv (own_wv vs) O Fm Ln 4) (4 : Int32) (own_up (own_zv (own_wv vs) O Fm Ln 5) (5 : Int32) (-1 : Int32)))))] [])) _
        refine XS.iconst X23.here hx rfl (hb hby at_183) ?_
        show Steps p.tables e below (T23.setTop (mkF m 184 #[.val (.long q1), .second, .val (.int p2), .val (.int p3), .val (.int p4), .val (.int p5), .val (.ref b6), .val (.int ((p3 &&& (2147483647 : Int32)) % (7 : Int32))), .val (.int ((p5 &&& (2147483647 : Int32)) % ((7 : Int32) - ((p3 &&& (2147483647 : Int32)) % (7 : Int32))))), .val (.int ((p4 &&& (2147483647 : Int32)) % (8 : Int32))), .val (.int (own_find (own_wv vs) O (Ln - Fm) Fm)), .val (.int (own_up (own_zv (own_wv vs) O Fm Ln 3) (3 : Int32) (own_up (own_zv (own_wv vs) O Fm Ln 4) (4 : Int32) (own_up (own_zv (own_wv vs) O Fm Ln 5) (5 : Int32) (-1 : Int32)))))] [(.int (2 : Int32))])) _
        refine XS.istore X23.here hx rfl (hb hby at_184) rfl (l' := #[.val (.long q1), .second, .val (.int p2), .val (.int p3), .val (.int p4), .val (.int p5), .val (.ref b6), .val (.int ((p3 &&& (2147483647 : Int32)) % (7 : Int32))), .val (.int ((p5 &&& (2147483647 : Int32)) % ((7 : Int32) - ((p3 &&& (2147483647 : Int32)) % (7 : Int32))))), .val (.int ((p4 &&& (2147483647 : Int32)) % (8 : Int32))), .val (.int (own_find (own_wv vs) O (Ln - Fm) Fm)), .val (.int (2 : Int32))]) rfl ?_
        have ew : (own_up (own_zv (own_wv vs) O Fm Ln 2) (2 : Int32) (own_up (own_zv (own_wv vs) O Fm Ln 3) (3 : Int32) (own_up (own_zv (own_wv vs) O Fm Ln 4) (4 : Int32) (own_up (own_zv (own_wv vs) O Fm Ln 5) (5 : Int32) (-1 : Int32))))) = (2 : Int32) := if_neg hz
        rw [ew] at kt; exact kt
    refine J2 _ ?_
    show Steps p.tables e below (T23.setTop (mkF m 186 #[.val (.long q1), .second, .val (.int p2), .val (.int p3), .val (.int p4), .val (.int p5), .val (.ref b6), .val (.int ((p3 &&& (2147483647 : Int32)) % (7 : Int32))), .val (.int ((p5 &&& (2147483647 : Int32)) % ((7 : Int32) - ((p3 &&& (2147483647 : Int32)) % (7 : Int32))))), .val (.int ((p4 &&& (2147483647 : Int32)) % (8 : Int32))), .val (.int (own_find (own_wv vs) O (Ln - Fm) Fm)), .val (.int (own_up (own_zv (own_wv vs) O Fm Ln 2) (2 : Int32) (own_up (own_zv (own_wv vs) O Fm Ln 3) (3 : Int32) (own_up (own_zv (own_wv vs) O Fm Ln 4) (4 : Int32) (own_up (own_zv (own_wv vs) O Fm Ln 5) (5 : Int32) (-1 : Int32))))))] [])) _
    refine XS.aload X23.here hx rfl (hb hby at_186) rfl rfl ?_
    show Steps p.tables e below (T23.setTop (mkF m 188 #[.val (.long q1), .second, .val (.int p2), .val (.int p3), .val (.int p4), .val (.int p5), .val (.ref b6), .val (.int ((p3 &&& (2147483647 : Int32)) % (7 : Int32))), .val (.int ((p5 &&& (2147483647 : Int32)) % ((7 : Int32) - ((p3 &&& (2147483647 : Int32)) % (7 : Int32))))), .val (.int ((p4 &&& (2147483647 : Int32)) % (8 : Int32))), .val (.int (own_find (own_wv vs) O (Ln - Fm) Fm)), .val (.int (own_up (own_zv (own_wv vs) O Fm Ln 2) (2 : Int32) (own_up (own_zv (own_wv vs) O Fm Ln 3) (3 : Int32) (own_up (own_zv (own_wv vs) O Fm Ln 4) (4 : Int32) (own_up (own_zv (own_wv vs) O Fm Ln 5) (5 : Int32) (-1 : Int32))))))] [(.ref b6)])) _
    refine XS.iload X23.here hx rfl (hb hby at_188) rfl ?_
    show Steps p.tables e below (T23.setTop (mkF m 190 #[.val (.long q1), .second, .val (.int p2), .val (.int p3), .val (.int p4), .val (.int p5), .val (.ref b6), .val (.int ((p3 &&& (2147483647 : Int32)) % (7 : Int32))), .val (.int ((p5 &&& (2147483647 : Int32)) % ((7 : Int32) - ((p3 &&& (2147483647 : Int32)) % (7 : Int32))))), .val (.int ((p4 &&& (2147483647 : Int32)) % (8 : Int32))), .val (.int (own_find (own_wv vs) O (Ln - Fm) Fm)), .val (.int (own_up (own_zv (own_wv vs) O Fm Ln 2) (2 : Int32) (own_up (own_zv (own_wv vs) O Fm Ln 3) (3 : Int32) (own_up (own_zv (own_wv vs) O Fm Ln 4) (4 : Int32) (own_up (own_zv (own_wv vs) O Fm Ln 5) (5 : Int32) (-1 : Int32))))))] [(.int ((p3 &&& (2147483647 : Int32)) % (7 : Int32))), (.ref b6)])) _
    refine XS.iload X23.here hx rfl (hb hby at_190) rfl ?_
    show Steps p.tables e below (T23.setTop (mkF m 192 #[.val (.long q1), .second, .val (.int p2), .val (.int p3), .val (.int p4), .val (.int p5), .val (.ref b6), .val (.int ((p3 &&& (2147483647 : Int32)) % (7 : Int32))), .val (.int ((p5 &&& (2147483647 : Int32)) % ((7 : Int32) - ((p3 &&& (2147483647 : Int32)) % (7 : Int32))))), .val (.int ((p4 &&& (2147483647 : Int32)) % (8 : Int32))), .val (.int (own_find (own_wv vs) O (Ln - Fm) Fm)), .val (.int (own_up (own_zv (own_wv vs) O Fm Ln 2) (2 : Int32) (own_up (own_zv (own_wv vs) O Fm Ln 3) (3 : Int32) (own_up (own_zv (own_wv vs) O Fm Ln 4) (4 : Int32) (own_up (own_zv (own_wv vs) O Fm Ln 5) (5 : Int32) (-1 : Int32))))))] [(.int ((p4 &&& (2147483647 : Int32)) % (8 : Int32))), (.int ((p3 &&& (2147483647 : Int32)) % (7 : Int32))), (.ref b6)])) _
    refine XS.iload X23.here hx rfl (hb hby at_192) rfl ?_
    show Steps p.tables e below (T23.setTop (mkF m 194 #[.val (.long q1), .second, .val (.int p2), .val (.int p3), .val (.int p4), .val (.int p5), .val (.ref b6), .val (.int ((p3 &&& (2147483647 : Int32)) % (7 : Int32))), .val (.int ((p5 &&& (2147483647 : Int32)) % ((7 : Int32) - ((p3 &&& (2147483647 : Int32)) % (7 : Int32))))), .val (.int ((p4 &&& (2147483647 : Int32)) % (8 : Int32))), .val (.int (own_find (own_wv vs) O (Ln - Fm) Fm)), .val (.int (own_up (own_zv (own_wv vs) O Fm Ln 2) (2 : Int32) (own_up (own_zv (own_wv vs) O Fm Ln 3) (3 : Int32) (own_up (own_zv (own_wv vs) O Fm Ln 4) (4 : Int32) (own_up (own_zv (own_wv vs) O Fm Ln 5) (5 : Int32) (-1 : Int32))))))] [(.int ((p5 &&& (2147483647 : Int32)) % ((7 : Int32) - ((p3 &&& (2147483647 : Int32)) % (7 : Int32))))), (.int ((p4 &&& (2147483647 : Int32)) % (8 : Int32))), (.int ((p3 &&& (2147483647 : Int32)) % (7 : Int32))), (.ref b6)])) _
    refine XS.iconst X23.here hx rfl (hb hby at_194) ?_
    show Steps p.tables e below (T23.setTop (mkF m 195 #[.val (.long q1), .second, .val (.int p2), .val (.int p3), .val (.int p4), .val (.int p5), .val (.ref b6), .val (.int ((p3 &&& (2147483647 : Int32)) % (7 : Int32))), .val (.int ((p5 &&& (2147483647 : Int32)) % ((7 : Int32) - ((p3 &&& (2147483647 : Int32)) % (7 : Int32))))), .val (.int ((p4 &&& (2147483647 : Int32)) % (8 : Int32))), .val (.int (own_find (own_wv vs) O (Ln - Fm) Fm)), .val (.int (own_up (own_zv (own_wv vs) O Fm Ln 2) (2 : Int32) (own_up (own_zv (own_wv vs) O Fm Ln 3) (3 : Int32) (own_up (own_zv (own_wv vs) O Fm Ln 4) (4 : Int32) (own_up (own_zv (own_wv vs) O Fm Ln 5) (5 : Int32) (-1 : Int32))))))] [(.int (1 : Int32)), (.int ((p5 &&& (2147483647 : Int32)) % ((7 : Int32) - ((p3 &&& (2147483647 : Int32)) % (7 : Int32))))), (.int ((p4 &&& (2147483647 : Int32)) % (8 : Int32))), (.int ((p3 &&& (2147483647 : Int32)) % (7 : Int32))), (.ref b6)])) _
    refine st24 _ ?_
    show Steps p.tables e below (T24.setTop (mkF m 198 #[.val (.long q1), .second, .val (.int p2), .val (.int p3), .val (.int p4), .val (.int p5), .val (.ref b6), .val (.int ((p3 &&& (2147483647 : Int32)) % (7 : Int32))), .val (.int ((p5 &&& (2147483647 : Int32)) % ((7 : Int32) - ((p3 &&& (2147483647 : Int32)) % (7 : Int32))))), .val (.int ((p4 &&& (2147483647 : Int32)) % (8 : Int32))), .val (.int (own_find (own_wv vs) O (Ln - Fm) Fm)), .val (.int (own_up (own_zv (own_wv vs) O Fm Ln 2) (2 : Int32) (own_up (own_zv (own_wv vs) O Fm Ln 3) (3 : Int32) (own_up (own_zv (own_wv vs) O Fm Ln 4) (4 : Int32) (own_up (own_zv (own_wv vs) O Fm Ln 5) (5 : Int32) (-1 : Int32))))))] [(.int (own_zv (own_wv vs) O Fm Ln 1))])) _
    have J1 : ∀ tg, Steps p.tables e below (T24.setTop (mkF m 204 #[.val (.long q1), .second, .val (.int p2), .val (.int p3), .val (.int p4), .val (.int p5), .val (.ref b6), .val (.int ((p3 &&& (2147483647 : Int32)) % (7 : Int32))), .val (.int ((p5 &&& (2147483647 : Int32)) % ((7 : Int32) - ((p3 &&& (2147483647 : Int32)) % (7 : Int32))))), .val (.int ((p4 &&& (2147483647 : Int32)) % (8 : Int32))), .val (.int (own_find (own_wv vs) O (Ln - Fm) Fm)), .val (.int (own_up (own_zv (own_wv vs) O Fm Ln 1) (1 : Int32) (own_up (own_zv (own_wv vs) O Fm Ln 2) (2 : Int32) (own_up (own_zv (own_wv vs) O Fm Ln 3) (3 : Int32) (own_up (own_zv (own_wv vs) O Fm Ln 4) (4 : Int32) (own_up (own_zv (own_wv vs) O Fm Ln 5) (5 : Int32) (-1 : Int32)))))))] [])) tg → Steps p.tables e below (T24.setTop (mkF m 198 #[.val (.long q1), .second, .val (.int p2), .val (.int p3), .val (.int p4), .val (.int p5), .val (.ref b6), .val (.int ((p3 &&& (2147483647 : Int32)) % (7 : Int32))), .val (.int ((p5 &&& (2147483647 : Int32)) % ((7 : Int32) - ((p3 &&& (2147483647 : Int32)) % (7 : Int32))))), .val (.int ((p4 &&& (2147483647 : Int32)) % (8 : Int32))), .val (.int (own_find (own_wv vs) O (Ln - Fm) Fm)), .val (.int (own_up (own_zv (own_wv vs) O Fm Ln 2) (2 : Int32) (own_up (own_zv (own_wv vs) O Fm Ln 3) (3 : Int32) (own_up (own_zv (own_wv vs) O Fm Ln 4) (4 : Int32) (own_up (own_zv (own_wv vs) O Fm Ln 5) (5 : Int32) (-1 : Int32))))))] [(.int (own_zv (own_wv vs) O Fm Ln 1))])) tg := by
      intro tg kt
      by_cases hz : (own_zv (own_wv vs) O Fm Ln 1) = (0 : Int32)
      · refine XS.ifYes X24.here hx rfl (pc0 := 198) (pc' := 204) rfl (hb hby at_198) rfl ((if0 _ _).trans (teq hz).1) (by decide) (by decide) ?_
        have ew : (own_up (own_zv (own_wv vs) O Fm Ln 1) (1 : Int32) (own_up (own_zv (own_wv vs) O Fm Ln 2) (2 : Int32) (own_up (own_zv (own_wv vs) O Fm Ln 3) (3 : Int32) (own_up (own_zv (own_wv vs) O Fm Ln 4) (4 : Int32) (own_up (own_zv (own_wv vs) O Fm Ln 5) (5 : Int32) (-1 : Int32)))))) = (own_up (own_zv (own_wv vs) O Fm Ln 2) (2 : Int32) (own_up (own_zv (own_wv vs) O Fm Ln 3) (3 : Int32) (own_up (own_zv (own_wv vs) O Fm Ln 4) (4 : Int32) (own_up (own_zv (own_wv vs) O Fm Ln 5) (5 : Int32) (-1 : Int32))))) := if_pos hz
        rw [ew] at kt; exact kt
      · refine XS.ifNo X24.here hx rfl (hb hby at_198) rfl ((if0 _ _).trans (feq hz).1) ?_
        show Steps p.tables e below (T24.setTop (mkF m 201 #[.val (.long q1), .second, .val (.int p2), .val (.int p3), .val (.int p4), .val (.int p5), .val (.ref b6), .val (.int ((p3 &&& (2147483647 : Int32)) % (7 : Int32))), .val (.int ((p5 &&& (2147483647 : Int32)) % ((7 : Int32) - ((p3 &&& (2147483647 : Int32)) % (7 : Int32))))), .val (.int ((p4 &&& (2147483647 : Int32)) % (8 : Int32))), .val (.int (own_find (own_wv vs) O (Ln - Fm) Fm)), .val (.int (own_up (own_zv (own_wv vs) O Fm Ln 2) (2 : Int32) (own_up (own_zv (own_wv vs) O Fm Ln 3) (3 : Int32) (own_up (own_zv (own_wv vs) O Fm Ln 4) (4 : Int32) (own_up (own_zv (own_wv vs) O Fm Ln 5) (5 : Int32) (-1 : Int32))))))] [])) _
        refine XS.iconst X24.here hx rfl (hb hby at_201) ?_
        show Steps p.tables e below (T24.setTop (mkF m 202 #[.val (.long q1), .second, .val (.int p2), .val (.int p3), .val (.int p4), .val (.int p5), .val (.ref b6), .val (.int ((p3 &&& (2147483647 : Int32)) % (7 : Int32))), .val (.int ((p5 &&& (2147483647 : Int32)) % ((7 : Int32) - ((p3 &&& (2147483647 : Int32)) % (7 : Int32))))), .val (.int ((p4 &&& (2147483647 : Int32)) % (8 : Int32))), .val (.int (own_find (own_wv vs) O (Ln - Fm) Fm)), .val (.int (own_up (own_zv (own_wv vs) O Fm Ln 2) (2 : Int32) (own_up (own_zv (own_wv vs) O Fm Ln 3) (3 : Int32) (own_up (own_zv (own_wv vs) O Fm Ln 4) (4 : Int32) (own_up (own_zv (own_wv vs) O Fm Ln 5) (5 : Int32) (-1 : Int32))))))] [(.int (1 : Int32))])) _
        refine XS.istore X24.here hx rfl (hb hby at_202) rfl (l' := #[.val (.long q1), .second, .val (.int p2), .val (.int p3), .val (.int p4), .val (.int p5), .val (.ref b6), .val (.int ((p3 &&& (2147483647 : Int32)) % (7 : Int32))), .val (.int ((p5 &&& (2147483647 : Int32)) % ((7 : Int32) - ((p3 &&& (2147483647 : Int32)) % (7 : Int32))))), .val (.int ((p4 &&& (2147483647 : Int32)) % (8 : Int32))), .val (.int (own_find (own_wv vs) O (Ln - Fm) Fm)), .val (.int (1 : Int32))]) rfl ?_
        have ew : (own_up (own_zv (own_wv vs) O Fm Ln 1) (1 : Int32) (own_up (own_zv (own_wv vs) O Fm Ln 2) (2 : Int32) (own_up (own_zv (own_wv vs) O Fm Ln 3) (3 : Int32) (own_up (own_zv (own_wv vs) O Fm Ln 4) (4 : Int32) (own_up (own_zv (own_wv vs) O Fm Ln 5) (5 : Int32) (-1 : Int32)))))) = (1 : Int32) := if_neg hz
        rw [ew] at kt; exact kt
    refine J1 _ ?_
    show Steps p.tables e below (T24.setTop (mkF m 204 #[.val (.long q1), .second, .val (.int p2), .val (.int p3), .val (.int p4), .val (.int p5), .val (.ref b6), .val (.int ((p3 &&& (2147483647 : Int32)) % (7 : Int32))), .val (.int ((p5 &&& (2147483647 : Int32)) % ((7 : Int32) - ((p3 &&& (2147483647 : Int32)) % (7 : Int32))))), .val (.int ((p4 &&& (2147483647 : Int32)) % (8 : Int32))), .val (.int (own_find (own_wv vs) O (Ln - Fm) Fm)), .val (.int (own_up (own_zv (own_wv vs) O Fm Ln 1) (1 : Int32) (own_up (own_zv (own_wv vs) O Fm Ln 2) (2 : Int32) (own_up (own_zv (own_wv vs) O Fm Ln 3) (3 : Int32) (own_up (own_zv (own_wv vs) O Fm Ln 4) (4 : Int32) (own_up (own_zv (own_wv vs) O Fm Ln 5) (5 : Int32) (-1 : Int32)))))))] [])) _
    refine XS.aload X24.here hx rfl (hb hby at_204) rfl rfl ?_
    show Steps p.tables e below (T24.setTop (mkF m 206 #[.val (.long q1), .second, .val (.int p2), .val (.int p3), .val (.int p4), .val (.int p5), .val (.ref b6), .val (.int ((p3 &&& (2147483647 : Int32)) % (7 : Int32))), .val (.int ((p5 &&& (2147483647 : Int32)) % ((7 : Int32) - ((p3 &&& (2147483647 : Int32)) % (7 : Int32))))), .val (.int ((p4 &&& (2147483647 : Int32)) % (8 : Int32))), .val (.int (own_find (own_wv vs) O (Ln - Fm) Fm)), .val (.int (own_up (own_zv (own_wv vs) O Fm Ln 1) (1 : Int32) (own_up (own_zv (own_wv vs) O Fm Ln 2) (2 : Int32) (own_up (own_zv (own_wv vs) O Fm Ln 3) (3 : Int32) (own_up (own_zv (own_wv vs) O Fm Ln 4) (4 : Int32) (own_up (own_zv (own_wv vs) O Fm Ln 5) (5 : Int32) (-1 : Int32)))))))] [(.ref b6)])) _
    refine XS.iload X24.here hx rfl (hb hby at_206) rfl ?_
    show Steps p.tables e below (T24.setTop (mkF m 208 #[.val (.long q1), .second, .val (.int p2), .val (.int p3), .val (.int p4), .val (.int p5), .val (.ref b6), .val (.int ((p3 &&& (2147483647 : Int32)) % (7 : Int32))), .val (.int ((p5 &&& (2147483647 : Int32)) % ((7 : Int32) - ((p3 &&& (2147483647 : Int32)) % (7 : Int32))))), .val (.int ((p4 &&& (2147483647 : Int32)) % (8 : Int32))), .val (.int (own_find (own_wv vs) O (Ln - Fm) Fm)), .val (.int (own_up (own_zv (own_wv vs) O Fm Ln 1) (1 : Int32) (own_up (own_zv (own_wv vs) O Fm Ln 2) (2 : Int32) (own_up (own_zv (own_wv vs) O Fm Ln 3) (3 : Int32) (own_up (own_zv (own_wv vs) O Fm Ln 4) (4 : Int32) (own_up (own_zv (own_wv vs) O Fm Ln 5) (5 : Int32) (-1 : Int32)))))))] [(.int ((p3 &&& (2147483647 : Int32)) % (7 : Int32))), (.ref b6)])) _
    refine XS.iload X24.here hx rfl (hb hby at_208) rfl ?_
    show Steps p.tables e below (T24.setTop (mkF m 210 #[.val (.long q1), .second, .val (.int p2), .val (.int p3), .val (.int p4), .val (.int p5), .val (.ref b6), .val (.int ((p3 &&& (2147483647 : Int32)) % (7 : Int32))), .val (.int ((p5 &&& (2147483647 : Int32)) % ((7 : Int32) - ((p3 &&& (2147483647 : Int32)) % (7 : Int32))))), .val (.int ((p4 &&& (2147483647 : Int32)) % (8 : Int32))), .val (.int (own_find (own_wv vs) O (Ln - Fm) Fm)), .val (.int (own_up (own_zv (own_wv vs) O Fm Ln 1) (1 : Int32) (own_up (own_zv (own_wv vs) O Fm Ln 2) (2 : Int32) (own_up (own_zv (own_wv vs) O Fm Ln 3) (3 : Int32) (own_up (own_zv (own_wv vs) O Fm Ln 4) (4 : Int32) (own_up (own_zv (own_wv vs) O Fm Ln 5) (5 : Int32) (-1 : Int32)))))))] [(.int ((p4 &&& (2147483647 : Int32)) % (8 : Int32))), (.int ((p3 &&& (2147483647 : Int32)) % (7 : Int32))), (.ref b6)])) _
    refine XS.iload X24.here hx rfl (hb hby at_210) rfl ?_
    show Steps p.tables e below (T24.setTop (mkF m 212 #[.val (.long q1), .second, .val (.int p2), .val (.int p3), .val (.int p4), .val (.int p5), .val (.ref b6), .val (.int ((p3 &&& (2147483647 : Int32)) % (7 : Int32))), .val (.int ((p5 &&& (2147483647 : Int32)) % ((7 : Int32) - ((p3 &&& (2147483647 : Int32)) % (7 : Int32))))), .val (.int ((p4 &&& (2147483647 : Int32)) % (8 : Int32))), .val (.int (own_find (own_wv vs) O (Ln - Fm) Fm)), .val (.int (own_up (own_zv (own_wv vs) O Fm Ln 1) (1 : Int32) (own_up (own_zv (own_wv vs) O Fm Ln 2) (2 : Int32) (own_up (own_zv (own_wv vs) O Fm Ln 3) (3 : Int32) (own_up (own_zv (own_wv vs) O Fm Ln 4) (4 : Int32) (own_up (own_zv (own_wv vs) O Fm Ln 5) (5 : Int32) (-1 : Int32)))))))] [(.int ((p5 &&& (2147483647 : Int32)) % ((7 : Int32) - ((p3 &&& (2147483647 : Int32)) % (7 : Int32))))), (.int ((p4 &&& (2147483647 : Int32)) % (8 : Int32))), (.int ((p3 &&& (2147483647 : Int32)) % (7 : Int32))), (.ref b6)])) _
    refine XS.iconst X24.here hx rfl (hb hby at_212) ?_
    show Steps p.tables e below (T24.setTop (mkF m 213 #[.val (.long q1), .second, .val (.int p2), .val (.int p3), .val (.int p4), .val (.int p5), .val (.ref b6), .val (.int ((p3 &&& (2147483647 : Int32)) % (7 : Int32))), .val (.int ((p5 &&& (2147483647 : Int32)) % ((7 : Int32) - ((p3 &&& (2147483647 : Int32)) % (7 : Int32))))), .val (.int ((p4 &&& (2147483647 : Int32)) % (8 : Int32))), .val (.int (own_find (own_wv vs) O (Ln - Fm) Fm)), .val (.int (own_up (own_zv (own_wv vs) O Fm Ln 1) (1 : Int32) (own_up (own_zv (own_wv vs) O Fm Ln 2) (2 : Int32) (own_up (own_zv (own_wv vs) O Fm Ln 3) (3 : Int32) (own_up (own_zv (own_wv vs) O Fm Ln 4) (4 : Int32) (own_up (own_zv (own_wv vs) O Fm Ln 5) (5 : Int32) (-1 : Int32)))))))] [(.int (0 : Int32)), (.int ((p5 &&& (2147483647 : Int32)) % ((7 : Int32) - ((p3 &&& (2147483647 : Int32)) % (7 : Int32))))), (.int ((p4 &&& (2147483647 : Int32)) % (8 : Int32))), (.int ((p3 &&& (2147483647 : Int32)) % (7 : Int32))), (.ref b6)])) _
    refine st25 _ ?_
    show Steps p.tables e below (T25.setTop (mkF m 216 #[.val (.long q1), .second, .val (.int p2), .val (.int p3), .val (.int p4), .val (.int p5), .val (.ref b6), .val (.int ((p3 &&& (2147483647 : Int32)) % (7 : Int32))), .val (.int ((p5 &&& (2147483647 : Int32)) % ((7 : Int32) - ((p3 &&& (2147483647 : Int32)) % (7 : Int32))))), .val (.int ((p4 &&& (2147483647 : Int32)) % (8 : Int32))), .val (.int (own_find (own_wv vs) O (Ln - Fm) Fm)), .val (.int (own_up (own_zv (own_wv vs) O Fm Ln 1) (1 : Int32) (own_up (own_zv (own_wv vs) O Fm Ln 2) (2 : Int32) (own_up (own_zv (own_wv vs) O Fm Ln 3) (3 : Int32) (own_up (own_zv (own_wv vs) O Fm Ln 4) (4 : Int32) (own_up (own_zv (own_wv vs) O Fm Ln 5) (5 : Int32) (-1 : Int32)))))))] [(.int (own_zv (own_wv vs) O Fm Ln 0))])) _
    have J0 : ∀ tg, Steps p.tables e below (T25.setTop (mkF m 222 #[.val (.long q1), .second, .val (.int p2), .val (.int p3), .val (.int p4), .val (.int p5), .val (.ref b6), .val (.int ((p3 &&& (2147483647 : Int32)) % (7 : Int32))), .val (.int ((p5 &&& (2147483647 : Int32)) % ((7 : Int32) - ((p3 &&& (2147483647 : Int32)) % (7 : Int32))))), .val (.int ((p4 &&& (2147483647 : Int32)) % (8 : Int32))), .val (.int (own_find (own_wv vs) O (Ln - Fm) Fm)), .val (.int (own_up (own_zv (own_wv vs) O Fm Ln 0) (0 : Int32) (own_up (own_zv (own_wv vs) O Fm Ln 1) (1 : Int32) (own_up (own_zv (own_wv vs) O Fm Ln 2) (2 : Int32) (own_up (own_zv (own_wv vs) O Fm Ln 3) (3 : Int32) (own_up (own_zv (own_wv vs) O Fm Ln 4) (4 : Int32) (own_up (own_zv (own_wv vs) O Fm Ln 5) (5 : Int32) (-1 : Int32))))))))] [])) tg → Steps p.tables e below (T25.setTop (mkF m 216 #[.val (.long q1), .second, .val (.int p2), .val (.int p3), .val (.int p4), .val (.int p5), .val (.ref b6), .val (.int ((p3 &&& (2147483647 : Int32)) % (7 : Int32))), .val (.int ((p5 &&& (2147483647 : Int32)) % ((7 : Int32) - ((p3 &&& (2147483647 : Int32)) % (7 : Int32))))), .val (.int ((p4 &&& (2147483647 : Int32)) % (8 : Int32))), .val (.int (own_find (own_wv vs) O (Ln - Fm) Fm)), .val (.int (own_up (own_zv (own_wv vs) O Fm Ln 1) (1 : Int32) (own_up (own_zv (own_wv vs) O Fm Ln 2) (2 : Int32) (own_up (own_zv (own_wv vs) O Fm Ln 3) (3 : Int32) (own_up (own_zv (own_wv vs) O Fm Ln 4) (4 : Int32) (own_up (own_zv (own_wv vs) O Fm Ln 5) (5 : Int32) (-1 : Int32)))))))] [(.int (own_zv (own_wv vs) O Fm Ln 0))])) tg := by
      intro tg kt
      by_cases hz : (own_zv (own_wv vs) O Fm Ln 0) = (0 : Int32)
      · refine XS.ifYes X25.here hx rfl (pc0 := 216) (pc' := 222) rfl (hb hby at_216) rfl ((if0 _ _).trans (teq hz).1) (by decide) (by decide) ?_
        have ew : (own_up (own_zv (own_wv vs) O Fm Ln 0) (0 : Int32) (own_up (own_zv (own_wv vs) O Fm Ln 1) (1 : Int32) (own_up (own_zv (own_wv vs) O Fm Ln 2) (2 : Int32) (own_up (own_zv (own_wv vs) O Fm Ln 3) (3 : Int32) (own_up (own_zv (own_wv vs) O Fm Ln 4) (4 : Int32) (own_up (own_zv (own_wv vs) O Fm Ln 5) (5 : Int32) (-1 : Int32))))))) = (own_up (own_zv (own_wv vs) O Fm Ln 1) (1 : Int32) (own_up (own_zv (own_wv vs) O Fm Ln 2) (2 : Int32) (own_up (own_zv (own_wv vs) O Fm Ln 3) (3 : Int32) (own_up (own_zv (own_wv vs) O Fm Ln 4) (4 : Int32) (own_up (own_zv (own_wv vs) O Fm Ln 5) (5 : Int32) (-1 : Int32)))))) := if_pos hz
        rw [ew] at kt; exact kt
      · refine XS.ifNo X25.here hx rfl (hb hby at_216) rfl ((if0 _ _).trans (feq hz).1) ?_
        show Steps p.tables e below (T25.setTop (mkF m 219 #[.val (.long q1), .second, .val (.int p2), .val (.int p3), .val (.int p4), .val (.int p5), .val (.ref b6), .val (.int ((p3 &&& (2147483647 : Int32)) % (7 : Int32))), .val (.int ((p5 &&& (2147483647 : Int32)) % ((7 : Int32) - ((p3 &&& (2147483647 : Int32)) % (7 : Int32))))), .val (.int ((p4 &&& (2147483647 : Int32)) % (8 : Int32))), .val (.int (own_find (own_wv vs) O (Ln - Fm) Fm)), .val (.int (own_up (own_zv (own_wv vs) O Fm Ln 1) (1 : Int32) (own_up (own_zv (own_wv vs) O Fm Ln 2) (2 : Int32) (own_up (own_zv (own_wv vs) O Fm Ln 3) (3 : Int32) (own_up (own_zv (own_wv vs) O Fm Ln 4) (4 : Int32) (own_up (own_zv (own_wv vs) O Fm Ln 5) (5 : Int32) (-1 : Int32)))))))] [])) _
        refine XS.iconst X25.here hx rfl (hb hby at_219) ?_
        show Steps p.tables e below (T25.setTop (mkF m 220 #[.val (.long q1), .second, .val (.int p2), .val (.int p3), .val (.int p4), .val (.int p5), .val (.ref b6), .val (.int ((p3 &&& (2147483647 : Int32)) % (7 : Int32))), .val (.int ((p5 &&& (2147483647 : Int32)) % ((7 : Int32) - ((p3 &&& (2147483647 : Int32)) % (7 : Int32))))), .val (.int ((p4 &&& (2147483647 : Int32)) % (8 : Int32))), .val (.int (own_find (own_wv vs) O (Ln - Fm) Fm)), .val (.int (own_up (own_zv (own_wv vs) O Fm Ln 1) (1 : Int32) (own_up (own_zv (own_wv vs) O Fm Ln 2) (2 : Int32) (own_up (own_zv (own_wv vs) O Fm Ln 3) (3 : Int32) (own_up (own_zv (own_wv vs) O Fm Ln 4) (4 : Int32) (own_up (own_zv (own_wv vs) O Fm Ln 5) (5 : Int32) (-1 : Int32)))))))] [(.int (0 : Int32))])) _
        refine XS.istore X25.here hx rfl (hb hby at_220) rfl (l' := #[.val (.long q1), .second, .val (.int p2), .val (.int p3), .val (.int p4), .val (.int p5), .val (.ref b6), .val (.int ((p3 &&& (2147483647 : Int32)) % (7 : Int32))), .val (.int ((p5 &&& (2147483647 : Int32)) % ((7 : Int32) - ((p3 &&& (2147483647 : Int32)) % (7 : Int32))))), .val (.int ((p4 &&& (2147483647 : Int32)) % (8 : Int32))), .val (.int (own_find (own_wv vs) O (Ln - Fm) Fm)), .val (.int (0 : Int32))]) rfl ?_
        have ew : (own_up (own_zv (own_wv vs) O Fm Ln 0) (0 : Int32) (own_up (own_zv (own_wv vs) O Fm Ln 1) (1 : Int32) (own_up (own_zv (own_wv vs) O Fm Ln 2) (2 : Int32) (own_up (own_zv (own_wv vs) O Fm Ln 3) (3 : Int32) (own_up (own_zv (own_wv vs) O Fm Ln 4) (4 : Int32) (own_up (own_zv (own_wv vs) O Fm Ln 5) (5 : Int32) (-1 : Int32))))))) = (0 : Int32) := if_neg hz
        rw [ew] at kt; exact kt
    refine J0 _ ?_
    show Steps p.tables e below (T25.setTop (mkF m 222 #[.val (.long q1), .second, .val (.int p2), .val (.int p3), .val (.int p4), .val (.int p5), .val (.ref b6), .val (.int ((p3 &&& (2147483647 : Int32)) % (7 : Int32))), .val (.int ((p5 &&& (2147483647 : Int32)) % ((7 : Int32) - ((p3 &&& (2147483647 : Int32)) % (7 : Int32))))), .val (.int ((p4 &&& (2147483647 : Int32)) % (8 : Int32))), .val (.int (own_find (own_wv vs) O (Ln - Fm) Fm)), .val (.int (own_up (own_zv (own_wv vs) O Fm Ln 0) (0 : Int32) (own_up (own_zv (own_wv vs) O Fm Ln 1) (1 : Int32) (own_up (own_zv (own_wv vs) O Fm Ln 2) (2 : Int32) (own_up (own_zv (own_wv vs) O Fm Ln 3) (3 : Int32) (own_up (own_zv (own_wv vs) O Fm Ln 4) (4 : Int32) (own_up (own_zv (own_wv vs) O Fm Ln 5) (5 : Int32) (-1 : Int32))))))))] [])) _
    refine XS.iload X25.here hx rfl (hb hby at_222) rfl ?_
    show Steps p.tables e below (T25.setTop (mkF m 224 #[.val (.long q1), .second, .val (.int p2), .val (.int p3), .val (.int p4), .val (.int p5), .val (.ref b6), .val (.int ((p3 &&& (2147483647 : Int32)) % (7 : Int32))), .val (.int ((p5 &&& (2147483647 : Int32)) % ((7 : Int32) - ((p3 &&& (2147483647 : Int32)) % (7 : Int32))))), .val (.int ((p4 &&& (2147483647 : Int32)) % (8 : Int32))), .val (.int (own_find (own_wv vs) O (Ln - Fm) Fm)), .val (.int (own_up (own_zv (own_wv vs) O Fm Ln 0) (0 : Int32) (own_up (own_zv (own_wv vs) O Fm Ln 1) (1 : Int32) (own_up (own_zv (own_wv vs) O Fm Ln 2) (2 : Int32) (own_up (own_zv (own_wv vs) O Fm Ln 3) (3 : Int32) (own_up (own_zv (own_wv vs) O Fm Ln 4) (4 : Int32) (own_up (own_zv (own_wv vs) O Fm Ln 5) (5 : Int32) (-1 : Int32))))))))] [(.int (own_find (own_wv vs) O (Ln - Fm) Fm))])) _
    refine XS.iload X25.here hx rfl (hb hby at_224) rfl ?_
    show Steps p.tables e below (T25.setTop (mkF m 226 #[.val (.long q1), .second, .val (.int p2), .val (.int p3), .val (.int p4), .val (.int p5), .val (.ref b6), .val (.int ((p3 &&& (2147483647 : Int32)) % (7 : Int32))), .val (.int ((p5 &&& (2147483647 : Int32)) % ((7 : Int32) - ((p3 &&& (2147483647 : Int32)) % (7 : Int32))))), .val (.int ((p4 &&& (2147483647 : Int32)) % (8 : Int32))), .val (.int (own_find (own_wv vs) O (Ln - Fm) Fm)), .val (.int (own_up (own_zv (own_wv vs) O Fm Ln 0) (0 : Int32) (own_up (own_zv (own_wv vs) O Fm Ln 1) (1 : Int32) (own_up (own_zv (own_wv vs) O Fm Ln 2) (2 : Int32) (own_up (own_zv (own_wv vs) O Fm Ln 3) (3 : Int32) (own_up (own_zv (own_wv vs) O Fm Ln 4) (4 : Int32) (own_up (own_zv (own_wv vs) O Fm Ln 5) (5 : Int32) (-1 : Int32))))))))] [(.int (own_up (own_zv (own_wv vs) O Fm Ln 0) (0 : Int32) (own_up (own_zv (own_wv vs) O Fm Ln 1) (1 : Int32) (own_up (own_zv (own_wv vs) O Fm Ln 2) (2 : Int32) (own_up (own_zv (own_wv vs) O Fm Ln 3) (3 : Int32) (own_up (own_zv (own_wv vs) O Fm Ln 4) (4 : Int32) (own_up (own_zv (own_wv vs) O Fm Ln 5) (5 : Int32) (-1 : Int32)))))))), (.int (own_find (own_wv vs) O (Ln - Fm) Fm))])) _
    refine XS.icmpNo X25.here hx rfl (hb hby at_226) rfl (teq ((own_G2 (own_wv vs) O Fm Ln 6 0 (by omega) (by omega)).symm : (own_find (own_wv vs) O (Ln - Fm) Fm) = (own_up (own_zv (own_wv vs) O Fm Ln 0) (0 : Int32) (own_up (own_zv (own_wv vs) O Fm Ln 1) (1 : Int32) (own_up (own_zv (own_wv vs) O Fm Ln 2) (2 : Int32) (own_up (own_zv (own_wv vs) O Fm Ln 3) (3 : Int32) (own_up (own_zv (own_wv vs) O Fm Ln 4) (4 : Int32) (own_up (own_zv (own_wv vs) O Fm Ln 5) (5 : Int32) (-1 : Int32))))))))).2 ?_
    show Steps p.tables e below (T25.setTop (mkF m 229 #[.val (.long q1), .second, .val (.int p2), .val (.int p3), .val (.int p4), .val (.int p5), .val (.ref b6), .val (.int ((p3 &&& (2147483647 : Int32)) % (7 : Int32))), .val (.int ((p5 &&& (2147483647 : Int32)) % ((7 : Int32) - ((p3 &&& (2147483647 : Int32)) % (7 : Int32))))), .val (.int ((p4 &&& (2147483647 : Int32)) % (8 : Int32))), .val (.int (own_find (own_wv vs) O (Ln - Fm) Fm)), .val (.int (own_up (own_zv (own_wv vs) O Fm Ln 0) (0 : Int32) (own_up (own_zv (own_wv vs) O Fm Ln 1) (1 : Int32) (own_up (own_zv (own_wv vs) O Fm Ln 2) (2 : Int32) (own_up (own_zv (own_wv vs) O Fm Ln 3) (3 : Int32) (own_up (own_zv (own_wv vs) O Fm Ln 4) (4 : Int32) (own_up (own_zv (own_wv vs) O Fm Ln 5) (5 : Int32) (-1 : Int32))))))))] [])) _
    refine XS.iconst X25.here hx rfl (hb hby at_229) ?_
    show Steps p.tables e below (T25.setTop (mkF m 230 #[.val (.long q1), .second, .val (.int p2), .val (.int p3), .val (.int p4), .val (.int p5), .val (.ref b6), .val (.int ((p3 &&& (2147483647 : Int32)) % (7 : Int32))), .val (.int ((p5 &&& (2147483647 : Int32)) % ((7 : Int32) - ((p3 &&& (2147483647 : Int32)) % (7 : Int32))))), .val (.int ((p4 &&& (2147483647 : Int32)) % (8 : Int32))), .val (.int (own_find (own_wv vs) O (Ln - Fm) Fm)), .val (.int (own_up (own_zv (own_wv vs) O Fm Ln 0) (0 : Int32) (own_up (own_zv (own_wv vs) O Fm Ln 1) (1 : Int32) (own_up (own_zv (own_wv vs) O Fm Ln 2) (2 : Int32) (own_up (own_zv (own_wv vs) O Fm Ln 3) (3 : Int32) (own_up (own_zv (own_wv vs) O Fm Ln 4) (4 : Int32) (own_up (own_zv (own_wv vs) O Fm Ln 5) (5 : Int32) (-1 : Int32))))))))] [(.int (1 : Int32))])) _
    refine XS.goto X25.here hx rfl (pc0 := 230) (pc' := 234) rfl (hb hby at_230) (by decide) (by decide) ?_
    show Steps p.tables e below (T25.setTop (mkF m 234 #[.val (.long q1), .second, .val (.int p2), .val (.int p3), .val (.int p4), .val (.int p5), .val (.ref b6), .val (.int ((p3 &&& (2147483647 : Int32)) % (7 : Int32))), .val (.int ((p5 &&& (2147483647 : Int32)) % ((7 : Int32) - ((p3 &&& (2147483647 : Int32)) % (7 : Int32))))), .val (.int ((p4 &&& (2147483647 : Int32)) % (8 : Int32))), .val (.int (own_find (own_wv vs) O (Ln - Fm) Fm)), .val (.int (own_up (own_zv (own_wv vs) O Fm Ln 0) (0 : Int32) (own_up (own_zv (own_wv vs) O Fm Ln 1) (1 : Int32) (own_up (own_zv (own_wv vs) O Fm Ln 2) (2 : Int32) (own_up (own_zv (own_wv vs) O Fm Ln 3) (3 : Int32) (own_up (own_zv (own_wv vs) O Fm Ln 4) (4 : Int32) (own_up (own_zv (own_wv vs) O Fm Ln 5) (5 : Int32) (-1 : Int32))))))))] [(.int (1 : Int32))])) _
    exact retN X25 hx (t := .boolean) Bd.returns (by simp) (hb hby at_234) hr
  · show Q0 Z q1 p2 p3 p4 p5 h0 n0 _ T25.heap _
    exact ⟨rfl, N25⟩
set_option maxRecDepth 65536 in
set_option maxHeartbeats 40000000 in
theorem comes_1 {Post : Tables → Env → Array Value → State → Outcome → State → Prop} (hpost : ∀ tb e args s v u, (limb_1_1.after args s (.returned v) u = true ∧ limb_1_2.after args s (.returned v) u = true ∧ True) → FrameEnd s (.returned v) u (Jvm.fieldLocs frame_1_writes args s ++ Jvm.arrayLocs frame_1_arrays args s ++ Jvm.staticLocs frame_1_statics s) 16 128 → Post tb e args s (.returned v) u) :
    ArmFor flags0 classFile x code maxLocals ret World_1 tables_1 room_1 Calls_1 rest_1 Pre_1 Post := by
  intro l hfl _ _ p e ha hc hk s m args below hf hA hF happ hP
  obtain ⟨hcalls, hrest, hpre⟩ := hP
  obtain ⟨-, -, -, hnamed, -, -, -, hat⟩ := (Spec.applies_iff hf).mp happ
  obtain ⟨hg, hn⟩ := and_e (Cond.before_iff.mp (show (Jvm.Cond.and given_1 narrow_1).before args s = true from hpre))
  obtain ⟨g26, g27⟩ := and_e hg
  obtain ⟨g28, g29⟩ := and_e g27
  obtain ⟨g30, g31⟩ := and_e g29
  obtain ⟨g32, g33⟩ := and_e g31
  obtain ⟨g34, g35⟩ := and_e g33
  obtain ⟨w0, w1, w2, w3, w4, rfl⟩ : ∃ w0 w1 w2 w3 w4 : Value, args = #[w0, w1, w2, w3, w4] := by
    have hs : args.size = 5 := by simpa [Cond.value, given_1] using g26
    obtain ⟨L⟩ := args
    match L, hs with
    | [w0, w1, w2, w3, w4], _ => exact ⟨w0, w1, w2, w3, w4, rfl⟩
  have hw := fun d (hd : d ∈ tables_1) => atoms_spec (ws := Jvm.Cond.code x code maxLocals ret :: tables_1) hat d (List.mem_cons_of_mem _ hd)
  have hfit : Fit s := fun {y c} hc i hi => by
    obtain ⟨ha, rfl⟩ := Array.getElem?_eq_some_iff.mp hc
    have q := List.all_eq_true.mp ((Array.all_eq_true_iff_forall_mem.mp hF) _ (Array.getElem_mem ha)) i (List.mem_range.mpr hi)
    simpa [Array.getElem?_eq_getElem hi] using q
  obtain ⟨i0, ei0⟩ := isL_v g28
  obtain rfl : w0 = (.long i0) := Option.some.inj ei0
  obtain ⟨i1, ei1⟩ := is_v g30
  obtain rfl : w1 = (.int i1) := Option.some.inj ei1
  obtain ⟨i2, ei2⟩ := is_v g32
  obtain rfl : w2 = (.int i2) := Option.some.inj ei2
  obtain ⟨i3, ei3⟩ := is_v g34
  obtain rfl : w3 = (.int i3) := Option.some.inj ei3
  obtain ⟨i4, ei4⟩ := is_v g35
  obtain rfl : w4 = (.int i4) := Option.some.inj ei4
  obtain ⟨n, o, h1, h2, h3, _, L, rfl, ⟨rfl, N⟩, hq⟩ := rm0 l s _ hw tables_1 i0 i1 i2 i3 i4 s.heap s.heap.size (Nat.le_refl _) p e ha hc hk s m _ below hf ((Spec.applies_iff_loose hf).mp happ).1 ⟨rfl, State.Warmed39.refl s, rfl⟩ trivial
  refine ⟨n, _, h1, h2, h3, hpost _ _ _ _ _ _ ⟨Cond.after_iff.mpr rfl, Cond.after_iff.mpr (eq_i res_at (Term.int_eval (1)) rfl), trivial⟩ ⟨hq.1, hq.2.1, (hq.2.2.sift fun y hy => Or.inr (N y hy)).mono (by decide) (by decide)⟩⟩
theorem main_1_1 : Claimed_1_1 := comes_1 fun _ _ _ _ _ _ h hF => ⟨h.1, hF⟩
theorem main_1_2 : Claimed_1_2 := comes_1 fun _ _ _ _ _ _ h hF => ⟨h.2.1, hF⟩
end Jvm.Pilot.@@N@@
namespace Jvm.Pilot.@@N@@
open Jvm Jvm.ClassFile Sem Op Lib Jvm.Free Jvm.Stand Jvm.Pilot.@@N@@.Jvm.D
/-! MADE BY PROGRAM (witnessworld.py) out of the Statement's table words and the real class files: 9 classes; the members and pool entries that the words name. The judged class is class 1, her method 1. -/
namespace start1
open Jvm.ClassFile
def u (s : String) : CpInfo := .utf8 (stringToUtf16 s)
/-- a pool by its gaps: so many unusable entries, then the entry; so many at the end -/
def gap : Nat → List CpInfo → List CpInfo
  | 0, r => r
  | n + 1, r => .unusable :: gap n r
def poolList (es : List (Nat × CpInfo)) (last : Nat) : List CpInfo := es.foldr (fun e r => gap e.1 (e.2 :: r)) (gap last [])
def pool (es : List (Nat × CpInfo)) (last : Nat) : Array CpInfo := ⟨poolList es last⟩
def fileOf (pool : Array CpInfo) (this : Nat) (attrs : Array Attribute := #[]) (ms : Array MethodInfo := #[]) (fl : Nat := 33) (sup : Nat := 0) (ifs : Array Nat := #[]) (fds : Array FieldInfo := #[]) : ClassFile where
  minorVersion := 0
  majorVersion := 65
  constantPool := pool
  accessFlags := fl
  thisClass := this
  superClass := sup
  interfaces := ifs
  fields := fds
  methods := ms
  attributes := attrs
def plain (name : String) (sup : Option ClassId) : Class where
  name := name
  kind := .ordinary
  loader := none
  accessFlags := 33
  super := sup
  interfaces := #[]
  cf := none
  fields := #[]
  methods := #[]
  instanceTypes := #[]
  staticTypes := #[]
  resolved := #[]
  callSites := []
  init := .initialized
  statics := none
  mirror := none

def pool0 : Array CpInfo := pool [(5, u "<init>"), (0, u "()V"), (1, .class_ 10), (1, u "java/lang/Object")] 113

def k0m0 : Method := { name := "<init>", desc := "()V", sig := { parameters := [], returnType := none }, accessFlags := 1, code := none }
/-- java/lang/Object -/
def k0 : Class := { plain "java/lang/Object" none with
  accessFlags := 33
  interfaces := #[]
  cf := some (fileOf pool0 8 #[] #[{ accessFlags := 1, nameIndex := 5, descriptorIndex := 6, attributes := #[] }] 33 0 #[] #[])
  fields := #[]
  methods := #[k0m0]
  instanceTypes := #[]
  staticTypes := #[]
  resolved := Array.replicate 124 none
  statics := none }

def pool1 : Array CpInfo := pool [(2, .class_ 4), (1, u "java/lang/Object"), (0, u "<init>"), (0, u "()V"), (0, .methodref 8 9), (0, .class_ 10), (0, .nameAndType 11 12), (0, u "com/example/transmute/transmute/BinaryFormZeroByteAtPinLaw"), (0, u "pick"), (0, u "(JII)B"), (0, .integer 2147483647), (0, .methodref 15 16), (0, .class_ 17), (0, .nameAndType 18 19), (0, u "com/example/transmute/transmute/BinaryForm"), (0, u "zeroByteAt"), (0, u "([BIII)I"), (0, .methodref 8 21), (0, .nameAndType 22 23), (0, u "z"), (0, u "([BIIII)Z"), (2, u "law"), (0, u "(JIIII)Z")] 5

def k1m0 : Method := { name := "<init>", desc := "()V", sig := { parameters := [], returnType := none }, accessFlags := 2, code := none }
def k1c1 : Code := { maxStack := 6, maxLocals := 12, code := code, exceptionTable := #[], attributes := #[] }
def k1m1 : Method := { name := "law", desc := "(JIIII)Z", sig := { parameters := [.long, .int, .int, .int, .int], returnType := some .boolean }, accessFlags := 9, code := some k1c1 }
def k1c2 : Code := { maxStack := 4, maxLocals := 4, code := method_3_code, exceptionTable := #[], attributes := #[] }
def k1m2 : Method := { name := "pick", desc := "(JII)B", sig := { parameters := [.long, .int, .int], returnType := some .byte }, accessFlags := 10, code := some k1c2 }
def k1c3 : Code := { maxStack := 3, maxLocals := 5, code := method_4_code, exceptionTable := #[], attributes := #[] }
def k1m3 : Method := { name := "z", desc := "([BIIII)Z", sig := { parameters := [(.array .byte), .int, .int, .int, .int], returnType := some .boolean }, accessFlags := 10, code := some k1c3 }
/-- com/example/transmute/transmute/BinaryFormZeroByteAtPinLaw -/
def k1 : Class := { plain "com/example/transmute/transmute/BinaryFormZeroByteAtPinLaw" (some 0) with
  accessFlags := 49
  interfaces := #[]
  cf := some (fileOf pool1 8 #[] #[{ accessFlags := 2, nameIndex := 5, descriptorIndex := 6, attributes := #[] }, { accessFlags := 9, nameIndex := 26, descriptorIndex := 27, attributes := #[] }, { accessFlags := 10, nameIndex := 11, descriptorIndex := 12, attributes := #[] }, { accessFlags := 10, nameIndex := 22, descriptorIndex := 23, attributes := #[] }] 49 2 #[] #[])
  fields := #[]
  methods := #[k1m0, k1m1, k1m2, k1m3]
  instanceTypes := #[]
  staticTypes := #[]
  resolved := Array.replicate 33 none
  statics := none }

def pool2 : Array CpInfo := pool [(2, .class_ 4), (1, u "java/lang/Object"), (0, u "<init>"), (0, u "()V"), (20, .class_ 29), (1, u "com/example/transmute/transmute/BinaryForm"), (10, u "zeroByteAt"), (0, u "([BIII)I")] 26

def k2m0 : Method := { name := "<init>", desc := "()V", sig := { parameters := [], returnType := none }, accessFlags := 2, code := none }
def k2c1 : Code := { maxStack := 3, maxLocals := 5, code := prog_23_method_4_code, exceptionTable := #[], attributes := #[] }
def k2m1 : Method := { name := "zeroByteAt", desc := "([BIII)I", sig := { parameters := [(.array .byte), .int, .int, .int], returnType := some .int }, accessFlags := 8, code := some k2c1 }
/-- com/example/transmute/transmute/BinaryForm -/
def k2 : Class := { plain "com/example/transmute/transmute/BinaryForm" (some 0) with
  accessFlags := 48
  interfaces := #[]
  cf := some (fileOf pool2 27 #[] #[{ accessFlags := 2, nameIndex := 5, descriptorIndex := 6, attributes := #[] }, { accessFlags := 8, nameIndex := 40, descriptorIndex := 41, attributes := #[] }] 48 2 #[] #[])
  fields := #[]
  methods := #[k2m0, k2m1]
  instanceTypes := #[]
  staticTypes := #[]
  resolved := Array.replicate 68 none
  statics := none }

def pool3 : Array CpInfo := pool [(1, u "java/lang/Cloneable"), (0, .class_ 1), (0, u "java/lang/Object"), (0, .class_ 3)] 3

/-- java/lang/Cloneable -/
def k3 : Class := { plain "java/lang/Cloneable" (some 0) with
  accessFlags := 1537
  interfaces := #[]
  cf := some (fileOf pool3 2 #[] #[] 1537 4 #[] #[])
  fields := #[]
  methods := #[]
  instanceTypes := #[]
  staticTypes := #[]
  resolved := Array.replicate 8 none
  statics := none }

def pool4 : Array CpInfo := pool [(1, u "java/io/Serializable"), (0, .class_ 1), (0, u "java/lang/Object"), (0, .class_ 3)] 3

/-- java/io/Serializable -/
def k4 : Class := { plain "java/io/Serializable" (some 0) with
  accessFlags := 1537
  interfaces := #[]
  cf := some (fileOf pool4 2 #[] #[] 1537 4 #[] #[])
  fields := #[]
  methods := #[]
  instanceTypes := #[]
  staticTypes := #[]
  resolved := Array.replicate 8 none
  statics := none }

/-- the primitive byte -/
def k5 : Class := { plain "byte" none with kind := .primitive 'B', accessFlags := 0x411 }
/-- [B -/
def k6 : Class := { plain "[B" (some 0) with kind := .array 5 .byte, interfaces := #[3, 4], accessFlags := 1041 }

/-- the primitive int -/
def k7 : Class := { plain "int" none with kind := .primitive 'I', accessFlags := 0x411 }
/-- [I -/
def k8 : Class := { plain "[I" (some 0) with kind := .array 7 .int, interfaces := #[3, 4], accessFlags := 1041 }

def heap : Heap := #[]
def classes : Array Class := #[k0, k1, k2, k3, k4, k5, k6, k7, k8]
def interned : List (Array UInt16 × Addr) := []
def slotsUsed : Nat := 0
def theMethod : MethodId := ⟨1, 1⟩
def args0 : Array Value := #[.long 5, .int 2, .int 77, .int 3, .int 9]
def aboutOver (below : List Frame) : State where
  vm := { classes := classes, interned := interned.toArray }
  heap := heap
  slotsUsed := slotsUsed
  threads := #[{ frames := .invoking theMethod args0 :: below }]
def below0 : List Frame := [.native { method := ⟨0, 0⟩, args := #[] }]
def about1 : State := aboutOver below0
def p0 : Program := .bare "" "" ""
def e0 : Env := launch0.env 0 0 0
theorem w_frames : about1.frames = Frame.invoking theMethod args0 :: below0 := rfl
set_option maxRecDepth 65536 in
theorem w_args : argsFit about1.vm theMethod args0 = true := by decide +kernel
set_option maxRecDepth 65536 in
theorem w_heap : heapFits about1 = true := by decide +kernel
set_option maxRecDepth 65536 in
theorem w_runnable : about1.curStatus? = some .runnable := by decide +kernel
set_option maxRecDepth 65536 in
theorem w_alone : about1.alone = true := by decide +kernel
set_option maxRecDepth 65536 in
theorem w_named : about1.methodNamed? x = some theMethod := by decide +kernel
set_option maxRecDepth 65536 in
theorem w_hears : about1.hears theMethod below0 = true := by decide +kernel
set_option maxRecDepth 65536 in
theorem w_ripe : about1.ripe theMethod args0 below0 = true := by decide +kernel
theorem w_running : about1.status = .running := rfl
set_option maxRecDepth 65536 in
theorem w_room : about1.hasRoom e0.platform room_1 = true :=
  launch0.hasRoom_least _ room_1 (by decide +kernel) (by decide +kernel) (by decide +kernel) (by decide +kernel) (by decide +kernel) (by decide +kernel)
theorem allAtoms_all (ts : List Jvm.Cond) (a : Array Jvm.Value) (st : Jvm.State) : (allAtoms ts).before a st = ts.all (fun c => c.before a st) := by
  induction ts with
  | nil => rfl
  | cons c t ih =>
    show (Jvm.Cond.and c (allAtoms t)).before a st = _
    rw [Jvm.Cond.before_and, ih, List.all_cons]
def words1 : List Jvm.Cond := Jvm.Cond.code x code maxLocals ret :: tables_1
/-- a 'code' word, met by the world's own term for the bytes: nothing is compared byte by byte -/
theorem code_word {y : MethodName} {bytes : ByteArray} {mx : Nat} {rt : Option FieldType} {a : Array Value} {s : State} {m : MethodId} {meth : Method} {c : Code} (h1 : s.methodNamed? y = some m) (h2 : s.vm.method? m = some meth) (h3 : meth.code = some c) (h4 : c.code = bytes)
    (h5 : (c.maxLocals == mx && c.exceptionTable.isEmpty && decide (c.maxStack ≤ mostOperands) && decide (meth.sig.returnType = rt) && !meth.locks && decide (parseMethodDescriptor y.desc = some meth.sig)) = true) : (Jvm.Cond.code y bytes mx rt).before a s = true := by
  simp only [Bool.and_eq_true, beq_iff_eq, Bool.not_eq_true', decide_eq_true_eq] at h5
  obtain ⟨⟨⟨⟨⟨g1, g2⟩, g3⟩, g4⟩, g5⟩, g6⟩ := h5
  simp [Cond.before, Cond.holds, Cond.value, h1, h2, h3, h4, g1, g2, g3, g4, g5, g6]
def isCode : Jvm.Cond → Bool
  | .code _ _ _ _ => true
  | _ => false
theorem all_split {L : List Jvm.Cond} {P : Jvm.Cond → Bool} (h1 : L.all (fun c => isCode c || P c) = true) (h2 : ∀ c ∈ L.filter isCode, P c = true) : L.all P = true := by
  refine List.all_eq_true.mpr fun c hc => ?_
  have h := List.all_eq_true.mp h1 c hc
  rcases Bool.eq_false_or_eq_true (isCode c) with hi | hi
  · exact h2 c (List.mem_filter.mpr ⟨hc, hi⟩)
  · simpa [hi] using h
set_option maxRecDepth 65536 in
theorem w_c0 : (Jvm.Cond.code x code maxLocals ret).before args0 about1 = true := code_word (m := ⟨1, 1⟩) (meth := k1m1) (c := k1c1) (by decide +kernel) rfl rfl rfl (by decide +kernel)
set_option maxRecDepth 65536 in
theorem w_c1 : (Jvm.Cond.code ({ cls := "com/example/transmute/transmute/BinaryFormZeroByteAtPinLaw", name := "pick", desc := "(JII)B" } : Jvm.MethodName) method_3_code (4 : Nat) (Option.some Jvm.ClassFile.FieldType.byte)).before args0 about1 = true := code_word (m := ⟨1, 2⟩) (meth := k1m2) (c := k1c2) (by decide +kernel) rfl rfl rfl (by decide +kernel)
set_option maxRecDepth 65536 in
theorem w_c2 : (Jvm.Cond.code ({ cls := "com/example/transmute/transmute/BinaryForm", name := "zeroByteAt", desc := "([BIII)I" } : Jvm.MethodName) prog_23_method_4_code (5 : Nat) (Option.some Jvm.ClassFile.FieldType.int)).before args0 about1 = true := code_word (m := ⟨2, 1⟩) (meth := k2m1) (c := k2c1) (by decide +kernel) rfl rfl rfl (by decide +kernel)
set_option maxRecDepth 65536 in
theorem w_c3 : (Jvm.Cond.code ({ cls := "com/example/transmute/transmute/BinaryFormZeroByteAtPinLaw", name := "z", desc := "([BIIII)Z" } : Jvm.MethodName) method_4_code (5 : Nat) (Option.some Jvm.ClassFile.FieldType.boolean)).before args0 about1 = true := code_word (m := ⟨1, 3⟩) (meth := k1m3) (c := k1c3) (by decide +kernel) rfl rfl rfl (by decide +kernel)
def codes1 : List Jvm.Cond := [Jvm.Cond.code x code maxLocals ret, Jvm.Cond.code ({ cls := "com/example/transmute/transmute/BinaryFormZeroByteAtPinLaw", name := "pick", desc := "(JII)B" } : Jvm.MethodName) method_3_code (4 : Nat) (Option.some Jvm.ClassFile.FieldType.byte), Jvm.Cond.code ({ cls := "com/example/transmute/transmute/BinaryForm", name := "zeroByteAt", desc := "([BIII)I" } : Jvm.MethodName) prog_23_method_4_code (5 : Nat) (Option.some Jvm.ClassFile.FieldType.int), Jvm.Cond.code ({ cls := "com/example/transmute/transmute/BinaryFormZeroByteAtPinLaw", name := "z", desc := "([BIIII)Z" } : Jvm.MethodName) method_4_code (5 : Nat) (Option.some Jvm.ClassFile.FieldType.boolean)]
set_option maxRecDepth 65536 in
theorem codes_eq : words1.filter isCode = codes1 := rfl
theorem w_codes : ∀ c ∈ words1.filter isCode, c.before args0 about1 = true := by
  rw [codes_eq]
  intro c hc
  simp only [codes1, List.mem_cons, List.not_mem_nil, or_false] at hc
  rcases hc with rfl | rfl | rfl | rfl
  · exact w_c0
  · exact w_c1
  · exact w_c2
  · exact w_c3
set_option maxRecDepth 65536 in
theorem w_t1 : words1.all (fun c => isCode c || c.before args0 about1) = true := by decide +kernel
theorem w_tables : (allAtoms (Jvm.Cond.code x code maxLocals ret :: tables_1)).before args0 about1 = true := by
  rw [allAtoms_all]
  show words1.all (fun c => c.before args0 about1) = true
  refine all_split ?_ w_codes
  rw [w_t1]
set_option maxRecDepth 65536 in
theorem w_case : (Jvm.Cond.and given_1 narrow_1).before args0 about1 = true := by decide +kernel
theorem w_applies : (headSpec (Jvm.Cond.code x code maxLocals ret :: tables_1) room_1).applies x e0.platform about1 = true :=
  (Spec.applies_iff w_frames).mpr ⟨w_running, w_runnable, w_alone, w_named, w_hears, w_ripe, w_room, w_tables⟩
theorem atStart : AtStart classFile x code maxLocals ret World_1 tables_1 room_1 Calls_1 rest_1 Pre_1 launch0 p0 e0 about1 theMethod args0 below0 :=
  ⟨lists_1, trivial, launch0.admits_env _ _ _, launch0.least_env, fairChoices_fair.cas, fairChoices_fair.clock, w_frames, w_args, w_heap, w_applies, trivial, trivial, w_case⟩
end start1
theorem witness_1 : WitnessClaimed_1 := ⟨start1.p0, start1.e0, start1.about1, start1.theMethod, start1.args0, start1.below0, start1.atStart⟩
end Jvm.Pilot.@@N@@
