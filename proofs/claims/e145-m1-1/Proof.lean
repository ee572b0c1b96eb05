import JvmDerived
import JvmDerived.Pilot.@@N@@Statement
import JvmDerived.Pilot.@@N@@Code
set_option linter.unusedVariables false
set_option linter.unusedSimpArgs false
namespace Jvm.RoadKit
open Sem ClassFile Op Lib Jvm.Stand Jvm.Free Jvm.LawKit
section New
variable {p : Program} {l : Launch} {e : Env} {R : Room} {s : State} {m : MethodId} {args : Array Value} {below : List Frame} {meth : Method} {c : Code} {T : State} {locs : List Loc} {cells slots : Nat}
theorem retI (X : Stand p l e R s m args below meth c T locs cells slots) (hx : p.tables.exec = Jvm.exec) {pc : Nat} {Ls : Array Slot} {z : Int32} {rest : List Value} (hret : meth.sig.returnType = some .int) (hd : decode c.code pc = .ok (.ireturn, 1)) {fs : List Frame}
    (hl : ∀ (f : JFrame) (acts : List Action), f.method = m → f.locked = none → f.entered = [] → (doReturn e (T.setTop f) acts (some (.int z))).1 = T.setFrames fs) : Steps p.tables e below (T.setTop (mkF m pc Ls (.int z :: rest))) (T.setFrames fs) := by
  have hm' : T.vm.method? m = some meth := X.method'
  have hn : narrow .int (.int z) = .int z := rfl
  show Steps p.tables e below (T.setTop { method := m, pc := pc, locals := Ls, stack := _ :: rest, locked := none }) _
  jvm_step X.here [X.here.top, hx, hd, hm', hret, hn]
  first | (intro acts; rw [hl _ acts rfl rfl rfl]) | rw [hl _ _ rfl rfl rfl]
  exact Steps.refl _
end New
end Jvm.RoadKit
namespace Jvm.Pilot.@@N@@
open Jvm Jvm.ClassFile Sem Op Lib Jvm.Free Jvm.Stand Jvm.LawKit Jvm.RoadKit Bundle Jvm.Pilot.@@N@@.Jvm.D
def own_ch (x : Int32) : Int32 := ((x &&& (255 : Int32)).toUInt32.toUInt16.toUInt32.toInt32)
def own_pos (q : Int64) : Int64 := if (0 : Int32) < (lcmpW q (0 : Int64)) then q else (0 : Int64)
def own_eq (c k : Int32) (n : Int64) : Int64 := if c = k then n else (0 : Int64)
def own_bit (q b : Int64) : Int64 := if (0 : Int32) < (lcmpW q (0 : Int64)) then b else (0 : Int64)
def own_l1 (c : Int32) : Int64 := ((1 : Int64) <<< (c &&& 0x3f).toInt64)
def own_l2 (c : Int32) : Int64 := ((1 : Int64) <<< ((c - (64 : Int32)) &&& 0x3f).toInt64)
def own_low (c : Int32) : Int64 := if c < (64 : Int32) then own_l1 c else (0 : Int64)
def own_high (c : Int32) : Int64 := if c < (64 : Int32) then (0 : Int64) else if c < (128 : Int32) then own_l2 c else (0 : Int64)
def own_any (w3 w5 w7 w9 : Int64) : Int32 := if (lcmpW ((w3 &&& w5) ||| (w7 &&& w9)) (0 : Int64)) = (0 : Int32) then 0 else 1
def own_h2 (cP : Int32) (eb : Int64) (cB : Int32) : Int32 := if (0 : Int32) < (lcmpW eb (0 : Int64)) then (if cB = cP then (1 : Int32) else (0 : Int32)) else (0 : Int32)
def own_h (cP : Int32) (ea : Int64) (cA : Int32) (eb : Int64) (cB : Int32) : Int32 := if cP < (128 : Int32) then (if (0 : Int32) < (lcmpW ea (0 : Int64)) then (if cA = cP then (1 : Int32) else own_h2 cP eb cB) else own_h2 cP eb cB) else (0 : Int32)
theorem own_ch_nat (x : Int32) : ∃ k : Nat, k < 256 ∧ own_ch x = Int32.ofNat k := by
  have h : (x &&& 255).toBitVec.toNat < 256 := by
    rw [Int32.toBitVec_and, BitVec.toNat_and]
    exact Nat.lt_of_le_of_lt Nat.and_le_right (by decide)
  refine ⟨(x &&& 255).toBitVec.toNat, h, ?_⟩
  unfold own_ch
  apply Int32.toBitVec_inj.mp
  apply BitVec.eq_of_toNat_eq
  generalize x &&& 255 = y at *
  simp
  omega
theorem own_b64 : ∀ i : Fin 64, ∀ j : Fin 64, (((1 : Int64) <<< (Int32.ofNat i.1 &&& 0x3f).toInt64) &&& ((1 : Int64) <<< (Int32.ofNat j.1 &&& 0x3f).toInt64) = 0) ↔ ¬ (i.1 = j.1) := by decide +kernel
theorem own_ltN (a b : Nat) (ha : a < 256) (hb : b < 256) : Int32.ofNat a < Int32.ofNat b ↔ a < b := by
  rw [Int32.lt_iff_toInt_lt, Int32.toInt_ofNat_of_lt (by omega), Int32.toInt_ofNat_of_lt (by omega)]; omega
theorem own_eqN (a b : Nat) (ha : a < 256) (hb : b < 256) : Int32.ofNat a = Int32.ofNat b ↔ a = b := by
  rw [← Int32.toInt_inj, Int32.toInt_ofNat_of_lt (by omega), Int32.toInt_ofNat_of_lt (by omega)]; omega
theorem own_low_nat (a : Nat) (ha : a < 256) : own_low (Int32.ofNat a) = if a < 64 then ((1 : Int64) <<< (Int32.ofNat a &&& 0x3f).toInt64) else 0 := by
  unfold own_low own_l1
  have this : Int32.ofNat a < 64 ↔ a < 64 := own_ltN a 64 ha (by decide)
  by_cases h : a < 64
  · rw [if_pos h, if_pos (this.mpr h)]
  · rw [if_neg h, if_neg (fun q => h (this.mp q))]
theorem own_high_nat (a : Nat) (ha : a < 256) : own_high (Int32.ofNat a) = if a < 64 then 0 else if a < 128 then ((1 : Int64) <<< (Int32.ofNat (a - 64) &&& 0x3f).toInt64) else 0 := by
  unfold own_high own_l2
  have h1 : Int32.ofNat a < 64 ↔ a < 64 := own_ltN a 64 ha (by decide)
  have h2 : Int32.ofNat a < 128 ↔ a < 128 := own_ltN a 128 ha (by decide)
  by_cases h : a < 64
  · rw [if_pos h, if_pos (h1.mpr h)]
  · rw [if_neg h, if_neg (fun q => h (h1.mp q))]
    by_cases g : a < 128
    · rw [if_pos g, if_pos (h2.mpr g), show (64 : Int32) = Int32.ofNat 64 from rfl, ← Int32.ofNat_sub _ _ (by omega)]
    · rw [if_neg g, if_neg (fun q => g (h2.mp q))]
theorem own_z1 (x : Int64) : (0 : Int64) &&& x = 0 := by simp
theorem own_z2 (x : Int64) : x &&& (0 : Int64) = 0 := by simp
theorem own_lowhit (a b : Nat) (ha : a < 256) (hb : b < 256) : own_low (Int32.ofNat a) &&& own_low (Int32.ofNat b) = 0 ↔ ¬ (a = b ∧ b < 64) := by
  rw [own_low_nat a ha, own_low_nat b hb]
  by_cases h : a < 64
  · by_cases g : b < 64
    · rw [if_pos h, if_pos g]
      refine (own_b64 ⟨a, h⟩ ⟨b, g⟩).trans ?_
      show ¬ (a = b) ↔ _
      omega
    · rw [if_neg g, own_z2]; exact ⟨fun _ => by omega, fun _ => rfl⟩
  · rw [if_neg h, own_z1]; exact ⟨fun _ => by omega, fun _ => rfl⟩
theorem own_highhit (a b : Nat) (ha : a < 256) (hb : b < 256) : own_high (Int32.ofNat a) &&& own_high (Int32.ofNat b) = 0 ↔ ¬ (a = b ∧ 64 ≤ b ∧ b < 128) := by
  rw [own_high_nat a ha, own_high_nat b hb]
  by_cases h : a < 64
  · rw [if_pos h, own_z1]; exact ⟨fun _ => by omega, fun _ => rfl⟩
  · rw [if_neg h]
    by_cases g : b < 64
    · rw [if_pos g, own_z2]; exact ⟨fun _ => by omega, fun _ => rfl⟩
    · rw [if_neg g]
      by_cases h' : a < 128
      · by_cases g' : b < 128
        · rw [if_pos h', if_pos g']
          refine (own_b64 ⟨a - 64, by omega⟩ ⟨b - 64, by omega⟩).trans ?_
          show ¬ (a - 64 = b - 64) ↔ _
          omega
        · rw [if_neg g', own_z2]; exact ⟨fun _ => by omega, fun _ => rfl⟩
      · rw [if_neg h', own_z1]; exact ⟨fun _ => by omega, fun _ => rfl⟩
theorem own_or0 (x y : Int64) : x ||| y = 0 ↔ x = 0 ∧ y = 0 := by
  rw [← Int64.toBitVec_inj, ← Int64.toBitVec_inj, ← Int64.toBitVec_inj, Int64.toBitVec_or]
  exact BitVec.or_eq_zero_iff
theorem own_dist (x y z : Int64) : (x ||| y) &&& z = (x &&& z) ||| (y &&& z) := by
  apply Int64.toBitVec_inj.mp
  simp only [Int64.toBitVec_and, Int64.toBitVec_or]
  apply BitVec.eq_of_getLsbD_eq
  intro i hi
  simp [Bool.and_or_distrib_right]
theorem own_bitand (q b z : Int64) : own_bit q b &&& z = 0 ↔ ((0 : Int32) < lcmpW q 0 → b &&& z = 0) := by
  unfold own_bit
  by_cases h : (0 : Int32) < lcmpW q 0
  · rw [if_pos h]; exact ⟨fun q _ => q, fun q => q h⟩
  · rw [if_neg h, own_z1]; exact ⟨fun _ g => absurd g h, fun _ => rfl⟩
theorem own_pos_pos (q : Int64) : ((0 : Int32) < lcmpW (own_pos q) 0) ↔ (0 : Int32) < lcmpW q 0 := by
  unfold own_pos
  by_cases h : (0 : Int32) < lcmpW q 0
  · rw [if_pos h]
  · rw [if_neg h, (lw_eq 0 0).mpr rfl]; exact ⟨fun g => absurd g (by decide), fun g => absurd g h⟩
/-- what holdsAnyOf answers is what the law reckons -/
theorem own_hold (q2 q4 : Int64) (xA xB xP : Int32) :
    own_any (((0 : Int64) ||| own_bit q2 (own_low (own_ch xA))) ||| ((0 : Int64) ||| own_bit q4 (own_low (own_ch xB)))) ((0 : Int64) ||| own_low (own_ch xP))
      (((0 : Int64) ||| own_bit q2 (own_high (own_ch xA))) ||| ((0 : Int64) ||| own_bit q4 (own_high (own_ch xB)))) ((0 : Int64) ||| own_high (own_ch xP))
    = own_h (own_ch xP) (own_pos q2) (own_ch xA) (own_pos q4) (own_ch xB) := by
  obtain ⟨a, ha, ea⟩ := own_ch_nat xA
  obtain ⟨b, hb, eb⟩ := own_ch_nat xB
  obtain ⟨c, hc, ec⟩ := own_ch_nat xP
  rw [ea, eb, ec]
  simp only [Int64.zero_or]
  have k : lcmpW (((own_bit q2 (own_low (Int32.ofNat a)) ||| own_bit q4 (own_low (Int32.ofNat b))) &&& own_low (Int32.ofNat c)) ||| ((own_bit q2 (own_high (Int32.ofNat a)) ||| own_bit q4 (own_high (Int32.ofNat b))) &&& own_high (Int32.ofNat c))) 0 = 0 ↔
      ¬ (c < 128 ∧ (((0 : Int32) < lcmpW q2 0 ∧ a = c) ∨ ((0 : Int32) < lcmpW q4 0 ∧ b = c))) := by
    rw [lw_eq, own_or0, own_dist, own_dist, own_or0, own_or0, own_bitand, own_bitand, own_bitand, own_bitand, own_lowhit a c ha hc, own_lowhit b c hb hc, own_highhit a c ha hc, own_highhit b c hb hc]
    by_cases p2 : (0 : Int32) < lcmpW q2 0 <;> by_cases p4 : (0 : Int32) < lcmpW q4 0 <;> simp only [p2, p4, true_implies, false_implies, true_and, false_and, or_false, false_or, and_true, and_false, not_false_eq_true] <;> omega
  have hP : Int32.ofNat c < 128 ↔ c < 128 := own_ltN c 128 hc (by decide)
  have hA := own_eqN a c ha hc
  have hB := own_eqN b c hb hc
  unfold own_any own_h own_h2
  by_cases p1 : c < 128
  · rw [if_pos (hP.mpr p1)]
    by_cases p2 : (0 : Int32) < lcmpW q2 0
    · rw [if_pos ((own_pos_pos q2).mpr p2)]
      by_cases p3 : a = c
      · rw [if_neg (fun g => k.mp g ⟨p1, Or.inl ⟨p2, p3⟩⟩), if_pos (hA.mpr p3)]
      · rw [if_neg (fun g => p3 (hA.mp g))]
        by_cases p4 : (0 : Int32) < lcmpW q4 0
        · rw [if_pos ((own_pos_pos q4).mpr p4)]
          by_cases p5 : b = c
          · rw [if_neg (fun g => k.mp g ⟨p1, Or.inr ⟨p4, p5⟩⟩), if_pos (hB.mpr p5)]
          · rw [if_pos (k.mpr (fun g => g.2.elim (fun u => p3 u.2) (fun u => p5 u.2))), if_neg (fun g => p5 (hB.mp g))]
        · rw [if_neg (fun g => p4 ((own_pos_pos q4).mp g)), if_pos (k.mpr (fun g => g.2.elim (fun u => p3 u.2) (fun u => p4 u.1)))]
    · rw [if_neg (fun g => p2 ((own_pos_pos q2).mp g))]
      by_cases p4 : (0 : Int32) < lcmpW q4 0
      · rw [if_pos ((own_pos_pos q4).mpr p4)]
        by_cases p5 : b = c
        · rw [if_neg (fun g => k.mp g ⟨p1, Or.inr ⟨p4, p5⟩⟩), if_pos (hB.mpr p5)]
        · rw [if_pos (k.mpr (fun g => g.2.elim (fun u => p2 u.1) (fun u => p5 u.2))), if_neg (fun g => p5 (hB.mp g))]
      · rw [if_neg (fun g => p4 ((own_pos_pos q4).mp g)), if_pos (k.mpr (fun g => g.2.elim (fun u => p2 u.1) (fun u => p4 u.1)))]
  · rw [if_neg (fun g => p1 (hP.mp g)), if_pos (k.mpr (fun g => p1 g.1))]
def own_MT (Z : State) (h : Heap) (a : Addr) (v1 v2 v3 v4 v5 : Int64) : Prop := Exa Z h a "com/example/transmute/transmute/MeasuredText" ∧ Fld Z h a "com/example/transmute/transmute/MeasuredText" "m_nLength" "J" (.long v1) ∧ Fld Z h a "com/example/transmute/transmute/MeasuredText" "m_nQuotes" "J" (.long v2) ∧ Fld Z h a "com/example/transmute/transmute/MeasuredText" "m_nBackslashes" "J" (.long v3) ∧ Fld Z h a "com/example/transmute/transmute/MeasuredText" "m_nLowChars" "J" (.long v4) ∧ Fld Z h a "com/example/transmute/transmute/MeasuredText" "m_nHighChars" "J" (.long v5)
theorem own_mt_keep {Z : State} {h h' : Heap} {a : Addr} {v1 v2 v3 v4 v5 : Int64} {ws : List Addr} (M : own_MT Z h a v1 v2 v3 v4 v5) (K : Keep h h' ws) (q : a ∉ ws) : own_MT Z h' a v1 v2 v3 v4 v5 :=
  ⟨M.1.keep K, M.2.1.keep K q, M.2.2.1.keep K q, M.2.2.2.1.keep K q, M.2.2.2.2.1.keep K q, M.2.2.2.2.2.keep K q⟩
theorem own_mt_ext {Z : State} {h h' : Heap} {a : Addr} {v1 v2 v3 v4 v5 : Int64} (M : own_MT Z h a v1 v2 v3 v4 v5) (E : Ext h h') : own_MT Z h' a v1 v2 v3 v4 v5 :=
  ⟨M.1.ext E, M.2.1.ext E, M.2.2.1.ext E, M.2.2.2.1.ext E, M.2.2.2.2.1.ext E, M.2.2.2.2.2.ext E⟩
theorem own_eq0 (c k : Int32) : own_eq c k 0 = 0 := by unfold own_eq; split <;> rfl
theorem own_bit1 (b : Int64) : own_bit 1 b = b := if_pos (by decide)
theorem d1_0 : decode prog_86_method_1_code 0 = .ok (.aload_n 0, 1) := by decide +kernel
theorem d1_1 : decode prog_86_method_1_code 1 = .ok (.invokespecial 1, 3) := by decide +kernel
theorem d1_4 : decode prog_86_method_1_code 4 = .ok (.return_, 1) := by decide +kernel
theorem pn_1 : plainName "com/example/transmute/transmute/MeasuredText" = true := by first | (simp [plainName, overriddenIn]; done) | decide +kernel
theorem ef_1 (m : MethodId) (x0 : Addr) : entryFrame m #[(.ref x0)] 1 = mkF m 0 #[.val (.ref x0)] [] := by first | (simp [entryFrame, mkF, argsToLocals, Value.category]; done) | rfl
def Q1 (Z : State) (a1 : Addr) (h0 : Heap) (n0 : Nat) (v : Option Value) (h : Heap) (L : List Loc) : Prop := v = none ∧ Fr n0 L ∧ h = h0
set_option maxRecDepth 65536 in
set_option maxHeartbeats 40000000 in
theorem rm1 (l : Launch) (Z : State) (a0 : Array Value) (hw : ∀ d ∈ tables_1, d.before a0 Z = true) (ws : List Jvm.Cond) (a1 : Addr) (h0 : Heap) (n0 : Nat) (Z0 : n0 ≤ h0.size) :
    MetFree l (⟨"com/example/transmute/transmute/MeasuredText", "<init>", "()V"⟩ : MethodName) (head1 (Jvm.Cond.code (⟨"com/example/transmute/transmute/MeasuredText", "<init>", "()V"⟩ : MethodName) prog_86_method_1_code 1 none :: ws) ({ frames := 1, cells := 0, slots := 0, locals := 12 } : Room)) (fun a U => a = #[(.ref a1)] ∧ Z.Warmed39 U.vm ∧ U.heap = h0) (fun _ _ _ _ _ => True) (fun _ U o U' => ∃ v L, o = .returned v ∧ Q1 Z a1 h0 n0 v U'.heap L ∧ FrameEnd U o U' L ({ frames := 1, cells := 0, slots := 0, locals := 12 } : Room).cells ({ frames := 1, cells := 0, slots := 0, locals := 12 } : Room).slots) := by
  refine MetFree.of_bodySF (plainFor_of_name pn_1) hisR ?_
  intro p e s m args below meth c s₁ Bd hml0 hP hK
  obtain ⟨rfl, hZ, hh⟩ := hP
  have hx := Bd.exec
  have hby := Bd.bytes
  have hml : c.maxLocals = 1 := hml0
  have hown : s.vm.findClass "com/example/transmute/transmute/MeasuredText" = some m.cls := findClass_of_methodNamed Bd.named
  have hnm := (name_of_methodNamed Bd.named Bd.method).1
  have X0 : Stand p l e ({ frames := 1, cells := 0, slots := 0, locals := 12 } : Room) s m #[(.ref a1)] below meth c s₁ [] 0 0 := Stand.of_body Bd
  have e0 : s₁.heap = h0 := by rw [← hh, Bd.state]; rfl
  have N0 := Fr.nil n0
  have pre0 : ∀ t, Steps p.tables e below (s₁.setTop (mkF m 0 #[.val (.ref a1)] [])) t → Steps p.tables e below (s₁.setTop (entryFrame m #[(.ref a1)] 1)) t := fun t k => castTop (ef_1 m a1) k
  obtain ⟨T2, X2, e2, st2⟩ := initO X0 hx hZ hown (hw _ (List.mem_of_getElem? (i := 6) rfl)) (hw _ (List.mem_of_getElem? (i := 7) rfl)) (hw _ (List.mem_of_getElem? (i := 8) rfl)) e0 (g := (mkF m 1 #[.val (.ref a1)] [(.ref a1)])) rfl (by rw [hml]; rfl) rfl (hb hby d1_1) (by decide) (W := 0) (by show 2 * 0 + _ ≤ _; exact Nat.le_of_eq rfl) (by decide)
  obtain ⟨fs, hr, hrun, hended, hW, hsame⟩ := X2.leave (v := none) (fun _ => rfl)
  refine ⟨_, _, pre0 _ ?_, hrun, hended, _, _, rfl, ?_, ⟨_, rfl⟩, hW, hsame.mono (by decide) (by decide)⟩
  · show Steps p.tables e below (s₁.setTop (mkF m 0 #[.val (.ref a1)] [])) _
    refine XS.aloadN X0.here hx rfl (hb hby d1_0) rfl rfl ?_
    show Steps p.tables e below (s₁.setTop (mkF m 1 #[.val (.ref a1)] [(.ref a1)])) _
    refine st2 _ ?_
    show Steps p.tables e below (T2.setTop (mkF m 4 #[.val (.ref a1)] [])) _
    exact X2.returnOut hx Bd.returns (hb hby d1_4) hr
  · show Q1 Z a1 h0 n0 _ T2.heap _
    rw [e2]
    exact ⟨rfl, N0, rfl⟩
theorem d4_0 : decode prog_86_method_15_code 0 = .ok (.iload_n 0, 1) := by decide +kernel
theorem d4_1 : decode prog_86_method_15_code 1 = .ok (.bipush 64, 2) := by decide +kernel
theorem d4_3 : decode prog_86_method_15_code 3 = .ok (.if_icmp .ge 9, 3) := by decide +kernel
theorem d4_12 : decode prog_86_method_15_code 12 = .ok (.lconst 0, 1) := by decide +kernel
theorem d4_13 : decode prog_86_method_15_code 13 = .ok (.lreturn, 1) := by decide +kernel
theorem pn_4 : plainName "com/example/transmute/transmute/MeasuredText" = true := by first | (simp [plainName, overriddenIn]; done) | decide +kernel
theorem ef_4 (m : MethodId) (x0 : Int32) : entryFrame m #[(.int x0)] 1 = mkF m 0 #[.val (.int x0)] [] := by first | (simp [entryFrame, mkF, argsToLocals, Value.category]; done) | rfl
theorem d4_6 : decode prog_86_method_15_code 6 = .ok (.lconst 1, 1) := by decide +kernel
theorem d4_7 : decode prog_86_method_15_code 7 = .ok (.iload_n 0, 1) := by decide +kernel
theorem d4_8 : decode prog_86_method_15_code 8 = .ok (.lshl, 1) := by decide +kernel
theorem d4_9 : decode prog_86_method_15_code 9 = .ok (.goto 4, 3) := by decide +kernel
def Q4 (Z : State) (p1 : Int32) (h0 : Heap) (n0 : Nat) (v : Option Value) (h : Heap) (L : List Loc) : Prop := v = some (.long (own_low p1)) ∧ Fr n0 L ∧ h = h0
set_option maxRecDepth 65536 in
set_option maxHeartbeats 40000000 in
theorem rm4_t (l : Launch) (Z : State) (a0 : Array Value) (hw : ∀ d ∈ tables_1, d.before a0 Z = true) (ws : List Jvm.Cond) (p1 : Int32) (h0 : Heap) (n0 : Nat) (Z0 : n0 ≤ h0.size) (hc3 : ¬ (p1 < (64 : Int32))) :
    MetFree l (⟨"com/example/transmute/transmute/MeasuredText", "_lowBit", "(C)J"⟩ : MethodName) (head1 (Jvm.Cond.code (⟨"com/example/transmute/transmute/MeasuredText", "_lowBit", "(C)J"⟩ : MethodName) prog_86_method_15_code 1 (some .long) :: ws) ({ frames := 0, cells := 0, slots := 0, locals := 0 } : Room)) (fun a U => a = #[(.int p1)] ∧ Z.Warmed39 U.vm ∧ U.heap = h0) (fun _ _ _ _ _ => True) (fun _ U o U' => ∃ v L, o = .returned v ∧ Q4 Z p1 h0 n0 v U'.heap L ∧ FrameEnd U o U' L ({ frames := 0, cells := 0, slots := 0, locals := 0 } : Room).cells ({ frames := 0, cells := 0, slots := 0, locals := 0 } : Room).slots) := by
  refine MetFree.of_bodySF (plainFor_of_name pn_4) hisR ?_
  intro p e s m args below meth c s₁ Bd hml0 hP hK
  obtain ⟨rfl, hZ, hh⟩ := hP
  have hx := Bd.exec
  have hby := Bd.bytes
  have hml : c.maxLocals = 1 := hml0
  have hown : s.vm.findClass "com/example/transmute/transmute/MeasuredText" = some m.cls := findClass_of_methodNamed Bd.named
  have hnm := (name_of_methodNamed Bd.named Bd.method).1
  have X0 : Stand p l e ({ frames := 0, cells := 0, slots := 0, locals := 0 } : Room) s m #[(.int p1)] below meth c s₁ [] 0 0 := Stand.of_body Bd
  have e0 : s₁.heap = h0 := by rw [← hh, Bd.state]; rfl
  have N0 := Fr.nil n0
  have pre0 : ∀ t, Steps p.tables e below (s₁.setTop (mkF m 0 #[.val (.int p1)] [])) t → Steps p.tables e below (s₁.setTop (entryFrame m #[(.int p1)] 1)) t := fun t k => castTop (ef_4 m p1) k

  obtain ⟨fs, hr, hrun, hended, hW, hsame⟩ := X0.leave (v := some (.long (0 : Int64))) (fun h => by rw [Bd.returns] at h; cases h)
  refine ⟨_, _, pre0 _ ?_, hrun, hended, _, _, rfl, ?_, ⟨_, rfl⟩, hW, hsame.mono (by decide) (by decide)⟩
  · show Steps p.tables e below (s₁.setTop (mkF m 0 #[.val (.int p1)] [])) _
    refine XS.iloadN X0.here hx rfl (hb hby d4_0) rfl ?_
    show Steps p.tables e below (s₁.setTop (mkF m 1 #[.val (.int p1)] [(.int p1)])) _
    refine XS.bipush X0.here hx rfl (hb hby d4_1) ?_
    show Steps p.tables e below (s₁.setTop (mkF m 3 #[.val (.int p1)] [(.int (64 : Int32)), (.int p1)])) _
    refine XS.icmpYes X0.here hx rfl (pc0 := 3) (pc' := 12) rfl (hb hby d4_3) rfl (flt hc3).2.1 (by decide) (by decide) ?_
    show Steps p.tables e below (s₁.setTop (mkF m 12 #[.val (.int p1)] [])) _
    refine XS.lconst X0.here hx rfl (hb hby d4_12) ?_
    show Steps p.tables e below (s₁.setTop (mkF m 13 #[.val (.int p1)] [(.long (0 : Int64))])) _
    jvm_step X0.here [X0.here.top, hx, (hb hby d4_13), X0.method', Bd.returns, narrow]
    first | (intro acts; rw [hr _ acts rfl rfl rfl]) | rw [hr _ _ rfl rfl rfl]
    exact Steps.refl _
  · show Q4 Z p1 h0 n0 _ s₁.heap _
    rw [e0]
    exact ⟨congrArg (fun z => some (Value.long z)) (if_neg hc3).symm, N0, rfl⟩
set_option maxRecDepth 65536 in
set_option maxHeartbeats 40000000 in
theorem rm4_f (l : Launch) (Z : State) (a0 : Array Value) (hw : ∀ d ∈ tables_1, d.before a0 Z = true) (ws : List Jvm.Cond) (p1 : Int32) (h0 : Heap) (n0 : Nat) (Z0 : n0 ≤ h0.size) (hc3 : p1 < (64 : Int32)) :
    MetFree l (⟨"com/example/transmute/transmute/MeasuredText", "_lowBit", "(C)J"⟩ : MethodName) (head1 (Jvm.Cond.code (⟨"com/example/transmute/transmute/MeasuredText", "_lowBit", "(C)J"⟩ : MethodName) prog_86_method_15_code 1 (some .long) :: ws) ({ frames := 0, cells := 0, slots := 0, locals := 0 } : Room)) (fun a U => a = #[(.int p1)] ∧ Z.Warmed39 U.vm ∧ U.heap = h0) (fun _ _ _ _ _ => True) (fun _ U o U' => ∃ v L, o = .returned v ∧ Q4 Z p1 h0 n0 v U'.heap L ∧ FrameEnd U o U' L ({ frames := 0, cells := 0, slots := 0, locals := 0 } : Room).cells ({ frames := 0, cells := 0, slots := 0, locals := 0 } : Room).slots) := by
  refine MetFree.of_bodySF (plainFor_of_name pn_4) hisR ?_
  intro p e s m args below meth c s₁ Bd hml0 hP hK
  obtain ⟨rfl, hZ, hh⟩ := hP
  have hx := Bd.exec
  have hby := Bd.bytes
  have hml : c.maxLocals = 1 := hml0
  have hown : s.vm.findClass "com/example/transmute/transmute/MeasuredText" = some m.cls := findClass_of_methodNamed Bd.named
  have hnm := (name_of_methodNamed Bd.named Bd.method).1
  have X0 : Stand p l e ({ frames := 0, cells := 0, slots := 0, locals := 0 } : Room) s m #[(.int p1)] below meth c s₁ [] 0 0 := Stand.of_body Bd
  have e0 : s₁.heap = h0 := by rw [← hh, Bd.state]; rfl
  have N0 := Fr.nil n0
  have pre0 : ∀ t, Steps p.tables e below (s₁.setTop (mkF m 0 #[.val (.int p1)] [])) t → Steps p.tables e below (s₁.setTop (entryFrame m #[(.int p1)] 1)) t := fun t k => castTop (ef_4 m p1) k

  obtain ⟨fs, hr, hrun, hended, hW, hsame⟩ := X0.leave (v := some (.long (own_l1 p1))) (fun h => by rw [Bd.returns] at h; cases h)
  refine ⟨_, _, pre0 _ ?_, hrun, hended, _, _, rfl, ?_, ⟨_, rfl⟩, hW, hsame.mono (by decide) (by decide)⟩
  · show Steps p.tables e below (s₁.setTop (mkF m 0 #[.val (.int p1)] [])) _
    refine XS.iloadN X0.here hx rfl (hb hby d4_0) rfl ?_
    show Steps p.tables e below (s₁.setTop (mkF m 1 #[.val (.int p1)] [(.int p1)])) _
    refine XS.bipush X0.here hx rfl (hb hby d4_1) ?_
    show Steps p.tables e below (s₁.setTop (mkF m 3 #[.val (.int p1)] [(.int (64 : Int32)), (.int p1)])) _
    refine XS.icmpNo X0.here hx rfl (hb hby d4_3) rfl (tlt hc3).2.1 ?_
    show Steps p.tables e below (s₁.setTop (mkF m 6 #[.val (.int p1)] [])) _
    refine XS.lconst X0.here hx rfl (hb hby d4_6) ?_
    show Steps p.tables e below (s₁.setTop (mkF m 7 #[.val (.int p1)] [(.long (1 : Int64))])) _
    refine XS.iloadN X0.here hx rfl (hb hby d4_7) rfl ?_
    show Steps p.tables e below (s₁.setTop (mkF m 8 #[.val (.int p1)] [(.int p1), (.long (1 : Int64))])) _
    refine XS.lshl X0.here hx rfl (hb hby d4_8) rfl ?_
    show Steps p.tables e below (s₁.setTop (mkF m 9 #[.val (.int p1)] [(.long (own_l1 p1))])) _
    refine XS.goto X0.here hx rfl (pc0 := 9) (pc' := 13) rfl (hb hby d4_9) (by decide) (by decide) ?_
    show Steps p.tables e below (s₁.setTop (mkF m 13 #[.val (.int p1)] [(.long (own_l1 p1))])) _
    jvm_step X0.here [X0.here.top, hx, (hb hby d4_13), X0.method', Bd.returns, narrow]
    first | (intro acts; rw [hr _ acts rfl rfl rfl]) | rw [hr _ _ rfl rfl rfl]
    exact Steps.refl _
  · show Q4 Z p1 h0 n0 _ s₁.heap _
    rw [e0]
    exact ⟨congrArg (fun z => some (Value.long z)) (if_pos hc3).symm, N0, rfl⟩
set_option maxRecDepth 65536 in
theorem rm4 (l : Launch) (Z : State) (a0 : Array Value) (hw : ∀ d ∈ tables_1, d.before a0 Z = true) (ws : List Jvm.Cond) (p1 : Int32) (h0 : Heap) (n0 : Nat) (Z0 : n0 ≤ h0.size) :
    MetFree l (⟨"com/example/transmute/transmute/MeasuredText", "_lowBit", "(C)J"⟩ : MethodName) (head1 (Jvm.Cond.code (⟨"com/example/transmute/transmute/MeasuredText", "_lowBit", "(C)J"⟩ : MethodName) prog_86_method_15_code 1 (some .long) :: ws) ({ frames := 0, cells := 0, slots := 0, locals := 0 } : Room)) (fun a U => a = #[(.int p1)] ∧ Z.Warmed39 U.vm ∧ U.heap = h0) (fun _ _ _ _ _ => True) (fun _ U o U' => ∃ v L, o = .returned v ∧ Q4 Z p1 h0 n0 v U'.heap L ∧ FrameEnd U o U' L ({ frames := 0, cells := 0, slots := 0, locals := 0 } : Room).cells ({ frames := 0, cells := 0, slots := 0, locals := 0 } : Room).slots) := by
  by_cases h : p1 < (64 : Int32)
  · exact rm4_f l Z a0 hw ws p1 h0 n0 Z0 h
  · exact rm4_t l Z a0 hw ws p1 h0 n0 Z0 h
theorem d5_0 : decode prog_86_method_16_code 0 = .ok (.iload_n 0, 1) := by decide +kernel
theorem d5_1 : decode prog_86_method_16_code 1 = .ok (.bipush 64, 2) := by decide +kernel
theorem d5_3 : decode prog_86_method_16_code 3 = .ok (.if_icmp .lt 19, 3) := by decide +kernel
theorem d5_22 : decode prog_86_method_16_code 22 = .ok (.lconst 0, 1) := by decide +kernel
theorem d5_23 : decode prog_86_method_16_code 23 = .ok (.lreturn, 1) := by decide +kernel
theorem pn_5 : plainName "com/example/transmute/transmute/MeasuredText" = true := by first | (simp [plainName, overriddenIn]; done) | decide +kernel
theorem ef_5 (m : MethodId) (x0 : Int32) : entryFrame m #[(.int x0)] 1 = mkF m 0 #[.val (.int x0)] [] := by first | (simp [entryFrame, mkF, argsToLocals, Value.category]; done) | rfl
theorem d5_6 : decode prog_86_method_16_code 6 = .ok (.iload_n 0, 1) := by decide +kernel
theorem d5_7 : decode prog_86_method_16_code 7 = .ok (.sipush 128, 3) := by decide +kernel
theorem d5_10 : decode prog_86_method_16_code 10 = .ok (.if_icmp .ge 12, 3) := by decide +kernel
theorem d5_13 : decode prog_86_method_16_code 13 = .ok (.lconst 1, 1) := by decide +kernel
theorem d5_14 : decode prog_86_method_16_code 14 = .ok (.iload_n 0, 1) := by decide +kernel
theorem d5_15 : decode prog_86_method_16_code 15 = .ok (.bipush 64, 2) := by decide +kernel
theorem d5_17 : decode prog_86_method_16_code 17 = .ok (.isub, 1) := by decide +kernel
theorem d5_18 : decode prog_86_method_16_code 18 = .ok (.lshl, 1) := by decide +kernel
theorem d5_19 : decode prog_86_method_16_code 19 = .ok (.goto 4, 3) := by decide +kernel
def Q5 (Z : State) (p1 : Int32) (h0 : Heap) (n0 : Nat) (v : Option Value) (h : Heap) (L : List Loc) : Prop := v = some (.long (own_high p1)) ∧ Fr n0 L ∧ h = h0
set_option maxRecDepth 65536 in
set_option maxHeartbeats 40000000 in
theorem rm5_t (l : Launch) (Z : State) (a0 : Array Value) (hw : ∀ d ∈ tables_1, d.before a0 Z = true) (ws : List Jvm.Cond) (p1 : Int32) (h0 : Heap) (n0 : Nat) (Z0 : n0 ≤ h0.size) (hc3 : p1 < (64 : Int32)) :
    MetFree l (⟨"com/example/transmute/transmute/MeasuredText", "_highBit", "(C)J"⟩ : MethodName) (head1 (Jvm.Cond.code (⟨"com/example/transmute/transmute/MeasuredText", "_highBit", "(C)J"⟩ : MethodName) prog_86_method_16_code 1 (some .long) :: ws) ({ frames := 0, cells := 0, slots := 0, locals := 0 } : Room)) (fun a U => a = #[(.int p1)] ∧ Z.Warmed39 U.vm ∧ U.heap = h0) (fun _ _ _ _ _ => True) (fun _ U o U' => ∃ v L, o = .returned v ∧ Q5 Z p1 h0 n0 v U'.heap L ∧ FrameEnd U o U' L ({ frames := 0, cells := 0, slots := 0, locals := 0 } : Room).cells ({ frames := 0, cells := 0, slots := 0, locals := 0 } : Room).slots) := by
  refine MetFree.of_bodySF (plainFor_of_name pn_5) hisR ?_
  intro p e s m args below meth c s₁ Bd hml0 hP hK
  obtain ⟨rfl, hZ, hh⟩ := hP
  have hx := Bd.exec
  have hby := Bd.bytes
  have hml : c.maxLocals = 1 := hml0
  have hown : s.vm.findClass "com/example/transmute/transmute/MeasuredText" = some m.cls := findClass_of_methodNamed Bd.named
  have hnm := (name_of_methodNamed Bd.named Bd.method).1
  have X0 : Stand p l e ({ frames := 0, cells := 0, slots := 0, locals := 0 } : Room) s m #[(.int p1)] below meth c s₁ [] 0 0 := Stand.of_body Bd
  have e0 : s₁.heap = h0 := by rw [← hh, Bd.state]; rfl
  have N0 := Fr.nil n0
  have pre0 : ∀ t, Steps p.tables e below (s₁.setTop (mkF m 0 #[.val (.int p1)] [])) t → Steps p.tables e below (s₁.setTop (entryFrame m #[(.int p1)] 1)) t := fun t k => castTop (ef_5 m p1) k

  obtain ⟨fs, hr, hrun, hended, hW, hsame⟩ := X0.leave (v := some (.long (0 : Int64))) (fun h => by rw [Bd.returns] at h; cases h)
  refine ⟨_, _, pre0 _ ?_, hrun, hended, _, _, rfl, ?_, ⟨_, rfl⟩, hW, hsame.mono (by decide) (by decide)⟩
  · show Steps p.tables e below (s₁.setTop (mkF m 0 #[.val (.int p1)] [])) _
    refine XS.iloadN X0.here hx rfl (hb hby d5_0) rfl ?_
    show Steps p.tables e below (s₁.setTop (mkF m 1 #[.val (.int p1)] [(.int p1)])) _
    refine XS.bipush X0.here hx rfl (hb hby d5_1) ?_
    show Steps p.tables e below (s₁.setTop (mkF m 3 #[.val (.int p1)] [(.int (64 : Int32)), (.int p1)])) _
    refine XS.icmpYes X0.here hx rfl (pc0 := 3) (pc' := 22) rfl (hb hby d5_3) rfl (tlt hc3).1 (by decide) (by decide) ?_
    show Steps p.tables e below (s₁.setTop (mkF m 22 #[.val (.int p1)] [])) _
    refine XS.lconst X0.here hx rfl (hb hby d5_22) ?_
    show Steps p.tables e below (s₁.setTop (mkF m 23 #[.val (.int p1)] [(.long (0 : Int64))])) _
    jvm_step X0.here [X0.here.top, hx, (hb hby d5_23), X0.method', Bd.returns, narrow]
    first | (intro acts; rw [hr _ acts rfl rfl rfl]) | rw [hr _ _ rfl rfl rfl]
    exact Steps.refl _
  · show Q5 Z p1 h0 n0 _ s₁.heap _
    rw [e0]
    exact ⟨congrArg (fun z => some (Value.long z)) (if_pos hc3).symm, N0, rfl⟩
set_option maxRecDepth 65536 in
set_option maxHeartbeats 40000000 in
theorem rm5_ft (l : Launch) (Z : State) (a0 : Array Value) (hw : ∀ d ∈ tables_1, d.before a0 Z = true) (ws : List Jvm.Cond) (p1 : Int32) (h0 : Heap) (n0 : Nat) (Z0 : n0 ≤ h0.size) (hc3 : ¬ (p1 < (64 : Int32))) (hc10 : ¬ (p1 < (128 : Int32))) :
    MetFree l (⟨"com/example/transmute/transmute/MeasuredText", "_highBit", "(C)J"⟩ : MethodName) (head1 (Jvm.Cond.code (⟨"com/example/transmute/transmute/MeasuredText", "_highBit", "(C)J"⟩ : MethodName) prog_86_method_16_code 1 (some .long) :: ws) ({ frames := 0, cells := 0, slots := 0, locals := 0 } : Room)) (fun a U => a = #[(.int p1)] ∧ Z.Warmed39 U.vm ∧ U.heap = h0) (fun _ _ _ _ _ => True) (fun _ U o U' => ∃ v L, o = .returned v ∧ Q5 Z p1 h0 n0 v U'.heap L ∧ FrameEnd U o U' L ({ frames := 0, cells := 0, slots := 0, locals := 0 } : Room).cells ({ frames := 0, cells := 0, slots := 0, locals := 0 } : Room).slots) := by
  refine MetFree.of_bodySF (plainFor_of_name pn_5) hisR ?_
  intro p e s m args below meth c s₁ Bd hml0 hP hK
  obtain ⟨rfl, hZ, hh⟩ := hP
  have hx := Bd.exec
  have hby := Bd.bytes
  have hml : c.maxLocals = 1 := hml0
  have hown : s.vm.findClass "com/example/transmute/transmute/MeasuredText" = some m.cls := findClass_of_methodNamed Bd.named
  have hnm := (name_of_methodNamed Bd.named Bd.method).1
  have X0 : Stand p l e ({ frames := 0, cells := 0, slots := 0, locals := 0 } : Room) s m #[(.int p1)] below meth c s₁ [] 0 0 := Stand.of_body Bd
  have e0 : s₁.heap = h0 := by rw [← hh, Bd.state]; rfl
  have N0 := Fr.nil n0
  have pre0 : ∀ t, Steps p.tables e below (s₁.setTop (mkF m 0 #[.val (.int p1)] [])) t → Steps p.tables e below (s₁.setTop (entryFrame m #[(.int p1)] 1)) t := fun t k => castTop (ef_5 m p1) k

  obtain ⟨fs, hr, hrun, hended, hW, hsame⟩ := X0.leave (v := some (.long (0 : Int64))) (fun h => by rw [Bd.returns] at h; cases h)
  refine ⟨_, _, pre0 _ ?_, hrun, hended, _, _, rfl, ?_, ⟨_, rfl⟩, hW, hsame.mono (by decide) (by decide)⟩
  · show Steps p.tables e below (s₁.setTop (mkF m 0 #[.val (.int p1)] [])) _
    refine XS.iloadN X0.here hx rfl (hb hby d5_0) rfl ?_
    show Steps p.tables e below (s₁.setTop (mkF m 1 #[.val (.int p1)] [(.int p1)])) _
    refine XS.bipush X0.here hx rfl (hb hby d5_1) ?_
    show Steps p.tables e below (s₁.setTop (mkF m 3 #[.val (.int p1)] [(.int (64 : Int32)), (.int p1)])) _
    refine XS.icmpNo X0.here hx rfl (hb hby d5_3) rfl (flt hc3).1 ?_
    show Steps p.tables e below (s₁.setTop (mkF m 6 #[.val (.int p1)] [])) _
    refine XS.iloadN X0.here hx rfl (hb hby d5_6) rfl ?_
    show Steps p.tables e below (s₁.setTop (mkF m 7 #[.val (.int p1)] [(.int p1)])) _
    refine XS.sipush X0.here hx rfl (hb hby d5_7) ?_
    show Steps p.tables e below (s₁.setTop (mkF m 10 #[.val (.int p1)] [(.int (128 : Int32)), (.int p1)])) _
    refine XS.icmpYes X0.here hx rfl (pc0 := 10) (pc' := 22) rfl (hb hby d5_10) rfl (flt hc10).2.1 (by decide) (by decide) ?_
    show Steps p.tables e below (s₁.setTop (mkF m 22 #[.val (.int p1)] [])) _
    refine XS.lconst X0.here hx rfl (hb hby d5_22) ?_
    show Steps p.tables e below (s₁.setTop (mkF m 23 #[.val (.int p1)] [(.long (0 : Int64))])) _
    jvm_step X0.here [X0.here.top, hx, (hb hby d5_23), X0.method', Bd.returns, narrow]
    first | (intro acts; rw [hr _ acts rfl rfl rfl]) | rw [hr _ _ rfl rfl rfl]
    exact Steps.refl _
  · show Q5 Z p1 h0 n0 _ s₁.heap _
    rw [e0]
    exact ⟨congrArg (fun z => some (Value.long z)) ((if_neg hc3).trans (if_neg hc10)).symm, N0, rfl⟩
set_option maxRecDepth 65536 in
set_option maxHeartbeats 40000000 in
theorem rm5_ff (l : Launch) (Z : State) (a0 : Array Value) (hw : ∀ d ∈ tables_1, d.before a0 Z = true) (ws : List Jvm.Cond) (p1 : Int32) (h0 : Heap) (n0 : Nat) (Z0 : n0 ≤ h0.size) (hc3 : ¬ (p1 < (64 : Int32))) (hc10 : p1 < (128 : Int32)) :
    MetFree l (⟨"com/example/transmute/transmute/MeasuredText", "_highBit", "(C)J"⟩ : MethodName) (head1 (Jvm.Cond.code (⟨"com/example/transmute/transmute/MeasuredText", "_highBit", "(C)J"⟩ : MethodName) prog_86_method_16_code 1 (some .long) :: ws) ({ frames := 0, cells := 0, slots := 0, locals := 0 } : Room)) (fun a U => a = #[(.int p1)] ∧ Z.Warmed39 U.vm ∧ U.heap = h0) (fun _ _ _ _ _ => True) (fun _ U o U' => ∃ v L, o = .returned v ∧ Q5 Z p1 h0 n0 v U'.heap L ∧ FrameEnd U o U' L ({ frames := 0, cells := 0, slots := 0, locals := 0 } : Room).cells ({ frames := 0, cells := 0, slots := 0, locals := 0 } : Room).slots) := by
  refine MetFree.of_bodySF (plainFor_of_name pn_5) hisR ?_
  intro p e s m args below meth c s₁ Bd hml0 hP hK
  obtain ⟨rfl, hZ, hh⟩ := hP
  have hx := Bd.exec
  have hby := Bd.bytes
  have hml : c.maxLocals = 1 := hml0
  have hown : s.vm.findClass "com/example/transmute/transmute/MeasuredText" = some m.cls := findClass_of_methodNamed Bd.named
  have hnm := (name_of_methodNamed Bd.named Bd.method).1
  have X0 : Stand p l e ({ frames := 0, cells := 0, slots := 0, locals := 0 } : Room) s m #[(.int p1)] below meth c s₁ [] 0 0 := Stand.of_body Bd
  have e0 : s₁.heap = h0 := by rw [← hh, Bd.state]; rfl
  have N0 := Fr.nil n0
  have pre0 : ∀ t, Steps p.tables e below (s₁.setTop (mkF m 0 #[.val (.int p1)] [])) t → Steps p.tables e below (s₁.setTop (entryFrame m #[(.int p1)] 1)) t := fun t k => castTop (ef_5 m p1) k

  obtain ⟨fs, hr, hrun, hended, hW, hsame⟩ := X0.leave (v := some (.long (own_l2 p1))) (fun h => by rw [Bd.returns] at h; cases h)
  refine ⟨_, _, pre0 _ ?_, hrun, hended, _, _, rfl, ?_, ⟨_, rfl⟩, hW, hsame.mono (by decide) (by decide)⟩
  · show Steps p.tables e below (s₁.setTop (mkF m 0 #[.val (.int p1)] [])) _
    refine XS.iloadN X0.here hx rfl (hb hby d5_0) rfl ?_
    show Steps p.tables e below (s₁.setTop (mkF m 1 #[.val (.int p1)] [(.int p1)])) _
    refine XS.bipush X0.here hx rfl (hb hby d5_1) ?_
    show Steps p.tables e below (s₁.setTop (mkF m 3 #[.val (.int p1)] [(.int (64 : Int32)), (.int p1)])) _
    refine XS.icmpNo X0.here hx rfl (hb hby d5_3) rfl (flt hc3).1 ?_
    show Steps p.tables e below (s₁.setTop (mkF m 6 #[.val (.int p1)] [])) _
    refine XS.iloadN X0.here hx rfl (hb hby d5_6) rfl ?_
    show Steps p.tables e below (s₁.setTop (mkF m 7 #[.val (.int p1)] [(.int p1)])) _
    refine XS.sipush X0.here hx rfl (hb hby d5_7) ?_
    show Steps p.tables e below (s₁.setTop (mkF m 10 #[.val (.int p1)] [(.int (128 : Int32)), (.int p1)])) _
    refine XS.icmpNo X0.here hx rfl (hb hby d5_10) rfl (tlt hc10).2.1 ?_
    show Steps p.tables e below (s₁.setTop (mkF m 13 #[.val (.int p1)] [])) _
    refine XS.lconst X0.here hx rfl (hb hby d5_13) ?_
    show Steps p.tables e below (s₁.setTop (mkF m 14 #[.val (.int p1)] [(.long (1 : Int64))])) _
    refine XS.iloadN X0.here hx rfl (hb hby d5_14) rfl ?_
    show Steps p.tables e below (s₁.setTop (mkF m 15 #[.val (.int p1)] [(.int p1), (.long (1 : Int64))])) _
    refine XS.bipush X0.here hx rfl (hb hby d5_15) ?_
    show Steps p.tables e below (s₁.setTop (mkF m 17 #[.val (.int p1)] [(.int (64 : Int32)), (.int p1), (.long (1 : Int64))])) _
    refine XS.isub X0.here hx rfl (hb hby d5_17) rfl ?_
    show Steps p.tables e below (s₁.setTop (mkF m 18 #[.val (.int p1)] [(.int (p1 - (64 : Int32))), (.long (1 : Int64))])) _
    refine XS.lshl X0.here hx rfl (hb hby d5_18) rfl ?_
    show Steps p.tables e below (s₁.setTop (mkF m 19 #[.val (.int p1)] [(.long (own_l2 p1))])) _
    refine XS.goto X0.here hx rfl (pc0 := 19) (pc' := 23) rfl (hb hby d5_19) (by decide) (by decide) ?_
    show Steps p.tables e below (s₁.setTop (mkF m 23 #[.val (.int p1)] [(.long (own_l2 p1))])) _
    jvm_step X0.here [X0.here.top, hx, (hb hby d5_23), X0.method', Bd.returns, narrow]
    first | (intro acts; rw [hr _ acts rfl rfl rfl]) | rw [hr _ _ rfl rfl rfl]
    exact Steps.refl _
  · show Q5 Z p1 h0 n0 _ s₁.heap _
    rw [e0]
    exact ⟨congrArg (fun z => some (Value.long z)) ((if_neg hc3).trans (if_pos hc10)).symm, N0, rfl⟩
set_option maxRecDepth 65536 in
theorem rm5 (l : Launch) (Z : State) (a0 : Array Value) (hw : ∀ d ∈ tables_1, d.before a0 Z = true) (ws : List Jvm.Cond) (p1 : Int32) (h0 : Heap) (n0 : Nat) (Z0 : n0 ≤ h0.size) :
    MetFree l (⟨"com/example/transmute/transmute/MeasuredText", "_highBit", "(C)J"⟩ : MethodName) (head1 (Jvm.Cond.code (⟨"com/example/transmute/transmute/MeasuredText", "_highBit", "(C)J"⟩ : MethodName) prog_86_method_16_code 1 (some .long) :: ws) ({ frames := 0, cells := 0, slots := 0, locals := 0 } : Room)) (fun a U => a = #[(.int p1)] ∧ Z.Warmed39 U.vm ∧ U.heap = h0) (fun _ _ _ _ _ => True) (fun _ U o U' => ∃ v L, o = .returned v ∧ Q5 Z p1 h0 n0 v U'.heap L ∧ FrameEnd U o U' L ({ frames := 0, cells := 0, slots := 0, locals := 0 } : Room).cells ({ frames := 0, cells := 0, slots := 0, locals := 0 } : Room).slots) := by
  by_cases h : p1 < (64 : Int32)
  · exact rm5_t l Z a0 hw ws p1 h0 n0 Z0 h
  · by_cases g : p1 < (128 : Int32)
    · exact rm5_ff l Z a0 hw ws p1 h0 n0 Z0 h g
    · exact rm5_ft l Z a0 hw ws p1 h0 n0 Z0 h g
theorem d3_0 : decode prog_86_method_7_code 0 = .ok (.lload_n 2, 1) := by decide +kernel
theorem d3_1 : decode prog_86_method_7_code 1 = .ok (.lconst 0, 1) := by decide +kernel
theorem d3_2 : decode prog_86_method_7_code 2 = .ok (.lcmp, 1) := by decide +kernel
theorem d3_3 : decode prog_86_method_7_code 3 = .ok (.ifCond .le 79, 3) := by decide +kernel
theorem d3_6 : decode prog_86_method_7_code 6 = .ok (.aload_n 0, 1) := by decide +kernel
theorem d3_7 : decode prog_86_method_7_code 7 = .ok (.dup, 1) := by decide +kernel
theorem d3_8 : decode prog_86_method_7_code 8 = .ok (.getfield 39, 3) := by decide +kernel
theorem d3_11 : decode prog_86_method_7_code 11 = .ok (.lload_n 2, 1) := by decide +kernel
theorem d3_12 : decode prog_86_method_7_code 12 = .ok (.ladd, 1) := by decide +kernel
theorem d3_13 : decode prog_86_method_7_code 13 = .ok (.putfield 39, 3) := by decide +kernel
theorem d3_16 : decode prog_86_method_7_code 16 = .ok (.aload_n 0, 1) := by decide +kernel
theorem d3_17 : decode prog_86_method_7_code 17 = .ok (.dup, 1) := by decide +kernel
theorem d3_18 : decode prog_86_method_7_code 18 = .ok (.getfield 43, 3) := by decide +kernel
theorem d3_21 : decode prog_86_method_7_code 21 = .ok (.iload_n 1, 1) := by decide +kernel
theorem d3_22 : decode prog_86_method_7_code 22 = .ok (.bipush 34, 2) := by decide +kernel
theorem d3_24 : decode prog_86_method_7_code 24 = .ok (.if_icmp .ne 7, 3) := by decide +kernel
theorem d3_31 : decode prog_86_method_7_code 31 = .ok (.lconst 0, 1) := by decide +kernel
theorem d3_32 : decode prog_86_method_7_code 32 = .ok (.ladd, 1) := by decide +kernel
theorem d3_33 : decode prog_86_method_7_code 33 = .ok (.putfield 43, 3) := by decide +kernel
theorem d3_36 : decode prog_86_method_7_code 36 = .ok (.aload_n 0, 1) := by decide +kernel
theorem d3_37 : decode prog_86_method_7_code 37 = .ok (.dup, 1) := by decide +kernel
theorem d3_38 : decode prog_86_method_7_code 38 = .ok (.getfield 46, 3) := by decide +kernel
theorem d3_41 : decode prog_86_method_7_code 41 = .ok (.iload_n 1, 1) := by decide +kernel
theorem d3_42 : decode prog_86_method_7_code 42 = .ok (.bipush 92, 2) := by decide +kernel
theorem d3_44 : decode prog_86_method_7_code 44 = .ok (.if_icmp .ne 7, 3) := by decide +kernel
theorem d3_51 : decode prog_86_method_7_code 51 = .ok (.lconst 0, 1) := by decide +kernel
theorem d3_52 : decode prog_86_method_7_code 52 = .ok (.ladd, 1) := by decide +kernel
theorem d3_53 : decode prog_86_method_7_code 53 = .ok (.putfield 46, 3) := by decide +kernel
theorem d3_56 : decode prog_86_method_7_code 56 = .ok (.aload_n 0, 1) := by decide +kernel
theorem d3_57 : decode prog_86_method_7_code 57 = .ok (.dup, 1) := by decide +kernel
theorem d3_58 : decode prog_86_method_7_code 58 = .ok (.getfield 49, 3) := by decide +kernel
theorem d3_61 : decode prog_86_method_7_code 61 = .ok (.iload_n 1, 1) := by decide +kernel
theorem d3_62 : decode prog_86_method_7_code 62 = .ok (.invokestatic 32, 3) := by decide +kernel
theorem d3_65 : decode prog_86_method_7_code 65 = .ok (.lor, 1) := by decide +kernel
theorem d3_66 : decode prog_86_method_7_code 66 = .ok (.putfield 49, 3) := by decide +kernel
theorem d3_69 : decode prog_86_method_7_code 69 = .ok (.aload_n 0, 1) := by decide +kernel
theorem d3_70 : decode prog_86_method_7_code 70 = .ok (.dup, 1) := by decide +kernel
theorem d3_71 : decode prog_86_method_7_code 71 = .ok (.getfield 52, 3) := by decide +kernel
theorem d3_74 : decode prog_86_method_7_code 74 = .ok (.iload_n 1, 1) := by decide +kernel
theorem d3_75 : decode prog_86_method_7_code 75 = .ok (.invokestatic 36, 3) := by decide +kernel
theorem d3_78 : decode prog_86_method_7_code 78 = .ok (.lor, 1) := by decide +kernel
theorem d3_79 : decode prog_86_method_7_code 79 = .ok (.putfield 52, 3) := by decide +kernel
theorem d3_82 : decode prog_86_method_7_code 82 = .ok (.return_, 1) := by decide +kernel
theorem pn_3 : plainName "com/example/transmute/transmute/MeasuredText" = true := by first | (simp [plainName, overriddenIn]; done) | decide +kernel
theorem pd_3_2 : parseMethodDescriptor "(C)J" = some ⟨[.char], some .long⟩ := by decide +kernel
theorem ef_3 (m : MethodId) (x0 : Addr) (x1 : Int32) (x2 : Int64) : entryFrame m #[(.ref x0), (.int x1), (.long x2)] 4 = mkF m 0 #[.val (.ref x0), .val (.int x1), .val (.long x2), .second] [] := by first | (simp [entryFrame, mkF, argsToLocals, Value.category]; done) | rfl
theorem d3_27 : decode prog_86_method_7_code 27 = .ok (.lload_n 2, 1) := by decide +kernel
theorem d3_28 : decode prog_86_method_7_code 28 = .ok (.goto 4, 3) := by decide +kernel
theorem d3_47 : decode prog_86_method_7_code 47 = .ok (.lload_n 2, 1) := by decide +kernel
theorem d3_48 : decode prog_86_method_7_code 48 = .ok (.goto 4, 3) := by decide +kernel
def Q3 (Z : State) (a1 : Addr) (p2 : Int32) (q3 : Int64) (w4 : Int64) (w7 : Int64) (w10 : Int64) (w13 : Int64) (w17 : Int64) (h0 : Heap) (n0 : Nat) (v : Option Value) (h : Heap) (L : List Loc) : Prop := v = none ∧ Fr n0 L ∧ Keep h0 h [a1] ∧ own_MT Z h a1 (w4 + own_pos q3) (w7 + own_eq p2 34 (own_pos q3)) (w10 + own_eq p2 92 (own_pos q3)) (w13 ||| own_bit q3 (own_low p2)) (w17 ||| own_bit q3 (own_high p2))
set_option maxRecDepth 65536 in
set_option maxHeartbeats 40000000 in
theorem rm3_ftt (l : Launch) (Z : State) (a0 : Array Value) (hw : ∀ d ∈ tables_1, d.before a0 Z = true) (ws : List Jvm.Cond) (a1 : Addr) (p2 : Int32) (q3 : Int64) (w4 : Int64) (w7 : Int64) (w10 : Int64) (w13 : Int64) (w17 : Int64) (h0 : Heap) (n0 : Nat) (Z0 : n0 ≤ h0.size) (F_m_nLength_a1 : Fld Z h0 a1 "com/example/transmute/transmute/MeasuredText" "m_nLength" "J" (.long w4)) (E_a1 : Exa Z h0 a1 "com/example/transmute/transmute/MeasuredText") (g_a1 : n0 ≤ a1) (F_m_nQuotes_a1 : Fld Z h0 a1 "com/example/transmute/transmute/MeasuredText" "m_nQuotes" "J" (.long w7)) (F_m_nBackslashes_a1 : Fld Z h0 a1 "com/example/transmute/transmute/MeasuredText" "m_nBackslashes" "J" (.long w10)) (F_m_nLowChars_a1 : Fld Z h0 a1 "com/example/transmute/transmute/MeasuredText" "m_nLowChars" "J" (.long w13)) (F_m_nHighChars_a1 : Fld Z h0 a1 "com/example/transmute/transmute/MeasuredText" "m_nHighChars" "J" (.long w17)) (hc3 : (0 : Int32) < (lcmpW q3 (0 : Int64))) (hc24 : ¬ (p2 = (34 : Int32))) (hc44 : ¬ (p2 = (92 : Int32))) :
    MetFree l (⟨"com/example/transmute/transmute/MeasuredText", "addRepeated", "(CJ)V"⟩ : MethodName) (head1 (Jvm.Cond.code (⟨"com/example/transmute/transmute/MeasuredText", "addRepeated", "(CJ)V"⟩ : MethodName) prog_86_method_7_code 4 none :: ws) ({ frames := 1, cells := 0, slots := 0, locals := 15 } : Room)) (fun a U => a = #[(.ref a1), (.int p2), (.long q3)] ∧ Z.Warmed39 U.vm ∧ U.heap = h0) (fun _ _ _ _ _ => True) (fun _ U o U' => ∃ v L, o = .returned v ∧ Q3 Z a1 p2 q3 w4 w7 w10 w13 w17 h0 n0 v U'.heap L ∧ FrameEnd U o U' L ({ frames := 1, cells := 0, slots := 0, locals := 15 } : Room).cells ({ frames := 1, cells := 0, slots := 0, locals := 15 } : Room).slots) := by
  refine MetFree.of_bodySF (plainFor_of_name pn_3) hisR ?_
  intro p e s m args below meth c s₁ Bd hml0 hP hK
  obtain ⟨rfl, hZ, hh⟩ := hP
  have hx := Bd.exec
  have hby := Bd.bytes
  have hml : c.maxLocals = 4 := hml0
  have hown : s.vm.findClass "com/example/transmute/transmute/MeasuredText" = some m.cls := findClass_of_methodNamed Bd.named
  have hnm := (name_of_methodNamed Bd.named Bd.method).1
  have X0 : Stand p l e ({ frames := 1, cells := 0, slots := 0, locals := 15 } : Room) s m #[(.ref a1), (.int p2), (.long q3)] below meth c s₁ [] 0 0 := Stand.of_body Bd
  have e0 : s₁.heap = h0 := by rw [← hh, Bd.state]; rfl
  have N0 := Fr.nil n0
  have pre0 : ∀ t, Steps p.tables e below (s₁.setTop (mkF m 0 #[.val (.ref a1), .val (.int p2), .val (.long q3), .second] [])) t → Steps p.tables e below (s₁.setTop (entryFrame m #[(.ref a1), (.int p2), (.long q3)] 4)) t := fun t k => castTop (ef_3 m a1 p2 q3) k
  obtain ⟨T5, X5, e5, st5⟩ := getF X0 hx hZ hown (host := "") (Or.inl (hw _ (List.mem_of_getElem? (i := 14) rfl))) Via.refl e0 F_m_nLength_a1 (g := (mkF m 8 #[.val (.ref a1), .val (.int p2), .val (.long q3), .second] [(.ref a1), (.ref a1)])) rfl rfl (hb hby d3_8)
  obtain ⟨T6, h6, X6, e6, W6, st6⟩ := putF X5 hx hZ hown (host := "") (Or.inl (hw _ (List.mem_of_getElem? (i := 14) rfl))) Via.refl e5 F_m_nLength_a1 E_a1 (Or.inl (hw _ (List.mem_of_getElem? (i := 15) rfl))) (hw _ (List.mem_of_getElem? (i := 1) rfl)) (ty := .long) (by decide) rfl rfl (g := (mkF m 13 #[.val (.ref a1), .val (.int p2), .val (.long q3), .second] [(.long (w4 + q3)), (.ref a1)])) rfl rfl (hb hby d3_13)
  have Fw6 := F_m_nLength_a1.same W6
  have K6 : Keep h0 h6 [a1] := (Keep.refl h0 [a1]).wr W6 (Or.inl (List.mem_of_getElem? (i := 0) rfl))
  have N6 := Fr.snoc X6 N0 g_a1
  obtain ⟨T8, X8, e8, st8⟩ := getF X6 hx hZ hown (host := "") (Or.inl (hw _ (List.mem_of_getElem? (i := 16) rfl))) Via.refl e6 (F_m_nQuotes_a1.other W6 (Or.inr (slot_ne (Or.inl (hw _ (List.mem_of_getElem? (i := 17) rfl))) (Or.inl (hw _ (List.mem_of_getElem? (i := 15) rfl))) (by decide) (t := .long) (t' := .long) (by decide) (by decide)))) (g := (mkF m 18 #[.val (.ref a1), .val (.int p2), .val (.long q3), .second] [(.ref a1), (.ref a1)])) rfl rfl (hb hby d3_18)
  obtain ⟨T9, h9, X9, e9, W9, st9⟩ := putF X8 hx hZ hown (host := "") (Or.inl (hw _ (List.mem_of_getElem? (i := 16) rfl))) Via.refl e8 (F_m_nQuotes_a1.other W6 (Or.inr (slot_ne (Or.inl (hw _ (List.mem_of_getElem? (i := 17) rfl))) (Or.inl (hw _ (List.mem_of_getElem? (i := 15) rfl))) (by decide) (t := .long) (t' := .long) (by decide) (by decide)))) (E_a1.wr W6) (Or.inl (hw _ (List.mem_of_getElem? (i := 17) rfl))) (hw _ (List.mem_of_getElem? (i := 1) rfl)) (ty := .long) (by decide) rfl rfl (g := (mkF m 33 #[.val (.ref a1), .val (.int p2), .val (.long q3), .second] [(.long (w7 + (0 : Int64))), (.ref a1)])) rfl rfl (hb hby d3_33)
  have Fw9 := (F_m_nQuotes_a1.other W6 (Or.inr (slot_ne (Or.inl (hw _ (List.mem_of_getElem? (i := 17) rfl))) (Or.inl (hw _ (List.mem_of_getElem? (i := 15) rfl))) (by decide) (t := .long) (t' := .long) (by decide) (by decide)))).same W9
  have K9 : Keep h0 h9 [a1] := K6.wr W9 (Or.inl (List.mem_of_getElem? (i := 0) rfl))
  have N9 := Fr.snoc X9 N6 g_a1
  obtain ⟨T11, X11, e11, st11⟩ := getF X9 hx hZ hown (host := "") (Or.inl (hw _ (List.mem_of_getElem? (i := 18) rfl))) Via.refl e9 ((F_m_nBackslashes_a1.other W6 (Or.inr (slot_ne (Or.inl (hw _ (List.mem_of_getElem? (i := 19) rfl))) (Or.inl (hw _ (List.mem_of_getElem? (i := 15) rfl))) (by decide) (t := .long) (t' := .long) (by decide) (by decide)))).other W9 (Or.inr (slot_ne (Or.inl (hw _ (List.mem_of_getElem? (i := 19) rfl))) (Or.inl (hw _ (List.mem_of_getElem? (i := 17) rfl))) (by decide) (t := .long) (t' := .long) (by decide) (by decide)))) (g := (mkF m 38 #[.val (.ref a1), .val (.int p2), .val (.long q3), .second] [(.ref a1), (.ref a1)])) rfl rfl (hb hby d3_38)
  obtain ⟨T12, h12, X12, e12, W12, st12⟩ := putF X11 hx hZ hown (host := "") (Or.inl (hw _ (List.mem_of_getElem? (i := 18) rfl))) Via.refl e11 ((F_m_nBackslashes_a1.other W6 (Or.inr (slot_ne (Or.inl (hw _ (List.mem_of_getElem? (i := 19) rfl))) (Or.inl (hw _ (List.mem_of_getElem? (i := 15) rfl))) (by decide) (t := .long) (t' := .long) (by decide) (by decide)))).other W9 (Or.inr (slot_ne (Or.inl (hw _ (List.mem_of_getElem? (i := 19) rfl))) (Or.inl (hw _ (List.mem_of_getElem? (i := 17) rfl))) (by decide) (t := .long) (t' := .long) (by decide) (by decide)))) ((E_a1.wr W6).wr W9) (Or.inl (hw _ (List.mem_of_getElem? (i := 19) rfl))) (hw _ (List.mem_of_getElem? (i := 1) rfl)) (ty := .long) (by decide) rfl rfl (g := (mkF m 53 #[.val (.ref a1), .val (.int p2), .val (.long q3), .second] [(.long (w10 + (0 : Int64))), (.ref a1)])) rfl rfl (hb hby d3_53)
  have Fw12 := ((F_m_nBackslashes_a1.other W6 (Or.inr (slot_ne (Or.inl (hw _ (List.mem_of_getElem? (i := 19) rfl))) (Or.inl (hw _ (List.mem_of_getElem? (i := 15) rfl))) (by decide) (t := .long) (t' := .long) (by decide) (by decide)))).other W9 (Or.inr (slot_ne (Or.inl (hw _ (List.mem_of_getElem? (i := 19) rfl))) (Or.inl (hw _ (List.mem_of_getElem? (i := 17) rfl))) (by decide) (t := .long) (t' := .long) (by decide) (by decide)))).same W12
  have K12 : Keep h0 h12 [a1] := K9.wr W12 (Or.inl (List.mem_of_getElem? (i := 0) rfl))
  have N12 := Fr.snoc X12 N9 g_a1
  obtain ⟨T14, X14, e14, st14⟩ := getF X12 hx hZ hown (host := "") (Or.inl (hw _ (List.mem_of_getElem? (i := 20) rfl))) Via.refl e12 (((F_m_nLowChars_a1.other W6 (Or.inr (slot_ne (Or.inl (hw _ (List.mem_of_getElem? (i := 21) rfl))) (Or.inl (hw _ (List.mem_of_getElem? (i := 15) rfl))) (by decide) (t := .long) (t' := .long) (by decide) (by decide)))).other W9 (Or.inr (slot_ne (Or.inl (hw _ (List.mem_of_getElem? (i := 21) rfl))) (Or.inl (hw _ (List.mem_of_getElem? (i := 17) rfl))) (by decide) (t := .long) (t' := .long) (by decide) (by decide)))).other W12 (Or.inr (slot_ne (Or.inl (hw _ (List.mem_of_getElem? (i := 21) rfl))) (Or.inl (hw _ (List.mem_of_getElem? (i := 19) rfl))) (by decide) (t := .long) (t' := .long) (by decide) (by decide)))) (g := (mkF m 58 #[.val (.ref a1), .val (.int p2), .val (.long q3), .second] [(.ref a1), (.ref a1)])) rfl rfl (hb hby d3_58)
  obtain ⟨_, _, ⟨T15, L15, k15, n15⟩, -, X15, ⟨Lc15, hQ15, l15, y15, z15⟩, st15⟩ := Jvm.LawKit.callS X14 hx (y := (⟨"com/example/transmute/transmute/MeasuredText", "_lowBit", "(C)J"⟩ : MethodName)) hown (mvT hZ (hw _ (List.mem_of_getElem? (i := 22) rfl))) (mvT hZ (hw _ (List.mem_of_getElem? (i := 23) rfl))) (mvT hZ (hw _ (List.mem_of_getElem? (i := 2) rfl))) (mvT hZ (hw _ (List.mem_of_getElem? (i := 24) rfl))) (by decide) (backOf (W := 3) (rm4 l Z a0 hw [] p2 h12 n0 (Nat.le_trans Z0 K12.1)) hZ (hw _ (List.mem_of_getElem? (i := 24) rfl)) (hw _ (List.mem_of_getElem? (i := 2) rfl)) (by decide) (by decide)) (g := (mkF m 62 #[.val (.ref a1), .val (.int p2), .val (.long q3), .second] [(.int p2), (.long w13), (.ref a1)])) rfl (by rw [hml]; rfl) (argsL := [(.int p2)]) (rest := [(.long w13), (.ref a1)]) (lenOf pd_3_2 rfl) rfl (by show 2 * 0 + _ ≤ _; exact Nat.le_of_eq rfl) (hb hby d3_62) (fun _ _ => ⟨rfl, e14, (by decide : 0 + 0 ≤ _), (by decide : 0 + 0 ≤ _)⟩)
  dsimp only [Pt.U, Pt.locs, Pt.cells, Pt.slots] at X15 l15 y15 z15 st15 hQ15
  subst l15 y15 z15
  obtain ⟨rfl, N15q, eh15⟩ := hQ15
  have N15 := Fr.app N12 N15q
  have kc15 : Keep h12 T15.heap [] := by rw [eh15]; exact Keep.refl _ _
  have kh15 : Keep h0 T15.heap [a1] := by rw [eh15]; exact K12
  obtain ⟨T16, h16, X16, e16, W16, st16⟩ := putF X15 hx hZ hown (host := "") (Or.inl (hw _ (List.mem_of_getElem? (i := 20) rfl))) Via.refl rfl ((((F_m_nLowChars_a1.other W6 (Or.inr (slot_ne (Or.inl (hw _ (List.mem_of_getElem? (i := 21) rfl))) (Or.inl (hw _ (List.mem_of_getElem? (i := 15) rfl))) (by decide) (t := .long) (t' := .long) (by decide) (by decide)))).other W9 (Or.inr (slot_ne (Or.inl (hw _ (List.mem_of_getElem? (i := 21) rfl))) (Or.inl (hw _ (List.mem_of_getElem? (i := 17) rfl))) (by decide) (t := .long) (t' := .long) (by decide) (by decide)))).other W12 (Or.inr (slot_ne (Or.inl (hw _ (List.mem_of_getElem? (i := 21) rfl))) (Or.inl (hw _ (List.mem_of_getElem? (i := 19) rfl))) (by decide) (t := .long) (t' := .long) (by decide) (by decide)))).keep kc15 nin0) ((((E_a1.wr W6).wr W9).wr W12).keep kc15) (Or.inl (hw _ (List.mem_of_getElem? (i := 21) rfl))) (hw _ (List.mem_of_getElem? (i := 1) rfl)) (ty := .long) (by decide) rfl rfl (g := (mkF m 66 #[.val (.ref a1), .val (.int p2), .val (.long q3), .second] [(.long (w13 ||| (own_low p2))), (.ref a1)])) rfl rfl (hb hby d3_66)
  have Fw16 := ((((F_m_nLowChars_a1.other W6 (Or.inr (slot_ne (Or.inl (hw _ (List.mem_of_getElem? (i := 21) rfl))) (Or.inl (hw _ (List.mem_of_getElem? (i := 15) rfl))) (by decide) (t := .long) (t' := .long) (by decide) (by decide)))).other W9 (Or.inr (slot_ne (Or.inl (hw _ (List.mem_of_getElem? (i := 21) rfl))) (Or.inl (hw _ (List.mem_of_getElem? (i := 17) rfl))) (by decide) (t := .long) (t' := .long) (by decide) (by decide)))).other W12 (Or.inr (slot_ne (Or.inl (hw _ (List.mem_of_getElem? (i := 21) rfl))) (Or.inl (hw _ (List.mem_of_getElem? (i := 19) rfl))) (by decide) (t := .long) (t' := .long) (by decide) (by decide)))).keep kc15 nin0).same W16
  have K16 : Keep h0 h16 [a1] := kh15.wr W16 (Or.inl (List.mem_of_getElem? (i := 0) rfl))
  have N16 := Fr.snoc X16 N15 g_a1
  obtain ⟨T18, X18, e18, st18⟩ := getF X16 hx hZ hown (host := "") (Or.inl (hw _ (List.mem_of_getElem? (i := 25) rfl))) Via.refl e16 (((((F_m_nHighChars_a1.other W6 (Or.inr (slot_ne (Or.inl (hw _ (List.mem_of_getElem? (i := 26) rfl))) (Or.inl (hw _ (List.mem_of_getElem? (i := 15) rfl))) (by decide) (t := .long) (t' := .long) (by decide) (by decide)))).other W9 (Or.inr (slot_ne (Or.inl (hw _ (List.mem_of_getElem? (i := 26) rfl))) (Or.inl (hw _ (List.mem_of_getElem? (i := 17) rfl))) (by decide) (t := .long) (t' := .long) (by decide) (by decide)))).other W12 (Or.inr (slot_ne (Or.inl (hw _ (List.mem_of_getElem? (i := 26) rfl))) (Or.inl (hw _ (List.mem_of_getElem? (i := 19) rfl))) (by decide) (t := .long) (t' := .long) (by decide) (by decide)))).keep kc15 nin0).other W16 (Or.inr (slot_ne (Or.inl (hw _ (List.mem_of_getElem? (i := 26) rfl))) (Or.inl (hw _ (List.mem_of_getElem? (i := 21) rfl))) (by decide) (t := .long) (t' := .long) (by decide) (by decide)))) (g := (mkF m 71 #[.val (.ref a1), .val (.int p2), .val (.long q3), .second] [(.ref a1), (.ref a1)])) rfl rfl (hb hby d3_71)
  obtain ⟨_, _, ⟨T19, L19, k19, n19⟩, -, X19, ⟨Lc19, hQ19, l19, y19, z19⟩, st19⟩ := Jvm.LawKit.callS X18 hx (y := (⟨"com/example/transmute/transmute/MeasuredText", "_highBit", "(C)J"⟩ : MethodName)) hown (mvT hZ (hw _ (List.mem_of_getElem? (i := 27) rfl))) (mvT hZ (hw _ (List.mem_of_getElem? (i := 28) rfl))) (mvT hZ (hw _ (List.mem_of_getElem? (i := 2) rfl))) (mvT hZ (hw _ (List.mem_of_getElem? (i := 29) rfl))) (by decide) (backOf (W := 3) (rm5 l Z a0 hw [] p2 h16 n0 (Nat.le_trans Z0 K16.1)) hZ (hw _ (List.mem_of_getElem? (i := 29) rfl)) (hw _ (List.mem_of_getElem? (i := 2) rfl)) (by decide) (by decide)) (g := (mkF m 75 #[.val (.ref a1), .val (.int p2), .val (.long q3), .second] [(.int p2), (.long w17), (.ref a1)])) rfl (by rw [hml]; rfl) (argsL := [(.int p2)]) (rest := [(.long w17), (.ref a1)]) (lenOf pd_3_2 rfl) rfl (by show 2 * 0 + _ ≤ _; exact Nat.le_of_eq rfl) (hb hby d3_75) (fun _ _ => ⟨rfl, e18, (by decide : 0 + 0 ≤ _), (by decide : 0 + 0 ≤ _)⟩)
  dsimp only [Pt.U, Pt.locs, Pt.cells, Pt.slots] at X19 l19 y19 z19 st19 hQ19
  subst l19 y19 z19
  obtain ⟨rfl, N19q, eh19⟩ := hQ19
  have N19 := Fr.app N16 N19q
  have kc19 : Keep h16 T19.heap [] := by rw [eh19]; exact Keep.refl _ _
  have kh19 : Keep h0 T19.heap [a1] := by rw [eh19]; exact K16
  obtain ⟨T20, h20, X20, e20, W20, st20⟩ := putF X19 hx hZ hown (host := "") (Or.inl (hw _ (List.mem_of_getElem? (i := 25) rfl))) Via.refl rfl ((((((F_m_nHighChars_a1.other W6 (Or.inr (slot_ne (Or.inl (hw _ (List.mem_of_getElem? (i := 26) rfl))) (Or.inl (hw _ (List.mem_of_getElem? (i := 15) rfl))) (by decide) (t := .long) (t' := .long) (by decide) (by decide)))).other W9 (Or.inr (slot_ne (Or.inl (hw _ (List.mem_of_getElem? (i := 26) rfl))) (Or.inl (hw _ (List.mem_of_getElem? (i := 17) rfl))) (by decide) (t := .long) (t' := .long) (by decide) (by decide)))).other W12 (Or.inr (slot_ne (Or.inl (hw _ (List.mem_of_getElem? (i := 26) rfl))) (Or.inl (hw _ (List.mem_of_getElem? (i := 19) rfl))) (by decide) (t := .long) (t' := .long) (by decide) (by decide)))).keep kc15 nin0).other W16 (Or.inr (slot_ne (Or.inl (hw _ (List.mem_of_getElem? (i := 26) rfl))) (Or.inl (hw _ (List.mem_of_getElem? (i := 21) rfl))) (by decide) (t := .long) (t' := .long) (by decide) (by decide)))).keep kc19 nin0) ((((((E_a1.wr W6).wr W9).wr W12).keep kc15).wr W16).keep kc19) (Or.inl (hw _ (List.mem_of_getElem? (i := 26) rfl))) (hw _ (List.mem_of_getElem? (i := 1) rfl)) (ty := .long) (by decide) rfl rfl (g := (mkF m 79 #[.val (.ref a1), .val (.int p2), .val (.long q3), .second] [(.long (w17 ||| (own_high p2))), (.ref a1)])) rfl rfl (hb hby d3_79)
  have Fw20 := ((((((F_m_nHighChars_a1.other W6 (Or.inr (slot_ne (Or.inl (hw _ (List.mem_of_getElem? (i := 26) rfl))) (Or.inl (hw _ (List.mem_of_getElem? (i := 15) rfl))) (by decide) (t := .long) (t' := .long) (by decide) (by decide)))).other W9 (Or.inr (slot_ne (Or.inl (hw _ (List.mem_of_getElem? (i := 26) rfl))) (Or.inl (hw _ (List.mem_of_getElem? (i := 17) rfl))) (by decide) (t := .long) (t' := .long) (by decide) (by decide)))).other W12 (Or.inr (slot_ne (Or.inl (hw _ (List.mem_of_getElem? (i := 26) rfl))) (Or.inl (hw _ (List.mem_of_getElem? (i := 19) rfl))) (by decide) (t := .long) (t' := .long) (by decide) (by decide)))).keep kc15 nin0).other W16 (Or.inr (slot_ne (Or.inl (hw _ (List.mem_of_getElem? (i := 26) rfl))) (Or.inl (hw _ (List.mem_of_getElem? (i := 21) rfl))) (by decide) (t := .long) (t' := .long) (by decide) (by decide)))).keep kc19 nin0).same W20
  have K20 : Keep h0 h20 [a1] := kh19.wr W20 (Or.inl (List.mem_of_getElem? (i := 0) rfl))
  have N20 := Fr.snoc X20 N19 g_a1
  obtain ⟨fs, hr, hrun, hended, hW, hsame⟩ := X20.leave (v := none) (fun _ => rfl)
  refine ⟨_, _, pre0 _ ?_, hrun, hended, _, _, rfl, ?_, ⟨_, rfl⟩, hW, hsame.mono (by decide) (by decide)⟩
  · show Steps p.tables e below (s₁.setTop (mkF m 0 #[.val (.ref a1), .val (.int p2), .val (.long q3), .second] [])) _
    refine XS.lloadN X0.here hx rfl (hb hby d3_0) rfl ?_
    show Steps p.tables e below (s₁.setTop (mkF m 1 #[.val (.ref a1), .val (.int p2), .val (.long q3), .second] [(.long q3)])) _
    refine XS.lconst X0.here hx rfl (hb hby d3_1) ?_
    show Steps p.tables e below (s₁.setTop (mkF m 2 #[.val (.ref a1), .val (.int p2), .val (.long q3), .second] [(.long (0 : Int64)), (.long q3)])) _
    refine XS.lcmp X0.here hx rfl (hb hby d3_2) rfl ?_
    show Steps p.tables e below (s₁.setTop (mkF m 3 #[.val (.ref a1), .val (.int p2), .val (.long q3), .second] [(.int (lcmpW q3 (0 : Int64)))])) _
    refine XS.ifNo X0.here hx rfl (hb hby d3_3) rfl ((if0 _ _).trans (tlt hc3).2.2.2) ?_
    show Steps p.tables e below (s₁.setTop (mkF m 6 #[.val (.ref a1), .val (.int p2), .val (.long q3), .second] [])) _
    refine XS.aloadN X0.here hx rfl (hb hby d3_6) rfl rfl ?_
    show Steps p.tables e below (s₁.setTop (mkF m 7 #[.val (.ref a1), .val (.int p2), .val (.long q3), .second] [(.ref a1)])) _
    refine XS.dup X0.here hx rfl (hb hby d3_7) rfl rfl ?_
    show Steps p.tables e below (s₁.setTop (mkF m 8 #[.val (.ref a1), .val (.int p2), .val (.long q3), .second] [(.ref a1), (.ref a1)])) _
    refine st5 _ ?_
    show Steps p.tables e below (T5.setTop (mkF m 11 #[.val (.ref a1), .val (.int p2), .val (.long q3), .second] [(.long w4), (.ref a1)])) _
    refine XS.lloadN X5.here hx rfl (hb hby d3_11) rfl ?_
    show Steps p.tables e below (T5.setTop (mkF m 12 #[.val (.ref a1), .val (.int p2), .val (.long q3), .second] [(.long q3), (.long w4), (.ref a1)])) _
    refine XS.ladd X5.here hx rfl (hb hby d3_12) rfl ?_
    show Steps p.tables e below (T5.setTop (mkF m 13 #[.val (.ref a1), .val (.int p2), .val (.long q3), .second] [(.long (w4 + q3)), (.ref a1)])) _
    refine st6 _ ?_
    show Steps p.tables e below (T6.setTop (mkF m 16 #[.val (.ref a1), .val (.int p2), .val (.long q3), .second] [])) _
    refine XS.aloadN X6.here hx rfl (hb hby d3_16) rfl rfl ?_
    show Steps p.tables e below (T6.setTop (mkF m 17 #[.val (.ref a1), .val (.int p2), .val (.long q3), .second] [(.ref a1)])) _
    refine XS.dup X6.here hx rfl (hb hby d3_17) rfl rfl ?_
    show Steps p.tables e below (T6.setTop (mkF m 18 #[.val (.ref a1), .val (.int p2), .val (.long q3), .second] [(.ref a1), (.ref a1)])) _
    refine st8 _ ?_
    show Steps p.tables e below (T8.setTop (mkF m 21 #[.val (.ref a1), .val (.int p2), .val (.long q3), .second] [(.long w7), (.ref a1)])) _
    refine XS.iloadN X8.here hx rfl (hb hby d3_21) rfl ?_
    show Steps p.tables e below (T8.setTop (mkF m 22 #[.val (.ref a1), .val (.int p2), .val (.long q3), .second] [(.int p2), (.long w7), (.ref a1)])) _
    refine XS.bipush X8.here hx rfl (hb hby d3_22) ?_
    show Steps p.tables e below (T8.setTop (mkF m 24 #[.val (.ref a1), .val (.int p2), .val (.long q3), .second] [(.int (34 : Int32)), (.int p2), (.long w7), (.ref a1)])) _
    refine XS.icmpYes X8.here hx rfl (pc0 := 24) (pc' := 31) rfl (hb hby d3_24) rfl (feq hc24).2 (by decide) (by decide) ?_
    show Steps p.tables e below (T8.setTop (mkF m 31 #[.val (.ref a1), .val (.int p2), .val (.long q3), .second] [(.long w7), (.ref a1)])) _
    refine XS.lconst X8.here hx rfl (hb hby d3_31) ?_
    show Steps p.tables e below (T8.setTop (mkF m 32 #[.val (.ref a1), .val (.int p2), .val (.long q3), .second] [(.long (0 : Int64)), (.long w7), (.ref a1)])) _
    refine XS.ladd X8.here hx rfl (hb hby d3_32) rfl ?_
    show Steps p.tables e below (T8.setTop (mkF m 33 #[.val (.ref a1), .val (.int p2), .val (.long q3), .second] [(.long (w7 + (0 : Int64))), (.ref a1)])) _
    refine st9 _ ?_
    show Steps p.tables e below (T9.setTop (mkF m 36 #[.val (.ref a1), .val (.int p2), .val (.long q3), .second] [])) _
    refine XS.aloadN X9.here hx rfl (hb hby d3_36) rfl rfl ?_
    show Steps p.tables e below (T9.setTop (mkF m 37 #[.val (.ref a1), .val (.int p2), .val (.long q3), .second] [(.ref a1)])) _
    refine XS.dup X9.here hx rfl (hb hby d3_37) rfl rfl ?_
    show Steps p.tables e below (T9.setTop (mkF m 38 #[.val (.ref a1), .val (.int p2), .val (.long q3), .second] [(.ref a1), (.ref a1)])) _
    refine st11 _ ?_
    show Steps p.tables e below (T11.setTop (mkF m 41 #[.val (.ref a1), .val (.int p2), .val (.long q3), .second] [(.long w10), (.ref a1)])) _
    refine XS.iloadN X11.here hx rfl (hb hby d3_41) rfl ?_
    show Steps p.tables e below (T11.setTop (mkF m 42 #[.val (.ref a1), .val (.int p2), .val (.long q3), .second] [(.int p2), (.long w10), (.ref a1)])) _
    refine XS.bipush X11.here hx rfl (hb hby d3_42) ?_
    show Steps p.tables e below (T11.setTop (mkF m 44 #[.val (.ref a1), .val (.int p2), .val (.long q3), .second] [(.int (92 : Int32)), (.int p2), (.long w10), (.ref a1)])) _
    refine XS.icmpYes X11.here hx rfl (pc0 := 44) (pc' := 51) rfl (hb hby d3_44) rfl (feq hc44).2 (by decide) (by decide) ?_
    show Steps p.tables e below (T11.setTop (mkF m 51 #[.val (.ref a1), .val (.int p2), .val (.long q3), .second] [(.long w10), (.ref a1)])) _
    refine XS.lconst X11.here hx rfl (hb hby d3_51) ?_
    show Steps p.tables e below (T11.setTop (mkF m 52 #[.val (.ref a1), .val (.int p2), .val (.long q3), .second] [(.long (0 : Int64)), (.long w10), (.ref a1)])) _
    refine XS.ladd X11.here hx rfl (hb hby d3_52) rfl ?_
    show Steps p.tables e below (T11.setTop (mkF m 53 #[.val (.ref a1), .val (.int p2), .val (.long q3), .second] [(.long (w10 + (0 : Int64))), (.ref a1)])) _
    refine st12 _ ?_
    show Steps p.tables e below (T12.setTop (mkF m 56 #[.val (.ref a1), .val (.int p2), .val (.long q3), .second] [])) _
    refine XS.aloadN X12.here hx rfl (hb hby d3_56) rfl rfl ?_
    show Steps p.tables e below (T12.setTop (mkF m 57 #[.val (.ref a1), .val (.int p2), .val (.long q3), .second] [(.ref a1)])) _
    refine XS.dup X12.here hx rfl (hb hby d3_57) rfl rfl ?_
    show Steps p.tables e below (T12.setTop (mkF m 58 #[.val (.ref a1), .val (.int p2), .val (.long q3), .second] [(.ref a1), (.ref a1)])) _
    refine st14 _ ?_
    show Steps p.tables e below (T14.setTop (mkF m 61 #[.val (.ref a1), .val (.int p2), .val (.long q3), .second] [(.long w13), (.ref a1)])) _
    refine XS.iloadN X14.here hx rfl (hb hby d3_61) rfl ?_
    show Steps p.tables e below (T14.setTop (mkF m 62 #[.val (.ref a1), .val (.int p2), .val (.long q3), .second] [(.int p2), (.long w13), (.ref a1)])) _
    refine st15 _ ?_
    show Steps p.tables e below (T15.setTop (mkF m 65 #[.val (.ref a1), .val (.int p2), .val (.long q3), .second] [(.long (own_low p2)), (.long w13), (.ref a1)])) _
    refine XS.lor X15.here hx rfl (hb hby d3_65) rfl ?_
    show Steps p.tables e below (T15.setTop (mkF m 66 #[.val (.ref a1), .val (.int p2), .val (.long q3), .second] [(.long (w13 ||| (own_low p2))), (.ref a1)])) _
    refine st16 _ ?_
    show Steps p.tables e below (T16.setTop (mkF m 69 #[.val (.ref a1), .val (.int p2), .val (.long q3), .second] [])) _
    refine XS.aloadN X16.here hx rfl (hb hby d3_69) rfl rfl ?_
    show Steps p.tables e below (T16.setTop (mkF m 70 #[.val (.ref a1), .val (.int p2), .val (.long q3), .second] [(.ref a1)])) _
    refine XS.dup X16.here hx rfl (hb hby d3_70) rfl rfl ?_
    show Steps p.tables e below (T16.setTop (mkF m 71 #[.val (.ref a1), .val (.int p2), .val (.long q3), .second] [(.ref a1), (.ref a1)])) _
    refine st18 _ ?_
    show Steps p.tables e below (T18.setTop (mkF m 74 #[.val (.ref a1), .val (.int p2), .val (.long q3), .second] [(.long w17), (.ref a1)])) _
    refine XS.iloadN X18.here hx rfl (hb hby d3_74) rfl ?_
    show Steps p.tables e below (T18.setTop (mkF m 75 #[.val (.ref a1), .val (.int p2), .val (.long q3), .second] [(.int p2), (.long w17), (.ref a1)])) _
    refine st19 _ ?_
    show Steps p.tables e below (T19.setTop (mkF m 78 #[.val (.ref a1), .val (.int p2), .val (.long q3), .second] [(.long (own_high p2)), (.long w17), (.ref a1)])) _
    refine XS.lor X19.here hx rfl (hb hby d3_78) rfl ?_
    show Steps p.tables e below (T19.setTop (mkF m 79 #[.val (.ref a1), .val (.int p2), .val (.long q3), .second] [(.long (w17 ||| (own_high p2))), (.ref a1)])) _
    refine st20 _ ?_
    show Steps p.tables e below (T20.setTop (mkF m 82 #[.val (.ref a1), .val (.int p2), .val (.long q3), .second] [])) _
    exact X20.returnOut hx Bd.returns (hb hby d3_82) hr
  · show Q3 Z a1 p2 q3 w4 w7 w10 w13 w17 h0 n0 _ T20.heap _
    rw [e20]
    have r1 : own_pos q3 = q3 := if_pos hc3
    have r2 : own_eq p2 34 q3 = 0 := if_neg hc24
    have r3 : own_eq p2 92 q3 = 0 := if_neg hc44
    have r4 : ∀ b, own_bit q3 b = b := fun b => if_pos hc3
    exact ⟨rfl, N20, K20, by rw [r1, r2, r3, r4, r4]; exact ⟨(((((((E_a1.wr W6).wr W9).wr W12).keep kc15).wr W16).keep kc19).wr W20), ((((((Fw6.other W9 (Or.inr (slot_ne (Or.inl (hw _ (List.mem_of_getElem? (i := 15) rfl))) (Or.inl (hw _ (List.mem_of_getElem? (i := 17) rfl))) (by decide) (t := .long) (t' := .long) (by decide) (by decide)))).other W12 (Or.inr (slot_ne (Or.inl (hw _ (List.mem_of_getElem? (i := 15) rfl))) (Or.inl (hw _ (List.mem_of_getElem? (i := 19) rfl))) (by decide) (t := .long) (t' := .long) (by decide) (by decide)))).keep kc15 nin0).other W16 (Or.inr (slot_ne (Or.inl (hw _ (List.mem_of_getElem? (i := 15) rfl))) (Or.inl (hw _ (List.mem_of_getElem? (i := 21) rfl))) (by decide) (t := .long) (t' := .long) (by decide) (by decide)))).keep kc19 nin0).other W20 (Or.inr (slot_ne (Or.inl (hw _ (List.mem_of_getElem? (i := 15) rfl))) (Or.inl (hw _ (List.mem_of_getElem? (i := 26) rfl))) (by decide) (t := .long) (t' := .long) (by decide) (by decide)))), (((((Fw9.other W12 (Or.inr (slot_ne (Or.inl (hw _ (List.mem_of_getElem? (i := 17) rfl))) (Or.inl (hw _ (List.mem_of_getElem? (i := 19) rfl))) (by decide) (t := .long) (t' := .long) (by decide) (by decide)))).keep kc15 nin0).other W16 (Or.inr (slot_ne (Or.inl (hw _ (List.mem_of_getElem? (i := 17) rfl))) (Or.inl (hw _ (List.mem_of_getElem? (i := 21) rfl))) (by decide) (t := .long) (t' := .long) (by decide) (by decide)))).keep kc19 nin0).other W20 (Or.inr (slot_ne (Or.inl (hw _ (List.mem_of_getElem? (i := 17) rfl))) (Or.inl (hw _ (List.mem_of_getElem? (i := 26) rfl))) (by decide) (t := .long) (t' := .long) (by decide) (by decide)))), ((((Fw12.keep kc15 nin0).other W16 (Or.inr (slot_ne (Or.inl (hw _ (List.mem_of_getElem? (i := 19) rfl))) (Or.inl (hw _ (List.mem_of_getElem? (i := 21) rfl))) (by decide) (t := .long) (t' := .long) (by decide) (by decide)))).keep kc19 nin0).other W20 (Or.inr (slot_ne (Or.inl (hw _ (List.mem_of_getElem? (i := 19) rfl))) (Or.inl (hw _ (List.mem_of_getElem? (i := 26) rfl))) (by decide) (t := .long) (t' := .long) (by decide) (by decide)))), ((Fw16.keep kc19 nin0).other W20 (Or.inr (slot_ne (Or.inl (hw _ (List.mem_of_getElem? (i := 21) rfl))) (Or.inl (hw _ (List.mem_of_getElem? (i := 26) rfl))) (by decide) (t := .long) (t' := .long) (by decide) (by decide)))), Fw20⟩⟩
set_option maxRecDepth 65536 in
set_option maxHeartbeats 40000000 in
theorem rm3_fft (l : Launch) (Z : State) (a0 : Array Value) (hw : ∀ d ∈ tables_1, d.before a0 Z = true) (ws : List Jvm.Cond) (a1 : Addr) (p2 : Int32) (q3 : Int64) (w4 : Int64) (w7 : Int64) (w10 : Int64) (w13 : Int64) (w17 : Int64) (h0 : Heap) (n0 : Nat) (Z0 : n0 ≤ h0.size) (F_m_nLength_a1 : Fld Z h0 a1 "com/example/transmute/transmute/MeasuredText" "m_nLength" "J" (.long w4)) (E_a1 : Exa Z h0 a1 "com/example/transmute/transmute/MeasuredText") (g_a1 : n0 ≤ a1) (F_m_nQuotes_a1 : Fld Z h0 a1 "com/example/transmute/transmute/MeasuredText" "m_nQuotes" "J" (.long w7)) (F_m_nBackslashes_a1 : Fld Z h0 a1 "com/example/transmute/transmute/MeasuredText" "m_nBackslashes" "J" (.long w10)) (F_m_nLowChars_a1 : Fld Z h0 a1 "com/example/transmute/transmute/MeasuredText" "m_nLowChars" "J" (.long w13)) (F_m_nHighChars_a1 : Fld Z h0 a1 "com/example/transmute/transmute/MeasuredText" "m_nHighChars" "J" (.long w17)) (hc3 : (0 : Int32) < (lcmpW q3 (0 : Int64))) (hc24 : p2 = (34 : Int32)) (hc44 : ¬ (p2 = (92 : Int32))) :
    MetFree l (⟨"com/example/transmute/transmute/MeasuredText", "addRepeated", "(CJ)V"⟩ : MethodName) (head1 (Jvm.Cond.code (⟨"com/example/transmute/transmute/MeasuredText", "addRepeated", "(CJ)V"⟩ : MethodName) prog_86_method_7_code 4 none :: ws) ({ frames := 1, cells := 0, slots := 0, locals := 15 } : Room)) (fun a U => a = #[(.ref a1), (.int p2), (.long q3)] ∧ Z.Warmed39 U.vm ∧ U.heap = h0) (fun _ _ _ _ _ => True) (fun _ U o U' => ∃ v L, o = .returned v ∧ Q3 Z a1 p2 q3 w4 w7 w10 w13 w17 h0 n0 v U'.heap L ∧ FrameEnd U o U' L ({ frames := 1, cells := 0, slots := 0, locals := 15 } : Room).cells ({ frames := 1, cells := 0, slots := 0, locals := 15 } : Room).slots) := by
  refine MetFree.of_bodySF (plainFor_of_name pn_3) hisR ?_
  intro p e s m args below meth c s₁ Bd hml0 hP hK
  obtain ⟨rfl, hZ, hh⟩ := hP
  have hx := Bd.exec
  have hby := Bd.bytes
  have hml : c.maxLocals = 4 := hml0
  have hown : s.vm.findClass "com/example/transmute/transmute/MeasuredText" = some m.cls := findClass_of_methodNamed Bd.named
  have hnm := (name_of_methodNamed Bd.named Bd.method).1
  have X0 : Stand p l e ({ frames := 1, cells := 0, slots := 0, locals := 15 } : Room) s m #[(.ref a1), (.int p2), (.long q3)] below meth c s₁ [] 0 0 := Stand.of_body Bd
  have e0 : s₁.heap = h0 := by rw [← hh, Bd.state]; rfl
  have N0 := Fr.nil n0
  have pre0 : ∀ t, Steps p.tables e below (s₁.setTop (mkF m 0 #[.val (.ref a1), .val (.int p2), .val (.long q3), .second] [])) t → Steps p.tables e below (s₁.setTop (entryFrame m #[(.ref a1), (.int p2), (.long q3)] 4)) t := fun t k => castTop (ef_3 m a1 p2 q3) k
  obtain ⟨T5, X5, e5, st5⟩ := getF X0 hx hZ hown (host := "") (Or.inl (hw _ (List.mem_of_getElem? (i := 14) rfl))) Via.refl e0 F_m_nLength_a1 (g := (mkF m 8 #[.val (.ref a1), .val (.int p2), .val (.long q3), .second] [(.ref a1), (.ref a1)])) rfl rfl (hb hby d3_8)
  obtain ⟨T6, h6, X6, e6, W6, st6⟩ := putF X5 hx hZ hown (host := "") (Or.inl (hw _ (List.mem_of_getElem? (i := 14) rfl))) Via.refl e5 F_m_nLength_a1 E_a1 (Or.inl (hw _ (List.mem_of_getElem? (i := 15) rfl))) (hw _ (List.mem_of_getElem? (i := 1) rfl)) (ty := .long) (by decide) rfl rfl (g := (mkF m 13 #[.val (.ref a1), .val (.int p2), .val (.long q3), .second] [(.long (w4 + q3)), (.ref a1)])) rfl rfl (hb hby d3_13)
  have Fw6 := F_m_nLength_a1.same W6
  have K6 : Keep h0 h6 [a1] := (Keep.refl h0 [a1]).wr W6 (Or.inl (List.mem_of_getElem? (i := 0) rfl))
  have N6 := Fr.snoc X6 N0 g_a1
  obtain ⟨T8, X8, e8, st8⟩ := getF X6 hx hZ hown (host := "") (Or.inl (hw _ (List.mem_of_getElem? (i := 16) rfl))) Via.refl e6 (F_m_nQuotes_a1.other W6 (Or.inr (slot_ne (Or.inl (hw _ (List.mem_of_getElem? (i := 17) rfl))) (Or.inl (hw _ (List.mem_of_getElem? (i := 15) rfl))) (by decide) (t := .long) (t' := .long) (by decide) (by decide)))) (g := (mkF m 18 #[.val (.ref a1), .val (.int p2), .val (.long q3), .second] [(.ref a1), (.ref a1)])) rfl rfl (hb hby d3_18)
  obtain ⟨T9, h9, X9, e9, W9, st9⟩ := putF X8 hx hZ hown (host := "") (Or.inl (hw _ (List.mem_of_getElem? (i := 16) rfl))) Via.refl e8 (F_m_nQuotes_a1.other W6 (Or.inr (slot_ne (Or.inl (hw _ (List.mem_of_getElem? (i := 17) rfl))) (Or.inl (hw _ (List.mem_of_getElem? (i := 15) rfl))) (by decide) (t := .long) (t' := .long) (by decide) (by decide)))) (E_a1.wr W6) (Or.inl (hw _ (List.mem_of_getElem? (i := 17) rfl))) (hw _ (List.mem_of_getElem? (i := 1) rfl)) (ty := .long) (by decide) rfl rfl (g := (mkF m 33 #[.val (.ref a1), .val (.int p2), .val (.long q3), .second] [(.long (w7 + q3)), (.ref a1)])) rfl rfl (hb hby d3_33)
  have Fw9 := (F_m_nQuotes_a1.other W6 (Or.inr (slot_ne (Or.inl (hw _ (List.mem_of_getElem? (i := 17) rfl))) (Or.inl (hw _ (List.mem_of_getElem? (i := 15) rfl))) (by decide) (t := .long) (t' := .long) (by decide) (by decide)))).same W9
  have K9 : Keep h0 h9 [a1] := K6.wr W9 (Or.inl (List.mem_of_getElem? (i := 0) rfl))
  have N9 := Fr.snoc X9 N6 g_a1
  obtain ⟨T11, X11, e11, st11⟩ := getF X9 hx hZ hown (host := "") (Or.inl (hw _ (List.mem_of_getElem? (i := 18) rfl))) Via.refl e9 ((F_m_nBackslashes_a1.other W6 (Or.inr (slot_ne (Or.inl (hw _ (List.mem_of_getElem? (i := 19) rfl))) (Or.inl (hw _ (List.mem_of_getElem? (i := 15) rfl))) (by decide) (t := .long) (t' := .long) (by decide) (by decide)))).other W9 (Or.inr (slot_ne (Or.inl (hw _ (List.mem_of_getElem? (i := 19) rfl))) (Or.inl (hw _ (List.mem_of_getElem? (i := 17) rfl))) (by decide) (t := .long) (t' := .long) (by decide) (by decide)))) (g := (mkF m 38 #[.val (.ref a1), .val (.int p2), .val (.long q3), .second] [(.ref a1), (.ref a1)])) rfl rfl (hb hby d3_38)
  obtain ⟨T12, h12, X12, e12, W12, st12⟩ := putF X11 hx hZ hown (host := "") (Or.inl (hw _ (List.mem_of_getElem? (i := 18) rfl))) Via.refl e11 ((F_m_nBackslashes_a1.other W6 (Or.inr (slot_ne (Or.inl (hw _ (List.mem_of_getElem? (i := 19) rfl))) (Or.inl (hw _ (List.mem_of_getElem? (i := 15) rfl))) (by decide) (t := .long) (t' := .long) (by decide) (by decide)))).other W9 (Or.inr (slot_ne (Or.inl (hw _ (List.mem_of_getElem? (i := 19) rfl))) (Or.inl (hw _ (List.mem_of_getElem? (i := 17) rfl))) (by decide) (t := .long) (t' := .long) (by decide) (by decide)))) ((E_a1.wr W6).wr W9) (Or.inl (hw _ (List.mem_of_getElem? (i := 19) rfl))) (hw _ (List.mem_of_getElem? (i := 1) rfl)) (ty := .long) (by decide) rfl rfl (g := (mkF m 53 #[.val (.ref a1), .val (.int p2), .val (.long q3), .second] [(.long (w10 + (0 : Int64))), (.ref a1)])) rfl rfl (hb hby d3_53)
  have Fw12 := ((F_m_nBackslashes_a1.other W6 (Or.inr (slot_ne (Or.inl (hw _ (List.mem_of_getElem? (i := 19) rfl))) (Or.inl (hw _ (List.mem_of_getElem? (i := 15) rfl))) (by decide) (t := .long) (t' := .long) (by decide) (by decide)))).other W9 (Or.inr (slot_ne (Or.inl (hw _ (List.mem_of_getElem? (i := 19) rfl))) (Or.inl (hw _ (List.mem_of_getElem? (i := 17) rfl))) (by decide) (t := .long) (t' := .long) (by decide) (by decide)))).same W12
  have K12 : Keep h0 h12 [a1] := K9.wr W12 (Or.inl (List.mem_of_getElem? (i := 0) rfl))
  have N12 := Fr.snoc X12 N9 g_a1
  obtain ⟨T14, X14, e14, st14⟩ := getF X12 hx hZ hown (host := "") (Or.inl (hw _ (List.mem_of_getElem? (i := 20) rfl))) Via.refl e12 (((F_m_nLowChars_a1.other W6 (Or.inr (slot_ne (Or.inl (hw _ (List.mem_of_getElem? (i := 21) rfl))) (Or.inl (hw _ (List.mem_of_getElem? (i := 15) rfl))) (by decide) (t := .long) (t' := .long) (by decide) (by decide)))).other W9 (Or.inr (slot_ne (Or.inl (hw _ (List.mem_of_getElem? (i := 21) rfl))) (Or.inl (hw _ (List.mem_of_getElem? (i := 17) rfl))) (by decide) (t := .long) (t' := .long) (by decide) (by decide)))).other W12 (Or.inr (slot_ne (Or.inl (hw _ (List.mem_of_getElem? (i := 21) rfl))) (Or.inl (hw _ (List.mem_of_getElem? (i := 19) rfl))) (by decide) (t := .long) (t' := .long) (by decide) (by decide)))) (g := (mkF m 58 #[.val (.ref a1), .val (.int p2), .val (.long q3), .second] [(.ref a1), (.ref a1)])) rfl rfl (hb hby d3_58)
  obtain ⟨_, _, ⟨T15, L15, k15, n15⟩, -, X15, ⟨Lc15, hQ15, l15, y15, z15⟩, st15⟩ := Jvm.LawKit.callS X14 hx (y := (⟨"com/example/transmute/transmute/MeasuredText", "_lowBit", "(C)J"⟩ : MethodName)) hown (mvT hZ (hw _ (List.mem_of_getElem? (i := 22) rfl))) (mvT hZ (hw _ (List.mem_of_getElem? (i := 23) rfl))) (mvT hZ (hw _ (List.mem_of_getElem? (i := 2) rfl))) (mvT hZ (hw _ (List.mem_of_getElem? (i := 24) rfl))) (by decide) (backOf (W := 3) (rm4 l Z a0 hw [] p2 h12 n0 (Nat.le_trans Z0 K12.1)) hZ (hw _ (List.mem_of_getElem? (i := 24) rfl)) (hw _ (List.mem_of_getElem? (i := 2) rfl)) (by decide) (by decide)) (g := (mkF m 62 #[.val (.ref a1), .val (.int p2), .val (.long q3), .second] [(.int p2), (.long w13), (.ref a1)])) rfl (by rw [hml]; rfl) (argsL := [(.int p2)]) (rest := [(.long w13), (.ref a1)]) (lenOf pd_3_2 rfl) rfl (by show 2 * 0 + _ ≤ _; exact Nat.le_of_eq rfl) (hb hby d3_62) (fun _ _ => ⟨rfl, e14, (by decide : 0 + 0 ≤ _), (by decide : 0 + 0 ≤ _)⟩)
  dsimp only [Pt.U, Pt.locs, Pt.cells, Pt.slots] at X15 l15 y15 z15 st15 hQ15
  subst l15 y15 z15
  obtain ⟨rfl, N15q, eh15⟩ := hQ15
  have N15 := Fr.app N12 N15q
  have kc15 : Keep h12 T15.heap [] := by rw [eh15]; exact Keep.refl _ _
  have kh15 : Keep h0 T15.heap [a1] := by rw [eh15]; exact K12
  obtain ⟨T16, h16, X16, e16, W16, st16⟩ := putF X15 hx hZ hown (host := "") (Or.inl (hw _ (List.mem_of_getElem? (i := 20) rfl))) Via.refl rfl ((((F_m_nLowChars_a1.other W6 (Or.inr (slot_ne (Or.inl (hw _ (List.mem_of_getElem? (i := 21) rfl))) (Or.inl (hw _ (List.mem_of_getElem? (i := 15) rfl))) (by decide) (t := .long) (t' := .long) (by decide) (by decide)))).other W9 (Or.inr (slot_ne (Or.inl (hw _ (List.mem_of_getElem? (i := 21) rfl))) (Or.inl (hw _ (List.mem_of_getElem? (i := 17) rfl))) (by decide) (t := .long) (t' := .long) (by decide) (by decide)))).other W12 (Or.inr (slot_ne (Or.inl (hw _ (List.mem_of_getElem? (i := 21) rfl))) (Or.inl (hw _ (List.mem_of_getElem? (i := 19) rfl))) (by decide) (t := .long) (t' := .long) (by decide) (by decide)))).keep kc15 nin0) ((((E_a1.wr W6).wr W9).wr W12).keep kc15) (Or.inl (hw _ (List.mem_of_getElem? (i := 21) rfl))) (hw _ (List.mem_of_getElem? (i := 1) rfl)) (ty := .long) (by decide) rfl rfl (g := (mkF m 66 #[.val (.ref a1), .val (.int p2), .val (.long q3), .second] [(.long (w13 ||| (own_low p2))), (.ref a1)])) rfl rfl (hb hby d3_66)
  have Fw16 := ((((F_m_nLowChars_a1.other W6 (Or.inr (slot_ne (Or.inl (hw _ (List.mem_of_getElem? (i := 21) rfl))) (Or.inl (hw _ (List.mem_of_getElem? (i := 15) rfl))) (by decide) (t := .long) (t' := .long) (by decide) (by decide)))).other W9 (Or.inr (slot_ne (Or.inl (hw _ (List.mem_of_getElem? (i := 21) rfl))) (Or.inl (hw _ (List.mem_of_getElem? (i := 17) rfl))) (by decide) (t := .long) (t' := .long) (by decide) (by decide)))).other W12 (Or.inr (slot_ne (Or.inl (hw _ (List.mem_of_getElem? (i := 21) rfl))) (Or.inl (hw _ (List.mem_of_getElem? (i := 19) rfl))) (by decide) (t := .long) (t' := .long) (by decide) (by decide)))).keep kc15 nin0).same W16
  have K16 : Keep h0 h16 [a1] := kh15.wr W16 (Or.inl (List.mem_of_getElem? (i := 0) rfl))
  have N16 := Fr.snoc X16 N15 g_a1
  obtain ⟨T18, X18, e18, st18⟩ := getF X16 hx hZ hown (host := "") (Or.inl (hw _ (List.mem_of_getElem? (i := 25) rfl))) Via.refl e16 (((((F_m_nHighChars_a1.other W6 (Or.inr (slot_ne (Or.inl (hw _ (List.mem_of_getElem? (i := 26) rfl))) (Or.inl (hw _ (List.mem_of_getElem? (i := 15) rfl))) (by decide) (t := .long) (t' := .long) (by decide) (by decide)))).other W9 (Or.inr (slot_ne (Or.inl (hw _ (List.mem_of_getElem? (i := 26) rfl))) (Or.inl (hw _ (List.mem_of_getElem? (i := 17) rfl))) (by decide) (t := .long) (t' := .long) (by decide) (by decide)))).other W12 (Or.inr (slot_ne (Or.inl (hw _ (List.mem_of_getElem? (i := 26) rfl))) (Or.inl (hw _ (List.mem_of_getElem? (i := 19) rfl))) (by decide) (t := .long) (t' := .long) (by decide) (by decide)))).keep kc15 nin0).other W16 (Or.inr (slot_ne (Or.inl (hw _ (List.mem_of_getElem? (i := 26) rfl))) (Or.inl (hw _ (List.mem_of_getElem? (i := 21) rfl))) (by decide) (t := .long) (t' := .long) (by decide) (by decide)))) (g := (mkF m 71 #[.val (.ref a1), .val (.int p2), .val (.long q3), .second] [(.ref a1), (.ref a1)])) rfl rfl (hb hby d3_71)
  obtain ⟨_, _, ⟨T19, L19, k19, n19⟩, -, X19, ⟨Lc19, hQ19, l19, y19, z19⟩, st19⟩ := Jvm.LawKit.callS X18 hx (y := (⟨"com/example/transmute/transmute/MeasuredText", "_highBit", "(C)J"⟩ : MethodName)) hown (mvT hZ (hw _ (List.mem_of_getElem? (i := 27) rfl))) (mvT hZ (hw _ (List.mem_of_getElem? (i := 28) rfl))) (mvT hZ (hw _ (List.mem_of_getElem? (i := 2) rfl))) (mvT hZ (hw _ (List.mem_of_getElem? (i := 29) rfl))) (by decide) (backOf (W := 3) (rm5 l Z a0 hw [] p2 h16 n0 (Nat.le_trans Z0 K16.1)) hZ (hw _ (List.mem_of_getElem? (i := 29) rfl)) (hw _ (List.mem_of_getElem? (i := 2) rfl)) (by decide) (by decide)) (g := (mkF m 75 #[.val (.ref a1), .val (.int p2), .val (.long q3), .second] [(.int p2), (.long w17), (.ref a1)])) rfl (by rw [hml]; rfl) (argsL := [(.int p2)]) (rest := [(.long w17), (.ref a1)]) (lenOf pd_3_2 rfl) rfl (by show 2 * 0 + _ ≤ _; exact Nat.le_of_eq rfl) (hb hby d3_75) (fun _ _ => ⟨rfl, e18, (by decide : 0 + 0 ≤ _), (by decide : 0 + 0 ≤ _)⟩)
  dsimp only [Pt.U, Pt.locs, Pt.cells, Pt.slots] at X19 l19 y19 z19 st19 hQ19
  subst l19 y19 z19
  obtain ⟨rfl, N19q, eh19⟩ := hQ19
  have N19 := Fr.app N16 N19q
  have kc19 : Keep h16 T19.heap [] := by rw [eh19]; exact Keep.refl _ _
  have kh19 : Keep h0 T19.heap [a1] := by rw [eh19]; exact K16
  obtain ⟨T20, h20, X20, e20, W20, st20⟩ := putF X19 hx hZ hown (host := "") (Or.inl (hw _ (List.mem_of_getElem? (i := 25) rfl))) Via.refl rfl ((((((F_m_nHighChars_a1.other W6 (Or.inr (slot_ne (Or.inl (hw _ (List.mem_of_getElem? (i := 26) rfl))) (Or.inl (hw _ (List.mem_of_getElem? (i := 15) rfl))) (by decide) (t := .long) (t' := .long) (by decide) (by decide)))).other W9 (Or.inr (slot_ne (Or.inl (hw _ (List.mem_of_getElem? (i := 26) rfl))) (Or.inl (hw _ (List.mem_of_getElem? (i := 17) rfl))) (by decide) (t := .long) (t' := .long) (by decide) (by decide)))).other W12 (Or.inr (slot_ne (Or.inl (hw _ (List.mem_of_getElem? (i := 26) rfl))) (Or.inl (hw _ (List.mem_of_getElem? (i := 19) rfl))) (by decide) (t := .long) (t' := .long) (by decide) (by decide)))).keep kc15 nin0).other W16 (Or.inr (slot_ne (Or.inl (hw _ (List.mem_of_getElem? (i := 26) rfl))) (Or.inl (hw _ (List.mem_of_getElem? (i := 21) rfl))) (by decide) (t := .long) (t' := .long) (by decide) (by decide)))).keep kc19 nin0) ((((((E_a1.wr W6).wr W9).wr W12).keep kc15).wr W16).keep kc19) (Or.inl (hw _ (List.mem_of_getElem? (i := 26) rfl))) (hw _ (List.mem_of_getElem? (i := 1) rfl)) (ty := .long) (by decide) rfl rfl (g := (mkF m 79 #[.val (.ref a1), .val (.int p2), .val (.long q3), .second] [(.long (w17 ||| (own_high p2))), (.ref a1)])) rfl rfl (hb hby d3_79)
  have Fw20 := ((((((F_m_nHighChars_a1.other W6 (Or.inr (slot_ne (Or.inl (hw _ (List.mem_of_getElem? (i := 26) rfl))) (Or.inl (hw _ (List.mem_of_getElem? (i := 15) rfl))) (by decide) (t := .long) (t' := .long) (by decide) (by decide)))).other W9 (Or.inr (slot_ne (Or.inl (hw _ (List.mem_of_getElem? (i := 26) rfl))) (Or.inl (hw _ (List.mem_of_getElem? (i := 17) rfl))) (by decide) (t := .long) (t' := .long) (by decide) (by decide)))).other W12 (Or.inr (slot_ne (Or.inl (hw _ (List.mem_of_getElem? (i := 26) rfl))) (Or.inl (hw _ (List.mem_of_getElem? (i := 19) rfl))) (by decide) (t := .long) (t' := .long) (by decide) (by decide)))).keep kc15 nin0).other W16 (Or.inr (slot_ne (Or.inl (hw _ (List.mem_of_getElem? (i := 26) rfl))) (Or.inl (hw _ (List.mem_of_getElem? (i := 21) rfl))) (by decide) (t := .long) (t' := .long) (by decide) (by decide)))).keep kc19 nin0).same W20
  have K20 : Keep h0 h20 [a1] := kh19.wr W20 (Or.inl (List.mem_of_getElem? (i := 0) rfl))
  have N20 := Fr.snoc X20 N19 g_a1
  obtain ⟨fs, hr, hrun, hended, hW, hsame⟩ := X20.leave (v := none) (fun _ => rfl)
  refine ⟨_, _, pre0 _ ?_, hrun, hended, _, _, rfl, ?_, ⟨_, rfl⟩, hW, hsame.mono (by decide) (by decide)⟩
  · show Steps p.tables e below (s₁.setTop (mkF m 0 #[.val (.ref a1), .val (.int p2), .val (.long q3), .second] [])) _
    refine XS.lloadN X0.here hx rfl (hb hby d3_0) rfl ?_
    show Steps p.tables e below (s₁.setTop (mkF m 1 #[.val (.ref a1), .val (.int p2), .val (.long q3), .second] [(.long q3)])) _
    refine XS.lconst X0.here hx rfl (hb hby d3_1) ?_
    show Steps p.tables e below (s₁.setTop (mkF m 2 #[.val (.ref a1), .val (.int p2), .val (.long q3), .second] [(.long (0 : Int64)), (.long q3)])) _
    refine XS.lcmp X0.here hx rfl (hb hby d3_2) rfl ?_
    show Steps p.tables e below (s₁.setTop (mkF m 3 #[.val (.ref a1), .val (.int p2), .val (.long q3), .second] [(.int (lcmpW q3 (0 : Int64)))])) _
    refine XS.ifNo X0.here hx rfl (hb hby d3_3) rfl ((if0 _ _).trans (tlt hc3).2.2.2) ?_
    show Steps p.tables e below (s₁.setTop (mkF m 6 #[.val (.ref a1), .val (.int p2), .val (.long q3), .second] [])) _
    refine XS.aloadN X0.here hx rfl (hb hby d3_6) rfl rfl ?_
    show Steps p.tables e below (s₁.setTop (mkF m 7 #[.val (.ref a1), .val (.int p2), .val (.long q3), .second] [(.ref a1)])) _
    refine XS.dup X0.here hx rfl (hb hby d3_7) rfl rfl ?_
    show Steps p.tables e below (s₁.setTop (mkF m 8 #[.val (.ref a1), .val (.int p2), .val (.long q3), .second] [(.ref a1), (.ref a1)])) _
    refine st5 _ ?_
    show Steps p.tables e below (T5.setTop (mkF m 11 #[.val (.ref a1), .val (.int p2), .val (.long q3), .second] [(.long w4), (.ref a1)])) _
    refine XS.lloadN X5.here hx rfl (hb hby d3_11) rfl ?_
    show Steps p.tables e below (T5.setTop (mkF m 12 #[.val (.ref a1), .val (.int p2), .val (.long q3), .second] [(.long q3), (.long w4), (.ref a1)])) _
    refine XS.ladd X5.here hx rfl (hb hby d3_12) rfl ?_
    show Steps p.tables e below (T5.setTop (mkF m 13 #[.val (.ref a1), .val (.int p2), .val (.long q3), .second] [(.long (w4 + q3)), (.ref a1)])) _
    refine st6 _ ?_
    show Steps p.tables e below (T6.setTop (mkF m 16 #[.val (.ref a1), .val (.int p2), .val (.long q3), .second] [])) _
    refine XS.aloadN X6.here hx rfl (hb hby d3_16) rfl rfl ?_
    show Steps p.tables e below (T6.setTop (mkF m 17 #[.val (.ref a1), .val (.int p2), .val (.long q3), .second] [(.ref a1)])) _
    refine XS.dup X6.here hx rfl (hb hby d3_17) rfl rfl ?_
    show Steps p.tables e below (T6.setTop (mkF m 18 #[.val (.ref a1), .val (.int p2), .val (.long q3), .second] [(.ref a1), (.ref a1)])) _
    refine st8 _ ?_
    show Steps p.tables e below (T8.setTop (mkF m 21 #[.val (.ref a1), .val (.int p2), .val (.long q3), .second] [(.long w7), (.ref a1)])) _
    refine XS.iloadN X8.here hx rfl (hb hby d3_21) rfl ?_
    show Steps p.tables e below (T8.setTop (mkF m 22 #[.val (.ref a1), .val (.int p2), .val (.long q3), .second] [(.int p2), (.long w7), (.ref a1)])) _
    refine XS.bipush X8.here hx rfl (hb hby d3_22) ?_
    show Steps p.tables e below (T8.setTop (mkF m 24 #[.val (.ref a1), .val (.int p2), .val (.long q3), .second] [(.int (34 : Int32)), (.int p2), (.long w7), (.ref a1)])) _
    refine XS.icmpNo X8.here hx rfl (hb hby d3_24) rfl (teq hc24).2 ?_
    show Steps p.tables e below (T8.setTop (mkF m 27 #[.val (.ref a1), .val (.int p2), .val (.long q3), .second] [(.long w7), (.ref a1)])) _
    refine XS.lloadN X8.here hx rfl (hb hby d3_27) rfl ?_
    show Steps p.tables e below (T8.setTop (mkF m 28 #[.val (.ref a1), .val (.int p2), .val (.long q3), .second] [(.long q3), (.long w7), (.ref a1)])) _
    refine XS.goto X8.here hx rfl (pc0 := 28) (pc' := 32) rfl (hb hby d3_28) (by decide) (by decide) ?_
    show Steps p.tables e below (T8.setTop (mkF m 32 #[.val (.ref a1), .val (.int p2), .val (.long q3), .second] [(.long q3), (.long w7), (.ref a1)])) _
    refine XS.ladd X8.here hx rfl (hb hby d3_32) rfl ?_
    show Steps p.tables e below (T8.setTop (mkF m 33 #[.val (.ref a1), .val (.int p2), .val (.long q3), .second] [(.long (w7 + q3)), (.ref a1)])) _
    refine st9 _ ?_
    show Steps p.tables e below (T9.setTop (mkF m 36 #[.val (.ref a1), .val (.int p2), .val (.long q3), .second] [])) _
    refine XS.aloadN X9.here hx rfl (hb hby d3_36) rfl rfl ?_
    show Steps p.tables e below (T9.setTop (mkF m 37 #[.val (.ref a1), .val (.int p2), .val (.long q3), .second] [(.ref a1)])) _
    refine XS.dup X9.here hx rfl (hb hby d3_37) rfl rfl ?_
    show Steps p.tables e below (T9.setTop (mkF m 38 #[.val (.ref a1), .val (.int p2), .val (.long q3), .second] [(.ref a1), (.ref a1)])) _
    refine st11 _ ?_
    show Steps p.tables e below (T11.setTop (mkF m 41 #[.val (.ref a1), .val (.int p2), .val (.long q3), .second] [(.long w10), (.ref a1)])) _
    refine XS.iloadN X11.here hx rfl (hb hby d3_41) rfl ?_
    show Steps p.tables e below (T11.setTop (mkF m 42 #[.val (.ref a1), .val (.int p2), .val (.long q3), .second] [(.int p2), (.long w10), (.ref a1)])) _
    refine XS.bipush X11.here hx rfl (hb hby d3_42) ?_
    show Steps p.tables e below (T11.setTop (mkF m 44 #[.val (.ref a1), .val (.int p2), .val (.long q3), .second] [(.int (92 : Int32)), (.int p2), (.long w10), (.ref a1)])) _
    refine XS.icmpYes X11.here hx rfl (pc0 := 44) (pc' := 51) rfl (hb hby d3_44) rfl (feq hc44).2 (by decide) (by decide) ?_
    show Steps p.tables e below (T11.setTop (mkF m 51 #[.val (.ref a1), .val (.int p2), .val (.long q3), .second] [(.long w10), (.ref a1)])) _
    refine XS.lconst X11.here hx rfl (hb hby d3_51) ?_
    show Steps p.tables e below (T11.setTop (mkF m 52 #[.val (.ref a1), .val (.int p2), .val (.long q3), .second] [(.long (0 : Int64)), (.long w10), (.ref a1)])) _
    refine XS.ladd X11.here hx rfl (hb hby d3_52) rfl ?_
    show Steps p.tables e below (T11.setTop (mkF m 53 #[.val (.ref a1), .val (.int p2), .val (.long q3), .second] [(.long (w10 + (0 : Int64))), (.ref a1)])) _
    refine st12 _ ?_
    show Steps p.tables e below (T12.setTop (mkF m 56 #[.val (.ref a1), .val (.int p2), .val (.long q3), .second] [])) _
    refine XS.aloadN X12.here hx rfl (hb hby d3_56) rfl rfl ?_
    show Steps p.tables e below (T12.setTop (mkF m 57 #[.val (.ref a1), .val (.int p2), .val (.long q3), .second] [(.ref a1)])) _
    refine XS.dup X12.here hx rfl (hb hby d3_57) rfl rfl ?_
    show Steps p.tables e below (T12.setTop (mkF m 58 #[.val (.ref a1), .val (.int p2), .val (.long q3), .second] [(.ref a1), (.ref a1)])) _
    refine st14 _ ?_
    show Steps p.tables e below (T14.setTop (mkF m 61 #[.val (.ref a1), .val (.int p2), .val (.long q3), .second] [(.long w13), (.ref a1)])) _
    refine XS.iloadN X14.here hx rfl (hb hby d3_61) rfl ?_
    show Steps p.tables e below (T14.setTop (mkF m 62 #[.val (.ref a1), .val (.int p2), .val (.long q3), .second] [(.int p2), (.long w13), (.ref a1)])) _
    refine st15 _ ?_
    show Steps p.tables e below (T15.setTop (mkF m 65 #[.val (.ref a1), .val (.int p2), .val (.long q3), .second] [(.long (own_low p2)), (.long w13), (.ref a1)])) _
    refine XS.lor X15.here hx rfl (hb hby d3_65) rfl ?_
    show Steps p.tables e below (T15.setTop (mkF m 66 #[.val (.ref a1), .val (.int p2), .val (.long q3), .second] [(.long (w13 ||| (own_low p2))), (.ref a1)])) _
    refine st16 _ ?_
    show Steps p.tables e below (T16.setTop (mkF m 69 #[.val (.ref a1), .val (.int p2), .val (.long q3), .second] [])) _
    refine XS.aloadN X16.here hx rfl (hb hby d3_69) rfl rfl ?_
    show Steps p.tables e below (T16.setTop (mkF m 70 #[.val (.ref a1), .val (.int p2), .val (.long q3), .second] [(.ref a1)])) _
    refine XS.dup X16.here hx rfl (hb hby d3_70) rfl rfl ?_
    show Steps p.tables e below (T16.setTop (mkF m 71 #[.val (.ref a1), .val (.int p2), .val (.long q3), .second] [(.ref a1), (.ref a1)])) _
    refine st18 _ ?_
    show Steps p.tables e below (T18.setTop (mkF m 74 #[.val (.ref a1), .val (.int p2), .val (.long q3), .second] [(.long w17), (.ref a1)])) _
    refine XS.iloadN X18.here hx rfl (hb hby d3_74) rfl ?_
    show Steps p.tables e below (T18.setTop (mkF m 75 #[.val (.ref a1), .val (.int p2), .val (.long q3), .second] [(.int p2), (.long w17), (.ref a1)])) _
    refine st19 _ ?_
    show Steps p.tables e below (T19.setTop (mkF m 78 #[.val (.ref a1), .val (.int p2), .val (.long q3), .second] [(.long (own_high p2)), (.long w17), (.ref a1)])) _
    refine XS.lor X19.here hx rfl (hb hby d3_78) rfl ?_
    show Steps p.tables e below (T19.setTop (mkF m 79 #[.val (.ref a1), .val (.int p2), .val (.long q3), .second] [(.long (w17 ||| (own_high p2))), (.ref a1)])) _
    refine st20 _ ?_
    show Steps p.tables e below (T20.setTop (mkF m 82 #[.val (.ref a1), .val (.int p2), .val (.long q3), .second] [])) _
    exact X20.returnOut hx Bd.returns (hb hby d3_82) hr
  · show Q3 Z a1 p2 q3 w4 w7 w10 w13 w17 h0 n0 _ T20.heap _
    rw [e20]
    have r1 : own_pos q3 = q3 := if_pos hc3
    have r2 : own_eq p2 34 q3 = q3 := if_pos hc24
    have r3 : own_eq p2 92 q3 = 0 := if_neg hc44
    have r4 : ∀ b, own_bit q3 b = b := fun b => if_pos hc3
    exact ⟨rfl, N20, K20, by rw [r1, r2, r3, r4, r4]; exact ⟨(((((((E_a1.wr W6).wr W9).wr W12).keep kc15).wr W16).keep kc19).wr W20), ((((((Fw6.other W9 (Or.inr (slot_ne (Or.inl (hw _ (List.mem_of_getElem? (i := 15) rfl))) (Or.inl (hw _ (List.mem_of_getElem? (i := 17) rfl))) (by decide) (t := .long) (t' := .long) (by decide) (by decide)))).other W12 (Or.inr (slot_ne (Or.inl (hw _ (List.mem_of_getElem? (i := 15) rfl))) (Or.inl (hw _ (List.mem_of_getElem? (i := 19) rfl))) (by decide) (t := .long) (t' := .long) (by decide) (by decide)))).keep kc15 nin0).other W16 (Or.inr (slot_ne (Or.inl (hw _ (List.mem_of_getElem? (i := 15) rfl))) (Or.inl (hw _ (List.mem_of_getElem? (i := 21) rfl))) (by decide) (t := .long) (t' := .long) (by decide) (by decide)))).keep kc19 nin0).other W20 (Or.inr (slot_ne (Or.inl (hw _ (List.mem_of_getElem? (i := 15) rfl))) (Or.inl (hw _ (List.mem_of_getElem? (i := 26) rfl))) (by decide) (t := .long) (t' := .long) (by decide) (by decide)))), (((((Fw9.other W12 (Or.inr (slot_ne (Or.inl (hw _ (List.mem_of_getElem? (i := 17) rfl))) (Or.inl (hw _ (List.mem_of_getElem? (i := 19) rfl))) (by decide) (t := .long) (t' := .long) (by decide) (by decide)))).keep kc15 nin0).other W16 (Or.inr (slot_ne (Or.inl (hw _ (List.mem_of_getElem? (i := 17) rfl))) (Or.inl (hw _ (List.mem_of_getElem? (i := 21) rfl))) (by decide) (t := .long) (t' := .long) (by decide) (by decide)))).keep kc19 nin0).other W20 (Or.inr (slot_ne (Or.inl (hw _ (List.mem_of_getElem? (i := 17) rfl))) (Or.inl (hw _ (List.mem_of_getElem? (i := 26) rfl))) (by decide) (t := .long) (t' := .long) (by decide) (by decide)))), ((((Fw12.keep kc15 nin0).other W16 (Or.inr (slot_ne (Or.inl (hw _ (List.mem_of_getElem? (i := 19) rfl))) (Or.inl (hw _ (List.mem_of_getElem? (i := 21) rfl))) (by decide) (t := .long) (t' := .long) (by decide) (by decide)))).keep kc19 nin0).other W20 (Or.inr (slot_ne (Or.inl (hw _ (List.mem_of_getElem? (i := 19) rfl))) (Or.inl (hw _ (List.mem_of_getElem? (i := 26) rfl))) (by decide) (t := .long) (t' := .long) (by decide) (by decide)))), ((Fw16.keep kc19 nin0).other W20 (Or.inr (slot_ne (Or.inl (hw _ (List.mem_of_getElem? (i := 21) rfl))) (Or.inl (hw _ (List.mem_of_getElem? (i := 26) rfl))) (by decide) (t := .long) (t' := .long) (by decide) (by decide)))), Fw20⟩⟩
set_option maxRecDepth 65536 in
set_option maxHeartbeats 40000000 in
theorem rm3_ftf (l : Launch) (Z : State) (a0 : Array Value) (hw : ∀ d ∈ tables_1, d.before a0 Z = true) (ws : List Jvm.Cond) (a1 : Addr) (p2 : Int32) (q3 : Int64) (w4 : Int64) (w7 : Int64) (w10 : Int64) (w13 : Int64) (w17 : Int64) (h0 : Heap) (n0 : Nat) (Z0 : n0 ≤ h0.size) (F_m_nLength_a1 : Fld Z h0 a1 "com/example/transmute/transmute/MeasuredText" "m_nLength" "J" (.long w4)) (E_a1 : Exa Z h0 a1 "com/example/transmute/transmute/MeasuredText") (g_a1 : n0 ≤ a1) (F_m_nQuotes_a1 : Fld Z h0 a1 "com/example/transmute/transmute/MeasuredText" "m_nQuotes" "J" (.long w7)) (F_m_nBackslashes_a1 : Fld Z h0 a1 "com/example/transmute/transmute/MeasuredText" "m_nBackslashes" "J" (.long w10)) (F_m_nLowChars_a1 : Fld Z h0 a1 "com/example/transmute/transmute/MeasuredText" "m_nLowChars" "J" (.long w13)) (F_m_nHighChars_a1 : Fld Z h0 a1 "com/example/transmute/transmute/MeasuredText" "m_nHighChars" "J" (.long w17)) (hc3 : (0 : Int32) < (lcmpW q3 (0 : Int64))) (hc24 : ¬ (p2 = (34 : Int32))) (hc44 : p2 = (92 : Int32)) :
    MetFree l (⟨"com/example/transmute/transmute/MeasuredText", "addRepeated", "(CJ)V"⟩ : MethodName) (head1 (Jvm.Cond.code (⟨"com/example/transmute/transmute/MeasuredText", "addRepeated", "(CJ)V"⟩ : MethodName) prog_86_method_7_code 4 none :: ws) ({ frames := 1, cells := 0, slots := 0, locals := 15 } : Room)) (fun a U => a = #[(.ref a1), (.int p2), (.long q3)] ∧ Z.Warmed39 U.vm ∧ U.heap = h0) (fun _ _ _ _ _ => True) (fun _ U o U' => ∃ v L, o = .returned v ∧ Q3 Z a1 p2 q3 w4 w7 w10 w13 w17 h0 n0 v U'.heap L ∧ FrameEnd U o U' L ({ frames := 1, cells := 0, slots := 0, locals := 15 } : Room).cells ({ frames := 1, cells := 0, slots := 0, locals := 15 } : Room).slots) := by
  refine MetFree.of_bodySF (plainFor_of_name pn_3) hisR ?_
  intro p e s m args below meth c s₁ Bd hml0 hP hK
  obtain ⟨rfl, hZ, hh⟩ := hP
  have hx := Bd.exec
  have hby := Bd.bytes
  have hml : c.maxLocals = 4 := hml0
  have hown : s.vm.findClass "com/example/transmute/transmute/MeasuredText" = some m.cls := findClass_of_methodNamed Bd.named
  have hnm := (name_of_methodNamed Bd.named Bd.method).1
  have X0 : Stand p l e ({ frames := 1, cells := 0, slots := 0, locals := 15 } : Room) s m #[(.ref a1), (.int p2), (.long q3)] below meth c s₁ [] 0 0 := Stand.of_body Bd
  have e0 : s₁.heap = h0 := by rw [← hh, Bd.state]; rfl
  have N0 := Fr.nil n0
  have pre0 : ∀ t, Steps p.tables e below (s₁.setTop (mkF m 0 #[.val (.ref a1), .val (.int p2), .val (.long q3), .second] [])) t → Steps p.tables e below (s₁.setTop (entryFrame m #[(.ref a1), (.int p2), (.long q3)] 4)) t := fun t k => castTop (ef_3 m a1 p2 q3) k
  obtain ⟨T5, X5, e5, st5⟩ := getF X0 hx hZ hown (host := "") (Or.inl (hw _ (List.mem_of_getElem? (i := 14) rfl))) Via.refl e0 F_m_nLength_a1 (g := (mkF m 8 #[.val (.ref a1), .val (.int p2), .val (.long q3), .second] [(.ref a1), (.ref a1)])) rfl rfl (hb hby d3_8)
  obtain ⟨T6, h6, X6, e6, W6, st6⟩ := putF X5 hx hZ hown (host := "") (Or.inl (hw _ (List.mem_of_getElem? (i := 14) rfl))) Via.refl e5 F_m_nLength_a1 E_a1 (Or.inl (hw _ (List.mem_of_getElem? (i := 15) rfl))) (hw _ (List.mem_of_getElem? (i := 1) rfl)) (ty := .long) (by decide) rfl rfl (g := (mkF m 13 #[.val (.ref a1), .val (.int p2), .val (.long q3), .second] [(.long (w4 + q3)), (.ref a1)])) rfl rfl (hb hby d3_13)
  have Fw6 := F_m_nLength_a1.same W6
  have K6 : Keep h0 h6 [a1] := (Keep.refl h0 [a1]).wr W6 (Or.inl (List.mem_of_getElem? (i := 0) rfl))
  have N6 := Fr.snoc X6 N0 g_a1
  obtain ⟨T8, X8, e8, st8⟩ := getF X6 hx hZ hown (host := "") (Or.inl (hw _ (List.mem_of_getElem? (i := 16) rfl))) Via.refl e6 (F_m_nQuotes_a1.other W6 (Or.inr (slot_ne (Or.inl (hw _ (List.mem_of_getElem? (i := 17) rfl))) (Or.inl (hw _ (List.mem_of_getElem? (i := 15) rfl))) (by decide) (t := .long) (t' := .long) (by decide) (by decide)))) (g := (mkF m 18 #[.val (.ref a1), .val (.int p2), .val (.long q3), .second] [(.ref a1), (.ref a1)])) rfl rfl (hb hby d3_18)
  obtain ⟨T9, h9, X9, e9, W9, st9⟩ := putF X8 hx hZ hown (host := "") (Or.inl (hw _ (List.mem_of_getElem? (i := 16) rfl))) Via.refl e8 (F_m_nQuotes_a1.other W6 (Or.inr (slot_ne (Or.inl (hw _ (List.mem_of_getElem? (i := 17) rfl))) (Or.inl (hw _ (List.mem_of_getElem? (i := 15) rfl))) (by decide) (t := .long) (t' := .long) (by decide) (by decide)))) (E_a1.wr W6) (Or.inl (hw _ (List.mem_of_getElem? (i := 17) rfl))) (hw _ (List.mem_of_getElem? (i := 1) rfl)) (ty := .long) (by decide) rfl rfl (g := (mkF m 33 #[.val (.ref a1), .val (.int p2), .val (.long q3), .second] [(.long (w7 + (0 : Int64))), (.ref a1)])) rfl rfl (hb hby d3_33)
  have Fw9 := (F_m_nQuotes_a1.other W6 (Or.inr (slot_ne (Or.inl (hw _ (List.mem_of_getElem? (i := 17) rfl))) (Or.inl (hw _ (List.mem_of_getElem? (i := 15) rfl))) (by decide) (t := .long) (t' := .long) (by decide) (by decide)))).same W9
  have K9 : Keep h0 h9 [a1] := K6.wr W9 (Or.inl (List.mem_of_getElem? (i := 0) rfl))
  have N9 := Fr.snoc X9 N6 g_a1
  obtain ⟨T11, X11, e11, st11⟩ := getF X9 hx hZ hown (host := "") (Or.inl (hw _ (List.mem_of_getElem? (i := 18) rfl))) Via.refl e9 ((F_m_nBackslashes_a1.other W6 (Or.inr (slot_ne (Or.inl (hw _ (List.mem_of_getElem? (i := 19) rfl))) (Or.inl (hw _ (List.mem_of_getElem? (i := 15) rfl))) (by decide) (t := .long) (t' := .long) (by decide) (by decide)))).other W9 (Or.inr (slot_ne (Or.inl (hw _ (List.mem_of_getElem? (i := 19) rfl))) (Or.inl (hw _ (List.mem_of_getElem? (i := 17) rfl))) (by decide) (t := .long) (t' := .long) (by decide) (by decide)))) (g := (mkF m 38 #[.val (.ref a1), .val (.int p2), .val (.long q3), .second] [(.ref a1), (.ref a1)])) rfl rfl (hb hby d3_38)
  obtain ⟨T12, h12, X12, e12, W12, st12⟩ := putF X11 hx hZ hown (host := "") (Or.inl (hw _ (List.mem_of_getElem? (i := 18) rfl))) Via.refl e11 ((F_m_nBackslashes_a1.other W6 (Or.inr (slot_ne (Or.inl (hw _ (List.mem_of_getElem? (i := 19) rfl))) (Or.inl (hw _ (List.mem_of_getElem? (i := 15) rfl))) (by decide) (t := .long) (t' := .long) (by decide) (by decide)))).other W9 (Or.inr (slot_ne (Or.inl (hw _ (List.mem_of_getElem? (i := 19) rfl))) (Or.inl (hw _ (List.mem_of_getElem? (i := 17) rfl))) (by decide) (t := .long) (t' := .long) (by decide) (by decide)))) ((E_a1.wr W6).wr W9) (Or.inl (hw _ (List.mem_of_getElem? (i := 19) rfl))) (hw _ (List.mem_of_getElem? (i := 1) rfl)) (ty := .long) (by decide) rfl rfl (g := (mkF m 53 #[.val (.ref a1), .val (.int p2), .val (.long q3), .second] [(.long (w10 + q3)), (.ref a1)])) rfl rfl (hb hby d3_53)
  have Fw12 := ((F_m_nBackslashes_a1.other W6 (Or.inr (slot_ne (Or.inl (hw _ (List.mem_of_getElem? (i := 19) rfl))) (Or.inl (hw _ (List.mem_of_getElem? (i := 15) rfl))) (by decide) (t := .long) (t' := .long) (by decide) (by decide)))).other W9 (Or.inr (slot_ne (Or.inl (hw _ (List.mem_of_getElem? (i := 19) rfl))) (Or.inl (hw _ (List.mem_of_getElem? (i := 17) rfl))) (by decide) (t := .long) (t' := .long) (by decide) (by decide)))).same W12
  have K12 : Keep h0 h12 [a1] := K9.wr W12 (Or.inl (List.mem_of_getElem? (i := 0) rfl))
  have N12 := Fr.snoc X12 N9 g_a1
  obtain ⟨T14, X14, e14, st14⟩ := getF X12 hx hZ hown (host := "") (Or.inl (hw _ (List.mem_of_getElem? (i := 20) rfl))) Via.refl e12 (((F_m_nLowChars_a1.other W6 (Or.inr (slot_ne (Or.inl (hw _ (List.mem_of_getElem? (i := 21) rfl))) (Or.inl (hw _ (List.mem_of_getElem? (i := 15) rfl))) (by decide) (t := .long) (t' := .long) (by decide) (by decide)))).other W9 (Or.inr (slot_ne (Or.inl (hw _ (List.mem_of_getElem? (i := 21) rfl))) (Or.inl (hw _ (List.mem_of_getElem? (i := 17) rfl))) (by decide) (t := .long) (t' := .long) (by decide) (by decide)))).other W12 (Or.inr (slot_ne (Or.inl (hw _ (List.mem_of_getElem? (i := 21) rfl))) (Or.inl (hw _ (List.mem_of_getElem? (i := 19) rfl))) (by decide) (t := .long) (t' := .long) (by decide) (by decide)))) (g := (mkF m 58 #[.val (.ref a1), .val (.int p2), .val (.long q3), .second] [(.ref a1), (.ref a1)])) rfl rfl (hb hby d3_58)
  obtain ⟨_, _, ⟨T15, L15, k15, n15⟩, -, X15, ⟨Lc15, hQ15, l15, y15, z15⟩, st15⟩ := Jvm.LawKit.callS X14 hx (y := (⟨"com/example/transmute/transmute/MeasuredText", "_lowBit", "(C)J"⟩ : MethodName)) hown (mvT hZ (hw _ (List.mem_of_getElem? (i := 22) rfl))) (mvT hZ (hw _ (List.mem_of_getElem? (i := 23) rfl))) (mvT hZ (hw _ (List.mem_of_getElem? (i := 2) rfl))) (mvT hZ (hw _ (List.mem_of_getElem? (i := 24) rfl))) (by decide) (backOf (W := 3) (rm4 l Z a0 hw [] p2 h12 n0 (Nat.le_trans Z0 K12.1)) hZ (hw _ (List.mem_of_getElem? (i := 24) rfl)) (hw _ (List.mem_of_getElem? (i := 2) rfl)) (by decide) (by decide)) (g := (mkF m 62 #[.val (.ref a1), .val (.int p2), .val (.long q3), .second] [(.int p2), (.long w13), (.ref a1)])) rfl (by rw [hml]; rfl) (argsL := [(.int p2)]) (rest := [(.long w13), (.ref a1)]) (lenOf pd_3_2 rfl) rfl (by show 2 * 0 + _ ≤ _; exact Nat.le_of_eq rfl) (hb hby d3_62) (fun _ _ => ⟨rfl, e14, (by decide : 0 + 0 ≤ _), (by decide : 0 + 0 ≤ _)⟩)
  dsimp only [Pt.U, Pt.locs, Pt.cells, Pt.slots] at X15 l15 y15 z15 st15 hQ15
  subst l15 y15 z15
  obtain ⟨rfl, N15q, eh15⟩ := hQ15
  have N15 := Fr.app N12 N15q
  have kc15 : Keep h12 T15.heap [] := by rw [eh15]; exact Keep.refl _ _
  have kh15 : Keep h0 T15.heap [a1] := by rw [eh15]; exact K12
  obtain ⟨T16, h16, X16, e16, W16, st16⟩ := putF X15 hx hZ hown (host := "") (Or.inl (hw _ (List.mem_of_getElem? (i := 20) rfl))) Via.refl rfl ((((F_m_nLowChars_a1.other W6 (Or.inr (slot_ne (Or.inl (hw _ (List.mem_of_getElem? (i := 21) rfl))) (Or.inl (hw _ (List.mem_of_getElem? (i := 15) rfl))) (by decide) (t := .long) (t' := .long) (by decide) (by decide)))).other W9 (Or.inr (slot_ne (Or.inl (hw _ (List.mem_of_getElem? (i := 21) rfl))) (Or.inl (hw _ (List.mem_of_getElem? (i := 17) rfl))) (by decide) (t := .long) (t' := .long) (by decide) (by decide)))).other W12 (Or.inr (slot_ne (Or.inl (hw _ (List.mem_of_getElem? (i := 21) rfl))) (Or.inl (hw _ (List.mem_of_getElem? (i := 19) rfl))) (by decide) (t := .long) (t' := .long) (by decide) (by decide)))).keep kc15 nin0) ((((E_a1.wr W6).wr W9).wr W12).keep kc15) (Or.inl (hw _ (List.mem_of_getElem? (i := 21) rfl))) (hw _ (List.mem_of_getElem? (i := 1) rfl)) (ty := .long) (by decide) rfl rfl (g := (mkF m 66 #[.val (.ref a1), .val (.int p2), .val (.long q3), .second] [(.long (w13 ||| (own_low p2))), (.ref a1)])) rfl rfl (hb hby d3_66)
  have Fw16 := ((((F_m_nLowChars_a1.other W6 (Or.inr (slot_ne (Or.inl (hw _ (List.mem_of_getElem? (i := 21) rfl))) (Or.inl (hw _ (List.mem_of_getElem? (i := 15) rfl))) (by decide) (t := .long) (t' := .long) (by decide) (by decide)))).other W9 (Or.inr (slot_ne (Or.inl (hw _ (List.mem_of_getElem? (i := 21) rfl))) (Or.inl (hw _ (List.mem_of_getElem? (i := 17) rfl))) (by decide) (t := .long) (t' := .long) (by decide) (by decide)))).other W12 (Or.inr (slot_ne (Or.inl (hw _ (List.mem_of_getElem? (i := 21) rfl))) (Or.inl (hw _ (List.mem_of_getElem? (i := 19) rfl))) (by decide) (t := .long) (t' := .long) (by decide) (by decide)))).keep kc15 nin0).same W16
  have K16 : Keep h0 h16 [a1] := kh15.wr W16 (Or.inl (List.mem_of_getElem? (i := 0) rfl))
  have N16 := Fr.snoc X16 N15 g_a1
  obtain ⟨T18, X18, e18, st18⟩ := getF X16 hx hZ hown (host := "") (Or.inl (hw _ (List.mem_of_getElem? (i := 25) rfl))) Via.refl e16 (((((F_m_nHighChars_a1.other W6 (Or.inr (slot_ne (Or.inl (hw _ (List.mem_of_getElem? (i := 26) rfl))) (Or.inl (hw _ (List.mem_of_getElem? (i := 15) rfl))) (by decide) (t := .long) (t' := .long) (by decide) (by decide)))).other W9 (Or.inr (slot_ne (Or.inl (hw _ (List.mem_of_getElem? (i := 26) rfl))) (Or.inl (hw _ (List.mem_of_getElem? (i := 17) rfl))) (by decide) (t := .long) (t' := .long) (by decide) (by decide)))).other W12 (Or.inr (slot_ne (Or.inl (hw _ (List.mem_of_getElem? (i := 26) rfl))) (Or.inl (hw _ (List.mem_of_getElem? (i := 19) rfl))) (by decide) (t := .long) (t' := .long) (by decide) (by decide)))).keep kc15 nin0).other W16 (Or.inr (slot_ne (Or.inl (hw _ (List.mem_of_getElem? (i := 26) rfl))) (Or.inl (hw _ (List.mem_of_getElem? (i := 21) rfl))) (by decide) (t := .long) (t' := .long) (by decide) (by decide)))) (g := (mkF m 71 #[.val (.ref a1), .val (.int p2), .val (.long q3), .second] [(.ref a1), (.ref a1)])) rfl rfl (hb hby d3_71)
  obtain ⟨_, _, ⟨T19, L19, k19, n19⟩, -, X19, ⟨Lc19, hQ19, l19, y19, z19⟩, st19⟩ := Jvm.LawKit.callS X18 hx (y := (⟨"com/example/transmute/transmute/MeasuredText", "_highBit", "(C)J"⟩ : MethodName)) hown (mvT hZ (hw _ (List.mem_of_getElem? (i := 27) rfl))) (mvT hZ (hw _ (List.mem_of_getElem? (i := 28) rfl))) (mvT hZ (hw _ (List.mem_of_getElem? (i := 2) rfl))) (mvT hZ (hw _ (List.mem_of_getElem? (i := 29) rfl))) (by decide) (backOf (W := 3) (rm5 l Z a0 hw [] p2 h16 n0 (Nat.le_trans Z0 K16.1)) hZ (hw _ (List.mem_of_getElem? (i := 29) rfl)) (hw _ (List.mem_of_getElem? (i := 2) rfl)) (by decide) (by decide)) (g := (mkF m 75 #[.val (.ref a1), .val (.int p2), .val (.long q3), .second] [(.int p2), (.long w17), (.ref a1)])) rfl (by rw [hml]; rfl) (argsL := [(.int p2)]) (rest := [(.long w17), (.ref a1)]) (lenOf pd_3_2 rfl) rfl (by show 2 * 0 + _ ≤ _; exact Nat.le_of_eq rfl) (hb hby d3_75) (fun _ _ => ⟨rfl, e18, (by decide : 0 + 0 ≤ _), (by decide : 0 + 0 ≤ _)⟩)
  dsimp only [Pt.U, Pt.locs, Pt.cells, Pt.slots] at X19 l19 y19 z19 st19 hQ19
  subst l19 y19 z19
  obtain ⟨rfl, N19q, eh19⟩ := hQ19
  have N19 := Fr.app N16 N19q
  have kc19 : Keep h16 T19.heap [] := by rw [eh19]; exact Keep.refl _ _
  have kh19 : Keep h0 T19.heap [a1] := by rw [eh19]; exact K16
  obtain ⟨T20, h20, X20, e20, W20, st20⟩ := putF X19 hx hZ hown (host := "") (Or.inl (hw _ (List.mem_of_getElem? (i := 25) rfl))) Via.refl rfl ((((((F_m_nHighChars_a1.other W6 (Or.inr (slot_ne (Or.inl (hw _ (List.mem_of_getElem? (i := 26) rfl))) (Or.inl (hw _ (List.mem_of_getElem? (i := 15) rfl))) (by decide) (t := .long) (t' := .long) (by decide) (by decide)))).other W9 (Or.inr (slot_ne (Or.inl (hw _ (List.mem_of_getElem? (i := 26) rfl))) (Or.inl (hw _ (List.mem_of_getElem? (i := 17) rfl))) (by decide) (t := .long) (t' := .long) (by decide) (by decide)))).other W12 (Or.inr (slot_ne (Or.inl (hw _ (List.mem_of_getElem? (i := 26) rfl))) (Or.inl (hw _ (List.mem_of_getElem? (i := 19) rfl))) (by decide) (t := .long) (t' := .long) (by decide) (by decide)))).keep kc15 nin0).other W16 (Or.inr (slot_ne (Or.inl (hw _ (List.mem_of_getElem? (i := 26) rfl))) (Or.inl (hw _ (List.mem_of_getElem? (i := 21) rfl))) (by decide) (t := .long) (t' := .long) (by decide) (by decide)))).keep kc19 nin0) ((((((E_a1.wr W6).wr W9).wr W12).keep kc15).wr W16).keep kc19) (Or.inl (hw _ (List.mem_of_getElem? (i := 26) rfl))) (hw _ (List.mem_of_getElem? (i := 1) rfl)) (ty := .long) (by decide) rfl rfl (g := (mkF m 79 #[.val (.ref a1), .val (.int p2), .val (.long q3), .second] [(.long (w17 ||| (own_high p2))), (.ref a1)])) rfl rfl (hb hby d3_79)
  have Fw20 := ((((((F_m_nHighChars_a1.other W6 (Or.inr (slot_ne (Or.inl (hw _ (List.mem_of_getElem? (i := 26) rfl))) (Or.inl (hw _ (List.mem_of_getElem? (i := 15) rfl))) (by decide) (t := .long) (t' := .long) (by decide) (by decide)))).other W9 (Or.inr (slot_ne (Or.inl (hw _ (List.mem_of_getElem? (i := 26) rfl))) (Or.inl (hw _ (List.mem_of_getElem? (i := 17) rfl))) (by decide) (t := .long) (t' := .long) (by decide) (by decide)))).other W12 (Or.inr (slot_ne (Or.inl (hw _ (List.mem_of_getElem? (i := 26) rfl))) (Or.inl (hw _ (List.mem_of_getElem? (i := 19) rfl))) (by decide) (t := .long) (t' := .long) (by decide) (by decide)))).keep kc15 nin0).other W16 (Or.inr (slot_ne (Or.inl (hw _ (List.mem_of_getElem? (i := 26) rfl))) (Or.inl (hw _ (List.mem_of_getElem? (i := 21) rfl))) (by decide) (t := .long) (t' := .long) (by decide) (by decide)))).keep kc19 nin0).same W20
  have K20 : Keep h0 h20 [a1] := kh19.wr W20 (Or.inl (List.mem_of_getElem? (i := 0) rfl))
  have N20 := Fr.snoc X20 N19 g_a1
  obtain ⟨fs, hr, hrun, hended, hW, hsame⟩ := X20.leave (v := none) (fun _ => rfl)
  refine ⟨_, _, pre0 _ ?_, hrun, hended, _, _, rfl, ?_, ⟨_, rfl⟩, hW, hsame.mono (by decide) (by decide)⟩
  · show Steps p.tables e below (s₁.setTop (mkF m 0 #[.val (.ref a1), .val (.int p2), .val (.long q3), .second] [])) _
    refine XS.lloadN X0.here hx rfl (hb hby d3_0) rfl ?_
    show Steps p.tables e below (s₁.setTop (mkF m 1 #[.val (.ref a1), .val (.int p2), .val (.long q3), .second] [(.long q3)])) _
    refine XS.lconst X0.here hx rfl (hb hby d3_1) ?_
    show Steps p.tables e below (s₁.setTop (mkF m 2 #[.val (.ref a1), .val (.int p2), .val (.long q3), .second] [(.long (0 : Int64)), (.long q3)])) _
    refine XS.lcmp X0.here hx rfl (hb hby d3_2) rfl ?_
    show Steps p.tables e below (s₁.setTop (mkF m 3 #[.val (.ref a1), .val (.int p2), .val (.long q3), .second] [(.int (lcmpW q3 (0 : Int64)))])) _
    refine XS.ifNo X0.here hx rfl (hb hby d3_3) rfl ((if0 _ _).trans (tlt hc3).2.2.2) ?_
    show Steps p.tables e below (s₁.setTop (mkF m 6 #[.val (.ref a1), .val (.int p2), .val (.long q3), .second] [])) _
    refine XS.aloadN X0.here hx rfl (hb hby d3_6) rfl rfl ?_
    show Steps p.tables e below (s₁.setTop (mkF m 7 #[.val (.ref a1), .val (.int p2), .val (.long q3), .second] [(.ref a1)])) _
    refine XS.dup X0.here hx rfl (hb hby d3_7) rfl rfl ?_
    show Steps p.tables e below (s₁.setTop (mkF m 8 #[.val (.ref a1), .val (.int p2), .val (.long q3), .second] [(.ref a1), (.ref a1)])) _
    refine st5 _ ?_
    show Steps p.tables e below (T5.setTop (mkF m 11 #[.val (.ref a1), .val (.int p2), .val (.long q3), .second] [(.long w4), (.ref a1)])) _
    refine XS.lloadN X5.here hx rfl (hb hby d3_11) rfl ?_
    show Steps p.tables e below (T5.setTop (mkF m 12 #[.val (.ref a1), .val (.int p2), .val (.long q3), .second] [(.long q3), (.long w4), (.ref a1)])) _
    refine XS.ladd X5.here hx rfl (hb hby d3_12) rfl ?_
    show Steps p.tables e below (T5.setTop (mkF m 13 #[.val (.ref a1), .val (.int p2), .val (.long q3), .second] [(.long (w4 + q3)), (.ref a1)])) _
    refine st6 _ ?_
    show Steps p.tables e below (T6.setTop (mkF m 16 #[.val (.ref a1), .val (.int p2), .val (.long q3), .second] [])) _
    refine XS.aloadN X6.here hx rfl (hb hby d3_16) rfl rfl ?_
    show Steps p.tables e below (T6.setTop (mkF m 17 #[.val (.ref a1), .val (.int p2), .val (.long q3), .second] [(.ref a1)])) _
    refine XS.dup X6.here hx rfl (hb hby d3_17) rfl rfl ?_
    show Steps p.tables e below (T6.setTop (mkF m 18 #[.val (.ref a1), .val (.int p2), .val (.long q3), .second] [(.ref a1), (.ref a1)])) _
    refine st8 _ ?_
    show Steps p.tables e below (T8.setTop (mkF m 21 #[.val (.ref a1), .val (.int p2), .val (.long q3), .second] [(.long w7), (.ref a1)])) _
    refine XS.iloadN X8.here hx rfl (hb hby d3_21) rfl ?_
    show Steps p.tables e below (T8.setTop (mkF m 22 #[.val (.ref a1), .val (.int p2), .val (.long q3), .second] [(.int p2), (.long w7), (.ref a1)])) _
    refine XS.bipush X8.here hx rfl (hb hby d3_22) ?_
    show Steps p.tables e below (T8.setTop (mkF m 24 #[.val (.ref a1), .val (.int p2), .val (.long q3), .second] [(.int (34 : Int32)), (.int p2), (.long w7), (.ref a1)])) _
    refine XS.icmpYes X8.here hx rfl (pc0 := 24) (pc' := 31) rfl (hb hby d3_24) rfl (feq hc24).2 (by decide) (by decide) ?_
    show Steps p.tables e below (T8.setTop (mkF m 31 #[.val (.ref a1), .val (.int p2), .val (.long q3), .second] [(.long w7), (.ref a1)])) _
    refine XS.lconst X8.here hx rfl (hb hby d3_31) ?_
    show Steps p.tables e below (T8.setTop (mkF m 32 #[.val (.ref a1), .val (.int p2), .val (.long q3), .second] [(.long (0 : Int64)), (.long w7), (.ref a1)])) _
    refine XS.ladd X8.here hx rfl (hb hby d3_32) rfl ?_
    show Steps p.tables e below (T8.setTop (mkF m 33 #[.val (.ref a1), .val (.int p2), .val (.long q3), .second] [(.long (w7 + (0 : Int64))), (.ref a1)])) _
    refine st9 _ ?_
    show Steps p.tables e below (T9.setTop (mkF m 36 #[.val (.ref a1), .val (.int p2), .val (.long q3), .second] [])) _
    refine XS.aloadN X9.here hx rfl (hb hby d3_36) rfl rfl ?_
    show Steps p.tables e below (T9.setTop (mkF m 37 #[.val (.ref a1), .val (.int p2), .val (.long q3), .second] [(.ref a1)])) _
    refine XS.dup X9.here hx rfl (hb hby d3_37) rfl rfl ?_
    show Steps p.tables e below (T9.setTop (mkF m 38 #[.val (.ref a1), .val (.int p2), .val (.long q3), .second] [(.ref a1), (.ref a1)])) _
    refine st11 _ ?_
    show Steps p.tables e below (T11.setTop (mkF m 41 #[.val (.ref a1), .val (.int p2), .val (.long q3), .second] [(.long w10), (.ref a1)])) _
    refine XS.iloadN X11.here hx rfl (hb hby d3_41) rfl ?_
    show Steps p.tables e below (T11.setTop (mkF m 42 #[.val (.ref a1), .val (.int p2), .val (.long q3), .second] [(.int p2), (.long w10), (.ref a1)])) _
    refine XS.bipush X11.here hx rfl (hb hby d3_42) ?_
    show Steps p.tables e below (T11.setTop (mkF m 44 #[.val (.ref a1), .val (.int p2), .val (.long q3), .second] [(.int (92 : Int32)), (.int p2), (.long w10), (.ref a1)])) _
    refine XS.icmpNo X11.here hx rfl (hb hby d3_44) rfl (teq hc44).2 ?_
    show Steps p.tables e below (T11.setTop (mkF m 47 #[.val (.ref a1), .val (.int p2), .val (.long q3), .second] [(.long w10), (.ref a1)])) _
    refine XS.lloadN X11.here hx rfl (hb hby d3_47) rfl ?_
    show Steps p.tables e below (T11.setTop (mkF m 48 #[.val (.ref a1), .val (.int p2), .val (.long q3), .second] [(.long q3), (.long w10), (.ref a1)])) _
    refine XS.goto X11.here hx rfl (pc0 := 48) (pc' := 52) rfl (hb hby d3_48) (by decide) (by decide) ?_
    show Steps p.tables e below (T11.setTop (mkF m 52 #[.val (.ref a1), .val (.int p2), .val (.long q3), .second] [(.long q3), (.long w10), (.ref a1)])) _
    refine XS.ladd X11.here hx rfl (hb hby d3_52) rfl ?_
    show Steps p.tables e below (T11.setTop (mkF m 53 #[.val (.ref a1), .val (.int p2), .val (.long q3), .second] [(.long (w10 + q3)), (.ref a1)])) _
    refine st12 _ ?_
    show Steps p.tables e below (T12.setTop (mkF m 56 #[.val (.ref a1), .val (.int p2), .val (.long q3), .second] [])) _
    refine XS.aloadN X12.here hx rfl (hb hby d3_56) rfl rfl ?_
    show Steps p.tables e below (T12.setTop (mkF m 57 #[.val (.ref a1), .val (.int p2), .val (.long q3), .second] [(.ref a1)])) _
    refine XS.dup X12.here hx rfl (hb hby d3_57) rfl rfl ?_
    show Steps p.tables e below (T12.setTop (mkF m 58 #[.val (.ref a1), .val (.int p2), .val (.long q3), .second] [(.ref a1), (.ref a1)])) _
    refine st14 _ ?_
    show Steps p.tables e below (T14.setTop (mkF m 61 #[.val (.ref a1), .val (.int p2), .val (.long q3), .second] [(.long w13), (.ref a1)])) _
    refine XS.iloadN X14.here hx rfl (hb hby d3_61) rfl ?_
    show Steps p.tables e below (T14.setTop (mkF m 62 #[.val (.ref a1), .val (.int p2), .val (.long q3), .second] [(.int p2), (.long w13), (.ref a1)])) _
    refine st15 _ ?_
    show Steps p.tables e below (T15.setTop (mkF m 65 #[.val (.ref a1), .val (.int p2), .val (.long q3), .second] [(.long (own_low p2)), (.long w13), (.ref a1)])) _
    refine XS.lor X15.here hx rfl (hb hby d3_65) rfl ?_
    show Steps p.tables e below (T15.setTop (mkF m 66 #[.val (.ref a1), .val (.int p2), .val (.long q3), .second] [(.long (w13 ||| (own_low p2))), (.ref a1)])) _
    refine st16 _ ?_
    show Steps p.tables e below (T16.setTop (mkF m 69 #[.val (.ref a1), .val (.int p2), .val (.long q3), .second] [])) _
    refine XS.aloadN X16.here hx rfl (hb hby d3_69) rfl rfl ?_
    show Steps p.tables e below (T16.setTop (mkF m 70 #[.val (.ref a1), .val (.int p2), .val (.long q3), .second] [(.ref a1)])) _
    refine XS.dup X16.here hx rfl (hb hby d3_70) rfl rfl ?_
    show Steps p.tables e below (T16.setTop (mkF m 71 #[.val (.ref a1), .val (.int p2), .val (.long q3), .second] [(.ref a1), (.ref a1)])) _
    refine st18 _ ?_
    show Steps p.tables e below (T18.setTop (mkF m 74 #[.val (.ref a1), .val (.int p2), .val (.long q3), .second] [(.long w17), (.ref a1)])) _
    refine XS.iloadN X18.here hx rfl (hb hby d3_74) rfl ?_
    show Steps p.tables e below (T18.setTop (mkF m 75 #[.val (.ref a1), .val (.int p2), .val (.long q3), .second] [(.int p2), (.long w17), (.ref a1)])) _
    refine st19 _ ?_
    show Steps p.tables e below (T19.setTop (mkF m 78 #[.val (.ref a1), .val (.int p2), .val (.long q3), .second] [(.long (own_high p2)), (.long w17), (.ref a1)])) _
    refine XS.lor X19.here hx rfl (hb hby d3_78) rfl ?_
    show Steps p.tables e below (T19.setTop (mkF m 79 #[.val (.ref a1), .val (.int p2), .val (.long q3), .second] [(.long (w17 ||| (own_high p2))), (.ref a1)])) _
    refine st20 _ ?_
    show Steps p.tables e below (T20.setTop (mkF m 82 #[.val (.ref a1), .val (.int p2), .val (.long q3), .second] [])) _
    exact X20.returnOut hx Bd.returns (hb hby d3_82) hr
  · show Q3 Z a1 p2 q3 w4 w7 w10 w13 w17 h0 n0 _ T20.heap _
    rw [e20]
    have r1 : own_pos q3 = q3 := if_pos hc3
    have r2 : own_eq p2 34 q3 = 0 := if_neg hc24
    have r3 : own_eq p2 92 q3 = q3 := if_pos hc44
    have r4 : ∀ b, own_bit q3 b = b := fun b => if_pos hc3
    exact ⟨rfl, N20, K20, by rw [r1, r2, r3, r4, r4]; exact ⟨(((((((E_a1.wr W6).wr W9).wr W12).keep kc15).wr W16).keep kc19).wr W20), ((((((Fw6.other W9 (Or.inr (slot_ne (Or.inl (hw _ (List.mem_of_getElem? (i := 15) rfl))) (Or.inl (hw _ (List.mem_of_getElem? (i := 17) rfl))) (by decide) (t := .long) (t' := .long) (by decide) (by decide)))).other W12 (Or.inr (slot_ne (Or.inl (hw _ (List.mem_of_getElem? (i := 15) rfl))) (Or.inl (hw _ (List.mem_of_getElem? (i := 19) rfl))) (by decide) (t := .long) (t' := .long) (by decide) (by decide)))).keep kc15 nin0).other W16 (Or.inr (slot_ne (Or.inl (hw _ (List.mem_of_getElem? (i := 15) rfl))) (Or.inl (hw _ (List.mem_of_getElem? (i := 21) rfl))) (by decide) (t := .long) (t' := .long) (by decide) (by decide)))).keep kc19 nin0).other W20 (Or.inr (slot_ne (Or.inl (hw _ (List.mem_of_getElem? (i := 15) rfl))) (Or.inl (hw _ (List.mem_of_getElem? (i := 26) rfl))) (by decide) (t := .long) (t' := .long) (by decide) (by decide)))), (((((Fw9.other W12 (Or.inr (slot_ne (Or.inl (hw _ (List.mem_of_getElem? (i := 17) rfl))) (Or.inl (hw _ (List.mem_of_getElem? (i := 19) rfl))) (by decide) (t := .long) (t' := .long) (by decide) (by decide)))).keep kc15 nin0).other W16 (Or.inr (slot_ne (Or.inl (hw _ (List.mem_of_getElem? (i := 17) rfl))) (Or.inl (hw _ (List.mem_of_getElem? (i := 21) rfl))) (by decide) (t := .long) (t' := .long) (by decide) (by decide)))).keep kc19 nin0).other W20 (Or.inr (slot_ne (Or.inl (hw _ (List.mem_of_getElem? (i := 17) rfl))) (Or.inl (hw _ (List.mem_of_getElem? (i := 26) rfl))) (by decide) (t := .long) (t' := .long) (by decide) (by decide)))), ((((Fw12.keep kc15 nin0).other W16 (Or.inr (slot_ne (Or.inl (hw _ (List.mem_of_getElem? (i := 19) rfl))) (Or.inl (hw _ (List.mem_of_getElem? (i := 21) rfl))) (by decide) (t := .long) (t' := .long) (by decide) (by decide)))).keep kc19 nin0).other W20 (Or.inr (slot_ne (Or.inl (hw _ (List.mem_of_getElem? (i := 19) rfl))) (Or.inl (hw _ (List.mem_of_getElem? (i := 26) rfl))) (by decide) (t := .long) (t' := .long) (by decide) (by decide)))), ((Fw16.keep kc19 nin0).other W20 (Or.inr (slot_ne (Or.inl (hw _ (List.mem_of_getElem? (i := 21) rfl))) (Or.inl (hw _ (List.mem_of_getElem? (i := 26) rfl))) (by decide) (t := .long) (t' := .long) (by decide) (by decide)))), Fw20⟩⟩
set_option maxRecDepth 65536 in
set_option maxHeartbeats 40000000 in
theorem rm3_t (l : Launch) (Z : State) (a0 : Array Value) (hw : ∀ d ∈ tables_1, d.before a0 Z = true) (ws : List Jvm.Cond) (a1 : Addr) (p2 : Int32) (q3 : Int64) (w4 : Int64) (w7 : Int64) (w10 : Int64) (w13 : Int64) (w17 : Int64) (h0 : Heap) (n0 : Nat) (Z0 : n0 ≤ h0.size) (M : own_MT Z h0 a1 w4 w7 w10 w13 w17) (hc3 : ¬ ((0 : Int32) < (lcmpW q3 (0 : Int64)))) :
    MetFree l (⟨"com/example/transmute/transmute/MeasuredText", "addRepeated", "(CJ)V"⟩ : MethodName) (head1 (Jvm.Cond.code (⟨"com/example/transmute/transmute/MeasuredText", "addRepeated", "(CJ)V"⟩ : MethodName) prog_86_method_7_code 4 none :: ws) ({ frames := 1, cells := 0, slots := 0, locals := 15 } : Room)) (fun a U => a = #[(.ref a1), (.int p2), (.long q3)] ∧ Z.Warmed39 U.vm ∧ U.heap = h0) (fun _ _ _ _ _ => True) (fun _ U o U' => ∃ v L, o = .returned v ∧ Q3 Z a1 p2 q3 w4 w7 w10 w13 w17 h0 n0 v U'.heap L ∧ FrameEnd U o U' L ({ frames := 1, cells := 0, slots := 0, locals := 15 } : Room).cells ({ frames := 1, cells := 0, slots := 0, locals := 15 } : Room).slots) := by
  refine MetFree.of_bodySF (plainFor_of_name pn_3) hisR ?_
  intro p e s m args below meth c s₁ Bd hml0 hP hK
  obtain ⟨rfl, hZ, hh⟩ := hP
  have hx := Bd.exec
  have hby := Bd.bytes
  have hml : c.maxLocals = 4 := hml0
  have hown : s.vm.findClass "com/example/transmute/transmute/MeasuredText" = some m.cls := findClass_of_methodNamed Bd.named
  have hnm := (name_of_methodNamed Bd.named Bd.method).1
  have X0 : Stand p l e ({ frames := 1, cells := 0, slots := 0, locals := 15 } : Room) s m #[(.ref a1), (.int p2), (.long q3)] below meth c s₁ [] 0 0 := Stand.of_body Bd
  have e0 : s₁.heap = h0 := by rw [← hh, Bd.state]; rfl
  have N0 := Fr.nil n0
  have pre0 : ∀ t, Steps p.tables e below (s₁.setTop (mkF m 0 #[.val (.ref a1), .val (.int p2), .val (.long q3), .second] [])) t → Steps p.tables e below (s₁.setTop (entryFrame m #[(.ref a1), (.int p2), (.long q3)] 4)) t := fun t k => castTop (ef_3 m a1 p2 q3) k

  obtain ⟨fs, hr, hrun, hended, hW, hsame⟩ := X0.leave (v := none) (fun _ => rfl)
  refine ⟨_, _, pre0 _ ?_, hrun, hended, _, _, rfl, ?_, ⟨_, rfl⟩, hW, hsame.mono (by decide) (by decide)⟩
  · show Steps p.tables e below (s₁.setTop (mkF m 0 #[.val (.ref a1), .val (.int p2), .val (.long q3), .second] [])) _
    refine XS.lloadN X0.here hx rfl (hb hby d3_0) rfl ?_
    show Steps p.tables e below (s₁.setTop (mkF m 1 #[.val (.ref a1), .val (.int p2), .val (.long q3), .second] [(.long q3)])) _
    refine XS.lconst X0.here hx rfl (hb hby d3_1) ?_
    show Steps p.tables e below (s₁.setTop (mkF m 2 #[.val (.ref a1), .val (.int p2), .val (.long q3), .second] [(.long (0 : Int64)), (.long q3)])) _
    refine XS.lcmp X0.here hx rfl (hb hby d3_2) rfl ?_
    show Steps p.tables e below (s₁.setTop (mkF m 3 #[.val (.ref a1), .val (.int p2), .val (.long q3), .second] [(.int (lcmpW q3 (0 : Int64)))])) _
    refine XS.ifYes X0.here hx rfl (pc0 := 3) (pc' := 82) rfl (hb hby d3_3) rfl ((if0 _ _).trans (flt hc3).2.2.2) (by decide) (by decide) ?_
    show Steps p.tables e below (s₁.setTop (mkF m 82 #[.val (.ref a1), .val (.int p2), .val (.long q3), .second] [])) _
    exact X0.returnOut hx Bd.returns (hb hby d3_82) hr
  · show Q3 Z a1 p2 q3 w4 w7 w10 w13 w17 h0 n0 _ s₁.heap _
    rw [e0]
    have r1 : own_pos q3 = 0 := if_neg hc3
    have r4 : ∀ b, own_bit q3 b = 0 := fun b => if_neg hc3
    exact ⟨rfl, N0, Keep.refl _ _, by rw [r1, own_eq0, own_eq0, r4, r4, Int64.add_zero, Int64.add_zero, Int64.add_zero, Int64.or_zero, Int64.or_zero]; exact M⟩
set_option maxRecDepth 65536 in
theorem rm3 (l : Launch) (Z : State) (a0 : Array Value) (hw : ∀ d ∈ tables_1, d.before a0 Z = true) (ws : List Jvm.Cond) (a1 : Addr) (p2 : Int32) (q3 : Int64) (w4 : Int64) (w7 : Int64) (w10 : Int64) (w13 : Int64) (w17 : Int64) (h0 : Heap) (n0 : Nat) (Z0 : n0 ≤ h0.size) (M : own_MT Z h0 a1 w4 w7 w10 w13 w17) (g_a1 : n0 ≤ a1) :
    MetFree l (⟨"com/example/transmute/transmute/MeasuredText", "addRepeated", "(CJ)V"⟩ : MethodName) (head1 (Jvm.Cond.code (⟨"com/example/transmute/transmute/MeasuredText", "addRepeated", "(CJ)V"⟩ : MethodName) prog_86_method_7_code 4 none :: ws) ({ frames := 1, cells := 0, slots := 0, locals := 15 } : Room)) (fun a U => a = #[(.ref a1), (.int p2), (.long q3)] ∧ Z.Warmed39 U.vm ∧ U.heap = h0) (fun _ _ _ _ _ => True) (fun _ U o U' => ∃ v L, o = .returned v ∧ Q3 Z a1 p2 q3 w4 w7 w10 w13 w17 h0 n0 v U'.heap L ∧ FrameEnd U o U' L ({ frames := 1, cells := 0, slots := 0, locals := 15 } : Room).cells ({ frames := 1, cells := 0, slots := 0, locals := 15 } : Room).slots) := by
  by_cases h : (0 : Int32) < (lcmpW q3 (0 : Int64))
  · by_cases g : p2 = (34 : Int32)
    · exact rm3_fft l Z a0 hw ws a1 p2 q3 w4 w7 w10 w13 w17 h0 n0 Z0 M.2.1 M.1 g_a1 M.2.2.1 M.2.2.2.1 M.2.2.2.2.1 M.2.2.2.2.2 h g (by rw [g]; decide)
    · by_cases k : p2 = (92 : Int32)
      · exact rm3_ftf l Z a0 hw ws a1 p2 q3 w4 w7 w10 w13 w17 h0 n0 Z0 M.2.1 M.1 g_a1 M.2.2.1 M.2.2.2.1 M.2.2.2.2.1 M.2.2.2.2.2 h g k
      · exact rm3_ftt l Z a0 hw ws a1 p2 q3 w4 w7 w10 w13 w17 h0 n0 Z0 M.2.1 M.1 g_a1 M.2.2.1 M.2.2.2.1 M.2.2.2.2.1 M.2.2.2.2.2 h g k
  · exact rm3_t l Z a0 hw ws a1 p2 q3 w4 w7 w10 w13 w17 h0 n0 Z0 M h
theorem d6_0 : decode prog_86_method_6_code 0 = .ok (.aload_n 0, 1) := by decide +kernel
theorem d6_1 : decode prog_86_method_6_code 1 = .ok (.dup, 1) := by decide +kernel
theorem d6_2 : decode prog_86_method_6_code 2 = .ok (.getfield 39, 3) := by decide +kernel
theorem d6_5 : decode prog_86_method_6_code 5 = .ok (.aload_n 1, 1) := by decide +kernel
theorem d6_6 : decode prog_86_method_6_code 6 = .ok (.getfield 39, 3) := by decide +kernel
theorem d6_9 : decode prog_86_method_6_code 9 = .ok (.ladd, 1) := by decide +kernel
theorem d6_10 : decode prog_86_method_6_code 10 = .ok (.putfield 39, 3) := by decide +kernel
theorem d6_13 : decode prog_86_method_6_code 13 = .ok (.aload_n 0, 1) := by decide +kernel
theorem d6_14 : decode prog_86_method_6_code 14 = .ok (.dup, 1) := by decide +kernel
theorem d6_15 : decode prog_86_method_6_code 15 = .ok (.getfield 43, 3) := by decide +kernel
theorem d6_18 : decode prog_86_method_6_code 18 = .ok (.aload_n 1, 1) := by decide +kernel
theorem d6_19 : decode prog_86_method_6_code 19 = .ok (.getfield 43, 3) := by decide +kernel
theorem d6_22 : decode prog_86_method_6_code 22 = .ok (.ladd, 1) := by decide +kernel
theorem d6_23 : decode prog_86_method_6_code 23 = .ok (.putfield 43, 3) := by decide +kernel
theorem d6_26 : decode prog_86_method_6_code 26 = .ok (.aload_n 0, 1) := by decide +kernel
theorem d6_27 : decode prog_86_method_6_code 27 = .ok (.dup, 1) := by decide +kernel
theorem d6_28 : decode prog_86_method_6_code 28 = .ok (.getfield 46, 3) := by decide +kernel
theorem d6_31 : decode prog_86_method_6_code 31 = .ok (.aload_n 1, 1) := by decide +kernel
theorem d6_32 : decode prog_86_method_6_code 32 = .ok (.getfield 46, 3) := by decide +kernel
theorem d6_35 : decode prog_86_method_6_code 35 = .ok (.ladd, 1) := by decide +kernel
theorem d6_36 : decode prog_86_method_6_code 36 = .ok (.putfield 46, 3) := by decide +kernel
theorem d6_39 : decode prog_86_method_6_code 39 = .ok (.aload_n 0, 1) := by decide +kernel
theorem d6_40 : decode prog_86_method_6_code 40 = .ok (.dup, 1) := by decide +kernel
theorem d6_41 : decode prog_86_method_6_code 41 = .ok (.getfield 49, 3) := by decide +kernel
theorem d6_44 : decode prog_86_method_6_code 44 = .ok (.aload_n 1, 1) := by decide +kernel
theorem d6_45 : decode prog_86_method_6_code 45 = .ok (.getfield 49, 3) := by decide +kernel
theorem d6_48 : decode prog_86_method_6_code 48 = .ok (.lor, 1) := by decide +kernel
theorem d6_49 : decode prog_86_method_6_code 49 = .ok (.putfield 49, 3) := by decide +kernel
theorem d6_52 : decode prog_86_method_6_code 52 = .ok (.aload_n 0, 1) := by decide +kernel
theorem d6_53 : decode prog_86_method_6_code 53 = .ok (.dup, 1) := by decide +kernel
theorem d6_54 : decode prog_86_method_6_code 54 = .ok (.getfield 52, 3) := by decide +kernel
theorem d6_57 : decode prog_86_method_6_code 57 = .ok (.aload_n 1, 1) := by decide +kernel
theorem d6_58 : decode prog_86_method_6_code 58 = .ok (.getfield 52, 3) := by decide +kernel
theorem d6_61 : decode prog_86_method_6_code 61 = .ok (.lor, 1) := by decide +kernel
theorem d6_62 : decode prog_86_method_6_code 62 = .ok (.putfield 52, 3) := by decide +kernel
theorem d6_65 : decode prog_86_method_6_code 65 = .ok (.return_, 1) := by decide +kernel
theorem pn_6 : plainName "com/example/transmute/transmute/MeasuredText" = true := by first | (simp [plainName, overriddenIn]; done) | decide +kernel
theorem ef_6 (m : MethodId) (x0 : Addr) (x1 : Addr) : entryFrame m #[(.ref x0), (.ref x1)] 2 = mkF m 0 #[.val (.ref x0), .val (.ref x1)] [] := by first | (simp [entryFrame, mkF, argsToLocals, Value.category]; done) | rfl
def Q6 (Z : State) (a1 : Addr) (a2 : Addr) (w3 : Int64) (w5 : Int64) (w8 : Int64) (w10 : Int64) (w13 : Int64) (w15 : Int64) (w18 : Int64) (w20 : Int64) (w23 : Int64) (w25 : Int64) (h0 : Heap) (n0 : Nat) (v : Option Value) (h : Heap) (L : List Loc) : Prop := v = none ∧ Fr n0 L ∧ Keep h0 h [a1] ∧ Exa Z h a1 "com/example/transmute/transmute/MeasuredText" ∧ Fld Z h a1 "com/example/transmute/transmute/MeasuredText" "m_nLength" "J" (.long (w3 + w5)) ∧ Fld Z h a1 "com/example/transmute/transmute/MeasuredText" "m_nQuotes" "J" (.long (w8 + w10)) ∧ Fld Z h a1 "com/example/transmute/transmute/MeasuredText" "m_nBackslashes" "J" (.long (w13 + w15)) ∧ Fld Z h a1 "com/example/transmute/transmute/MeasuredText" "m_nLowChars" "J" (.long (w18 ||| w20)) ∧ Fld Z h a1 "com/example/transmute/transmute/MeasuredText" "m_nHighChars" "J" (.long (w23 ||| w25))
set_option maxRecDepth 65536 in
set_option maxHeartbeats 40000000 in
theorem rm6 (l : Launch) (Z : State) (a0 : Array Value) (hw : ∀ d ∈ tables_1, d.before a0 Z = true) (ws : List Jvm.Cond) (a1 : Addr) (a2 : Addr) (w3 : Int64) (w5 : Int64) (w8 : Int64) (w10 : Int64) (w13 : Int64) (w15 : Int64) (w18 : Int64) (w20 : Int64) (w23 : Int64) (w25 : Int64) (h0 : Heap) (n0 : Nat) (Z0 : n0 ≤ h0.size) (F_m_nLength_a1 : Fld Z h0 a1 "com/example/transmute/transmute/MeasuredText" "m_nLength" "J" (.long w3)) (F_m_nLength_a2 : Fld Z h0 a2 "com/example/transmute/transmute/MeasuredText" "m_nLength" "J" (.long w5)) (E_a1 : Exa Z h0 a1 "com/example/transmute/transmute/MeasuredText") (g_a1 : n0 ≤ a1) (hne : a2 ≠ a1) (F_m_nQuotes_a1 : Fld Z h0 a1 "com/example/transmute/transmute/MeasuredText" "m_nQuotes" "J" (.long w8)) (F_m_nQuotes_a2 : Fld Z h0 a2 "com/example/transmute/transmute/MeasuredText" "m_nQuotes" "J" (.long w10)) (F_m_nBackslashes_a1 : Fld Z h0 a1 "com/example/transmute/transmute/MeasuredText" "m_nBackslashes" "J" (.long w13)) (F_m_nBackslashes_a2 : Fld Z h0 a2 "com/example/transmute/transmute/MeasuredText" "m_nBackslashes" "J" (.long w15)) (F_m_nLowChars_a1 : Fld Z h0 a1 "com/example/transmute/transmute/MeasuredText" "m_nLowChars" "J" (.long w18)) (F_m_nLowChars_a2 : Fld Z h0 a2 "com/example/transmute/transmute/MeasuredText" "m_nLowChars" "J" (.long w20)) (F_m_nHighChars_a1 : Fld Z h0 a1 "com/example/transmute/transmute/MeasuredText" "m_nHighChars" "J" (.long w23)) (F_m_nHighChars_a2 : Fld Z h0 a2 "com/example/transmute/transmute/MeasuredText" "m_nHighChars" "J" (.long w25)) :
    MetFree l (⟨"com/example/transmute/transmute/MeasuredText", "add", "(Lcom/example/transmute/transmute/MeasuredText;)V"⟩ : MethodName) (head1 (Jvm.Cond.code (⟨"com/example/transmute/transmute/MeasuredText", "add", "(Lcom/example/transmute/transmute/MeasuredText;)V"⟩ : MethodName) prog_86_method_6_code 2 none :: ws) ({ frames := 0, cells := 0, slots := 0, locals := 0 } : Room)) (fun a U => a = #[(.ref a1), (.ref a2)] ∧ Z.Warmed39 U.vm ∧ U.heap = h0) (fun _ _ _ _ _ => True) (fun _ U o U' => ∃ v L, o = .returned v ∧ Q6 Z a1 a2 w3 w5 w8 w10 w13 w15 w18 w20 w23 w25 h0 n0 v U'.heap L ∧ FrameEnd U o U' L ({ frames := 0, cells := 0, slots := 0, locals := 0 } : Room).cells ({ frames := 0, cells := 0, slots := 0, locals := 0 } : Room).slots) := by
  refine MetFree.of_bodySF (plainFor_of_name pn_6) hisR ?_
  intro p e s m args below meth c s₁ Bd hml0 hP hK
  obtain ⟨rfl, hZ, hh⟩ := hP
  have hx := Bd.exec
  have hby := Bd.bytes
  have hml : c.maxLocals = 2 := hml0
  have hown : s.vm.findClass "com/example/transmute/transmute/MeasuredText" = some m.cls := findClass_of_methodNamed Bd.named
  have hnm := (name_of_methodNamed Bd.named Bd.method).1
  have X0 : Stand p l e ({ frames := 0, cells := 0, slots := 0, locals := 0 } : Room) s m #[(.ref a1), (.ref a2)] below meth c s₁ [] 0 0 := Stand.of_body Bd
  have e0 : s₁.heap = h0 := by rw [← hh, Bd.state]; rfl
  have N0 := Fr.nil n0
  have pre0 : ∀ t, Steps p.tables e below (s₁.setTop (mkF m 0 #[.val (.ref a1), .val (.ref a2)] [])) t → Steps p.tables e below (s₁.setTop (entryFrame m #[(.ref a1), (.ref a2)] 2)) t := fun t k => castTop (ef_6 m a1 a2) k
  obtain ⟨T4, X4, e4, st4⟩ := getF X0 hx hZ hown (host := "") (Or.inl (hw _ (List.mem_of_getElem? (i := 14) rfl))) Via.refl e0 F_m_nLength_a1 (g := (mkF m 2 #[.val (.ref a1), .val (.ref a2)] [(.ref a1), (.ref a1)])) rfl rfl (hb hby d6_2)
  obtain ⟨T6, X6, e6, st6⟩ := getF X4 hx hZ hown (host := "") (Or.inl (hw _ (List.mem_of_getElem? (i := 14) rfl))) Via.refl e4 F_m_nLength_a2 (g := (mkF m 6 #[.val (.ref a1), .val (.ref a2)] [(.ref a2), (.long w3), (.ref a1)])) rfl rfl (hb hby d6_6)
  obtain ⟨T7, h7, X7, e7, W7, st7⟩ := putF X6 hx hZ hown (host := "") (Or.inl (hw _ (List.mem_of_getElem? (i := 14) rfl))) Via.refl e6 F_m_nLength_a1 E_a1 (Or.inl (hw _ (List.mem_of_getElem? (i := 15) rfl))) (hw _ (List.mem_of_getElem? (i := 1) rfl)) (ty := .long) (by decide) rfl rfl (g := (mkF m 10 #[.val (.ref a1), .val (.ref a2)] [(.long (w3 + w5)), (.ref a1)])) rfl rfl (hb hby d6_10)
  have Fw7 := F_m_nLength_a1.same W7
  have K7 : Keep h0 h7 [a1] := (Keep.refl h0 [a1]).wr W7 (Or.inl (List.mem_of_getElem? (i := 0) rfl))
  have N7 := Fr.snoc X7 N0 g_a1
  obtain ⟨T9, X9, e9, st9⟩ := getF X7 hx hZ hown (host := "") (Or.inl (hw _ (List.mem_of_getElem? (i := 16) rfl))) Via.refl e7 (F_m_nQuotes_a1.other W7 (Or.inr (slot_ne (Or.inl (hw _ (List.mem_of_getElem? (i := 17) rfl))) (Or.inl (hw _ (List.mem_of_getElem? (i := 15) rfl))) (by decide) (t := .long) (t' := .long) (by decide) (by decide)))) (g := (mkF m 15 #[.val (.ref a1), .val (.ref a2)] [(.ref a1), (.ref a1)])) rfl rfl (hb hby d6_15)
  obtain ⟨T11, X11, e11, st11⟩ := getF X9 hx hZ hown (host := "") (Or.inl (hw _ (List.mem_of_getElem? (i := 16) rfl))) Via.refl e9 (F_m_nQuotes_a2.other W7 (Or.inl hne)) (g := (mkF m 19 #[.val (.ref a1), .val (.ref a2)] [(.ref a2), (.long w8), (.ref a1)])) rfl rfl (hb hby d6_19)
  obtain ⟨T12, h12, X12, e12, W12, st12⟩ := putF X11 hx hZ hown (host := "") (Or.inl (hw _ (List.mem_of_getElem? (i := 16) rfl))) Via.refl e11 (F_m_nQuotes_a1.other W7 (Or.inr (slot_ne (Or.inl (hw _ (List.mem_of_getElem? (i := 17) rfl))) (Or.inl (hw _ (List.mem_of_getElem? (i := 15) rfl))) (by decide) (t := .long) (t' := .long) (by decide) (by decide)))) (E_a1.wr W7) (Or.inl (hw _ (List.mem_of_getElem? (i := 17) rfl))) (hw _ (List.mem_of_getElem? (i := 1) rfl)) (ty := .long) (by decide) rfl rfl (g := (mkF m 23 #[.val (.ref a1), .val (.ref a2)] [(.long (w8 + w10)), (.ref a1)])) rfl rfl (hb hby d6_23)
  have Fw12 := (F_m_nQuotes_a1.other W7 (Or.inr (slot_ne (Or.inl (hw _ (List.mem_of_getElem? (i := 17) rfl))) (Or.inl (hw _ (List.mem_of_getElem? (i := 15) rfl))) (by decide) (t := .long) (t' := .long) (by decide) (by decide)))).same W12
  have K12 : Keep h0 h12 [a1] := K7.wr W12 (Or.inl (List.mem_of_getElem? (i := 0) rfl))
  have N12 := Fr.snoc X12 N7 g_a1
  obtain ⟨T14, X14, e14, st14⟩ := getF X12 hx hZ hown (host := "") (Or.inl (hw _ (List.mem_of_getElem? (i := 18) rfl))) Via.refl e12 ((F_m_nBackslashes_a1.other W7 (Or.inr (slot_ne (Or.inl (hw _ (List.mem_of_getElem? (i := 19) rfl))) (Or.inl (hw _ (List.mem_of_getElem? (i := 15) rfl))) (by decide) (t := .long) (t' := .long) (by decide) (by decide)))).other W12 (Or.inr (slot_ne (Or.inl (hw _ (List.mem_of_getElem? (i := 19) rfl))) (Or.inl (hw _ (List.mem_of_getElem? (i := 17) rfl))) (by decide) (t := .long) (t' := .long) (by decide) (by decide)))) (g := (mkF m 28 #[.val (.ref a1), .val (.ref a2)] [(.ref a1), (.ref a1)])) rfl rfl (hb hby d6_28)
  obtain ⟨T16, X16, e16, st16⟩ := getF X14 hx hZ hown (host := "") (Or.inl (hw _ (List.mem_of_getElem? (i := 18) rfl))) Via.refl e14 ((F_m_nBackslashes_a2.other W7 (Or.inl hne)).other W12 (Or.inl hne)) (g := (mkF m 32 #[.val (.ref a1), .val (.ref a2)] [(.ref a2), (.long w13), (.ref a1)])) rfl rfl (hb hby d6_32)
  obtain ⟨T17, h17, X17, e17, W17, st17⟩ := putF X16 hx hZ hown (host := "") (Or.inl (hw _ (List.mem_of_getElem? (i := 18) rfl))) Via.refl e16 ((F_m_nBackslashes_a1.other W7 (Or.inr (slot_ne (Or.inl (hw _ (List.mem_of_getElem? (i := 19) rfl))) (Or.inl (hw _ (List.mem_of_getElem? (i := 15) rfl))) (by decide) (t := .long) (t' := .long) (by decide) (by decide)))).other W12 (Or.inr (slot_ne (Or.inl (hw _ (List.mem_of_getElem? (i := 19) rfl))) (Or.inl (hw _ (List.mem_of_getElem? (i := 17) rfl))) (by decide) (t := .long) (t' := .long) (by decide) (by decide)))) ((E_a1.wr W7).wr W12) (Or.inl (hw _ (List.mem_of_getElem? (i := 19) rfl))) (hw _ (List.mem_of_getElem? (i := 1) rfl)) (ty := .long) (by decide) rfl rfl (g := (mkF m 36 #[.val (.ref a1), .val (.ref a2)] [(.long (w13 + w15)), (.ref a1)])) rfl rfl (hb hby d6_36)
  have Fw17 := ((F_m_nBackslashes_a1.other W7 (Or.inr (slot_ne (Or.inl (hw _ (List.mem_of_getElem? (i := 19) rfl))) (Or.inl (hw _ (List.mem_of_getElem? (i := 15) rfl))) (by decide) (t := .long) (t' := .long) (by decide) (by decide)))).other W12 (Or.inr (slot_ne (Or.inl (hw _ (List.mem_of_getElem? (i := 19) rfl))) (Or.inl (hw _ (List.mem_of_getElem? (i := 17) rfl))) (by decide) (t := .long) (t' := .long) (by decide) (by decide)))).same W17
  have K17 : Keep h0 h17 [a1] := K12.wr W17 (Or.inl (List.mem_of_getElem? (i := 0) rfl))
  have N17 := Fr.snoc X17 N12 g_a1
  obtain ⟨T19, X19, e19, st19⟩ := getF X17 hx hZ hown (host := "") (Or.inl (hw _ (List.mem_of_getElem? (i := 20) rfl))) Via.refl e17 (((F_m_nLowChars_a1.other W7 (Or.inr (slot_ne (Or.inl (hw _ (List.mem_of_getElem? (i := 21) rfl))) (Or.inl (hw _ (List.mem_of_getElem? (i := 15) rfl))) (by decide) (t := .long) (t' := .long) (by decide) (by decide)))).other W12 (Or.inr (slot_ne (Or.inl (hw _ (List.mem_of_getElem? (i := 21) rfl))) (Or.inl (hw _ (List.mem_of_getElem? (i := 17) rfl))) (by decide) (t := .long) (t' := .long) (by decide) (by decide)))).other W17 (Or.inr (slot_ne (Or.inl (hw _ (List.mem_of_getElem? (i := 21) rfl))) (Or.inl (hw _ (List.mem_of_getElem? (i := 19) rfl))) (by decide) (t := .long) (t' := .long) (by decide) (by decide)))) (g := (mkF m 41 #[.val (.ref a1), .val (.ref a2)] [(.ref a1), (.ref a1)])) rfl rfl (hb hby d6_41)
  obtain ⟨T21, X21, e21, st21⟩ := getF X19 hx hZ hown (host := "") (Or.inl (hw _ (List.mem_of_getElem? (i := 20) rfl))) Via.refl e19 (((F_m_nLowChars_a2.other W7 (Or.inl hne)).other W12 (Or.inl hne)).other W17 (Or.inl hne)) (g := (mkF m 45 #[.val (.ref a1), .val (.ref a2)] [(.ref a2), (.long w18), (.ref a1)])) rfl rfl (hb hby d6_45)
  obtain ⟨T22, h22, X22, e22, W22, st22⟩ := putF X21 hx hZ hown (host := "") (Or.inl (hw _ (List.mem_of_getElem? (i := 20) rfl))) Via.refl e21 (((F_m_nLowChars_a1.other W7 (Or.inr (slot_ne (Or.inl (hw _ (List.mem_of_getElem? (i := 21) rfl))) (Or.inl (hw _ (List.mem_of_getElem? (i := 15) rfl))) (by decide) (t := .long) (t' := .long) (by decide) (by decide)))).other W12 (Or.inr (slot_ne (Or.inl (hw _ (List.mem_of_getElem? (i := 21) rfl))) (Or.inl (hw _ (List.mem_of_getElem? (i := 17) rfl))) (by decide) (t := .long) (t' := .long) (by decide) (by decide)))).other W17 (Or.inr (slot_ne (Or.inl (hw _ (List.mem_of_getElem? (i := 21) rfl))) (Or.inl (hw _ (List.mem_of_getElem? (i := 19) rfl))) (by decide) (t := .long) (t' := .long) (by decide) (by decide)))) (((E_a1.wr W7).wr W12).wr W17) (Or.inl (hw _ (List.mem_of_getElem? (i := 21) rfl))) (hw _ (List.mem_of_getElem? (i := 1) rfl)) (ty := .long) (by decide) rfl rfl (g := (mkF m 49 #[.val (.ref a1), .val (.ref a2)] [(.long (w18 ||| w20)), (.ref a1)])) rfl rfl (hb hby d6_49)
  have Fw22 := (((F_m_nLowChars_a1.other W7 (Or.inr (slot_ne (Or.inl (hw _ (List.mem_of_getElem? (i := 21) rfl))) (Or.inl (hw _ (List.mem_of_getElem? (i := 15) rfl))) (by decide) (t := .long) (t' := .long) (by decide) (by decide)))).other W12 (Or.inr (slot_ne (Or.inl (hw _ (List.mem_of_getElem? (i := 21) rfl))) (Or.inl (hw _ (List.mem_of_getElem? (i := 17) rfl))) (by decide) (t := .long) (t' := .long) (by decide) (by decide)))).other W17 (Or.inr (slot_ne (Or.inl (hw _ (List.mem_of_getElem? (i := 21) rfl))) (Or.inl (hw _ (List.mem_of_getElem? (i := 19) rfl))) (by decide) (t := .long) (t' := .long) (by decide) (by decide)))).same W22
  have K22 : Keep h0 h22 [a1] := K17.wr W22 (Or.inl (List.mem_of_getElem? (i := 0) rfl))
  have N22 := Fr.snoc X22 N17 g_a1
  obtain ⟨T24, X24, e24, st24⟩ := getF X22 hx hZ hown (host := "") (Or.inl (hw _ (List.mem_of_getElem? (i := 25) rfl))) Via.refl e22 ((((F_m_nHighChars_a1.other W7 (Or.inr (slot_ne (Or.inl (hw _ (List.mem_of_getElem? (i := 26) rfl))) (Or.inl (hw _ (List.mem_of_getElem? (i := 15) rfl))) (by decide) (t := .long) (t' := .long) (by decide) (by decide)))).other W12 (Or.inr (slot_ne (Or.inl (hw _ (List.mem_of_getElem? (i := 26) rfl))) (Or.inl (hw _ (List.mem_of_getElem? (i := 17) rfl))) (by decide) (t := .long) (t' := .long) (by decide) (by decide)))).other W17 (Or.inr (slot_ne (Or.inl (hw _ (List.mem_of_getElem? (i := 26) rfl))) (Or.inl (hw _ (List.mem_of_getElem? (i := 19) rfl))) (by decide) (t := .long) (t' := .long) (by decide) (by decide)))).other W22 (Or.inr (slot_ne (Or.inl (hw _ (List.mem_of_getElem? (i := 26) rfl))) (Or.inl (hw _ (List.mem_of_getElem? (i := 21) rfl))) (by decide) (t := .long) (t' := .long) (by decide) (by decide)))) (g := (mkF m 54 #[.val (.ref a1), .val (.ref a2)] [(.ref a1), (.ref a1)])) rfl rfl (hb hby d6_54)
  obtain ⟨T26, X26, e26, st26⟩ := getF X24 hx hZ hown (host := "") (Or.inl (hw _ (List.mem_of_getElem? (i := 25) rfl))) Via.refl e24 ((((F_m_nHighChars_a2.other W7 (Or.inl hne)).other W12 (Or.inl hne)).other W17 (Or.inl hne)).other W22 (Or.inl hne)) (g := (mkF m 58 #[.val (.ref a1), .val (.ref a2)] [(.ref a2), (.long w23), (.ref a1)])) rfl rfl (hb hby d6_58)
  obtain ⟨T27, h27, X27, e27, W27, st27⟩ := putF X26 hx hZ hown (host := "") (Or.inl (hw _ (List.mem_of_getElem? (i := 25) rfl))) Via.refl e26 ((((F_m_nHighChars_a1.other W7 (Or.inr (slot_ne (Or.inl (hw _ (List.mem_of_getElem? (i := 26) rfl))) (Or.inl (hw _ (List.mem_of_getElem? (i := 15) rfl))) (by decide) (t := .long) (t' := .long) (by decide) (by decide)))).other W12 (Or.inr (slot_ne (Or.inl (hw _ (List.mem_of_getElem? (i := 26) rfl))) (Or.inl (hw _ (List.mem_of_getElem? (i := 17) rfl))) (by decide) (t := .long) (t' := .long) (by decide) (by decide)))).other W17 (Or.inr (slot_ne (Or.inl (hw _ (List.mem_of_getElem? (i := 26) rfl))) (Or.inl (hw _ (List.mem_of_getElem? (i := 19) rfl))) (by decide) (t := .long) (t' := .long) (by decide) (by decide)))).other W22 (Or.inr (slot_ne (Or.inl (hw _ (List.mem_of_getElem? (i := 26) rfl))) (Or.inl (hw _ (List.mem_of_getElem? (i := 21) rfl))) (by decide) (t := .long) (t' := .long) (by decide) (by decide)))) ((((E_a1.wr W7).wr W12).wr W17).wr W22) (Or.inl (hw _ (List.mem_of_getElem? (i := 26) rfl))) (hw _ (List.mem_of_getElem? (i := 1) rfl)) (ty := .long) (by decide) rfl rfl (g := (mkF m 62 #[.val (.ref a1), .val (.ref a2)] [(.long (w23 ||| w25)), (.ref a1)])) rfl rfl (hb hby d6_62)
  have Fw27 := ((((F_m_nHighChars_a1.other W7 (Or.inr (slot_ne (Or.inl (hw _ (List.mem_of_getElem? (i := 26) rfl))) (Or.inl (hw _ (List.mem_of_getElem? (i := 15) rfl))) (by decide) (t := .long) (t' := .long) (by decide) (by decide)))).other W12 (Or.inr (slot_ne (Or.inl (hw _ (List.mem_of_getElem? (i := 26) rfl))) (Or.inl (hw _ (List.mem_of_getElem? (i := 17) rfl))) (by decide) (t := .long) (t' := .long) (by decide) (by decide)))).other W17 (Or.inr (slot_ne (Or.inl (hw _ (List.mem_of_getElem? (i := 26) rfl))) (Or.inl (hw _ (List.mem_of_getElem? (i := 19) rfl))) (by decide) (t := .long) (t' := .long) (by decide) (by decide)))).other W22 (Or.inr (slot_ne (Or.inl (hw _ (List.mem_of_getElem? (i := 26) rfl))) (Or.inl (hw _ (List.mem_of_getElem? (i := 21) rfl))) (by decide) (t := .long) (t' := .long) (by decide) (by decide)))).same W27
  have K27 : Keep h0 h27 [a1] := K22.wr W27 (Or.inl (List.mem_of_getElem? (i := 0) rfl))
  have N27 := Fr.snoc X27 N22 g_a1
  obtain ⟨fs, hr, hrun, hended, hW, hsame⟩ := X27.leave (v := none) (fun _ => rfl)
  refine ⟨_, _, pre0 _ ?_, hrun, hended, _, _, rfl, ?_, ⟨_, rfl⟩, hW, hsame.mono (by decide) (by decide)⟩
  · show Steps p.tables e below (s₁.setTop (mkF m 0 #[.val (.ref a1), .val (.ref a2)] [])) _
    refine XS.aloadN X0.here hx rfl (hb hby d6_0) rfl rfl ?_
    show Steps p.tables e below (s₁.setTop (mkF m 1 #[.val (.ref a1), .val (.ref a2)] [(.ref a1)])) _
    refine XS.dup X0.here hx rfl (hb hby d6_1) rfl rfl ?_
    show Steps p.tables e below (s₁.setTop (mkF m 2 #[.val (.ref a1), .val (.ref a2)] [(.ref a1), (.ref a1)])) _
    refine st4 _ ?_
    show Steps p.tables e below (T4.setTop (mkF m 5 #[.val (.ref a1), .val (.ref a2)] [(.long w3), (.ref a1)])) _
    refine XS.aloadN X4.here hx rfl (hb hby d6_5) rfl rfl ?_
    show Steps p.tables e below (T4.setTop (mkF m 6 #[.val (.ref a1), .val (.ref a2)] [(.ref a2), (.long w3), (.ref a1)])) _
    refine st6 _ ?_
    show Steps p.tables e below (T6.setTop (mkF m 9 #[.val (.ref a1), .val (.ref a2)] [(.long w5), (.long w3), (.ref a1)])) _
    refine XS.ladd X6.here hx rfl (hb hby d6_9) rfl ?_
    show Steps p.tables e below (T6.setTop (mkF m 10 #[.val (.ref a1), .val (.ref a2)] [(.long (w3 + w5)), (.ref a1)])) _
    refine st7 _ ?_
    show Steps p.tables e below (T7.setTop (mkF m 13 #[.val (.ref a1), .val (.ref a2)] [])) _
    refine XS.aloadN X7.here hx rfl (hb hby d6_13) rfl rfl ?_
    show Steps p.tables e below (T7.setTop (mkF m 14 #[.val (.ref a1), .val (.ref a2)] [(.ref a1)])) _
    refine XS.dup X7.here hx rfl (hb hby d6_14) rfl rfl ?_
    show Steps p.tables e below (T7.setTop (mkF m 15 #[.val (.ref a1), .val (.ref a2)] [(.ref a1), (.ref a1)])) _
    refine st9 _ ?_
    show Steps p.tables e below (T9.setTop (mkF m 18 #[.val (.ref a1), .val (.ref a2)] [(.long w8), (.ref a1)])) _
    refine XS.aloadN X9.here hx rfl (hb hby d6_18) rfl rfl ?_
    show Steps p.tables e below (T9.setTop (mkF m 19 #[.val (.ref a1), .val (.ref a2)] [(.ref a2), (.long w8), (.ref a1)])) _
    refine st11 _ ?_
    show Steps p.tables e below (T11.setTop (mkF m 22 #[.val (.ref a1), .val (.ref a2)] [(.long w10), (.long w8), (.ref a1)])) _
    refine XS.ladd X11.here hx rfl (hb hby d6_22) rfl ?_
    show Steps p.tables e below (T11.setTop (mkF m 23 #[.val (.ref a1), .val (.ref a2)] [(.long (w8 + w10)), (.ref a1)])) _
    refine st12 _ ?_
    show Steps p.tables e below (T12.setTop (mkF m 26 #[.val (.ref a1), .val (.ref a2)] [])) _
    refine XS.aloadN X12.here hx rfl (hb hby d6_26) rfl rfl ?_
    show Steps p.tables e below (T12.setTop (mkF m 27 #[.val (.ref a1), .val (.ref a2)] [(.ref a1)])) _
    refine XS.dup X12.here hx rfl (hb hby d6_27) rfl rfl ?_
    show Steps p.tables e below (T12.setTop (mkF m 28 #[.val (.ref a1), .val (.ref a2)] [(.ref a1), (.ref a1)])) _
    refine st14 _ ?_
    show Steps p.tables e below (T14.setTop (mkF m 31 #[.val (.ref a1), .val (.ref a2)] [(.long w13), (.ref a1)])) _
    refine XS.aloadN X14.here hx rfl (hb hby d6_31) rfl rfl ?_
    show Steps p.tables e below (T14.setTop (mkF m 32 #[.val (.ref a1), .val (.ref a2)] [(.ref a2), (.long w13), (.ref a1)])) _
    refine st16 _ ?_
    show Steps p.tables e below (T16.setTop (mkF m 35 #[.val (.ref a1), .val (.ref a2)] [(.long w15), (.long w13), (.ref a1)])) _
    refine XS.ladd X16.here hx rfl (hb hby d6_35) rfl ?_
    show Steps p.tables e below (T16.setTop (mkF m 36 #[.val (.ref a1), .val (.ref a2)] [(.long (w13 + w15)), (.ref a1)])) _
    refine st17 _ ?_
    show Steps p.tables e below (T17.setTop (mkF m 39 #[.val (.ref a1), .val (.ref a2)] [])) _
    refine XS.aloadN X17.here hx rfl (hb hby d6_39) rfl rfl ?_
    show Steps p.tables e below (T17.setTop (mkF m 40 #[.val (.ref a1), .val (.ref a2)] [(.ref a1)])) _
    refine XS.dup X17.here hx rfl (hb hby d6_40) rfl rfl ?_
    show Steps p.tables e below (T17.setTop (mkF m 41 #[.val (.ref a1), .val (.ref a2)] [(.ref a1), (.ref a1)])) _
    refine st19 _ ?_
    show Steps p.tables e below (T19.setTop (mkF m 44 #[.val (.ref a1), .val (.ref a2)] [(.long w18), (.ref a1)])) _
    refine XS.aloadN X19.here hx rfl (hb hby d6_44) rfl rfl ?_
    show Steps p.tables e below (T19.setTop (mkF m 45 #[.val (.ref a1), .val (.ref a2)] [(.ref a2), (.long w18), (.ref a1)])) _
    refine st21 _ ?_
    show Steps p.tables e below (T21.setTop (mkF m 48 #[.val (.ref a1), .val (.ref a2)] [(.long w20), (.long w18), (.ref a1)])) _
    refine XS.lor X21.here hx rfl (hb hby d6_48) rfl ?_
    show Steps p.tables e below (T21.setTop (mkF m 49 #[.val (.ref a1), .val (.ref a2)] [(.long (w18 ||| w20)), (.ref a1)])) _
    refine st22 _ ?_
    show Steps p.tables e below (T22.setTop (mkF m 52 #[.val (.ref a1), .val (.ref a2)] [])) _
    refine XS.aloadN X22.here hx rfl (hb hby d6_52) rfl rfl ?_
    show Steps p.tables e below (T22.setTop (mkF m 53 #[.val (.ref a1), .val (.ref a2)] [(.ref a1)])) _
    refine XS.dup X22.here hx rfl (hb hby d6_53) rfl rfl ?_
    show Steps p.tables e below (T22.setTop (mkF m 54 #[.val (.ref a1), .val (.ref a2)] [(.ref a1), (.ref a1)])) _
    refine st24 _ ?_
    show Steps p.tables e below (T24.setTop (mkF m 57 #[.val (.ref a1), .val (.ref a2)] [(.long w23), (.ref a1)])) _
    refine XS.aloadN X24.here hx rfl (hb hby d6_57) rfl rfl ?_
    show Steps p.tables e below (T24.setTop (mkF m 58 #[.val (.ref a1), .val (.ref a2)] [(.ref a2), (.long w23), (.ref a1)])) _
    refine st26 _ ?_
    show Steps p.tables e below (T26.setTop (mkF m 61 #[.val (.ref a1), .val (.ref a2)] [(.long w25), (.long w23), (.ref a1)])) _
    refine XS.lor X26.here hx rfl (hb hby d6_61) rfl ?_
    show Steps p.tables e below (T26.setTop (mkF m 62 #[.val (.ref a1), .val (.ref a2)] [(.long (w23 ||| w25)), (.ref a1)])) _
    refine st27 _ ?_
    show Steps p.tables e below (T27.setTop (mkF m 65 #[.val (.ref a1), .val (.ref a2)] [])) _
    exact X27.returnOut hx Bd.returns (hb hby d6_65) hr
  · show Q6 Z a1 a2 w3 w5 w8 w10 w13 w15 w18 w20 w23 w25 h0 n0 _ T27.heap _
    rw [e27]
    exact ⟨rfl, N27, K27, (((((E_a1.wr W7).wr W12).wr W17).wr W22).wr W27), ((((Fw7.other W12 (Or.inr (slot_ne (Or.inl (hw _ (List.mem_of_getElem? (i := 15) rfl))) (Or.inl (hw _ (List.mem_of_getElem? (i := 17) rfl))) (by decide) (t := .long) (t' := .long) (by decide) (by decide)))).other W17 (Or.inr (slot_ne (Or.inl (hw _ (List.mem_of_getElem? (i := 15) rfl))) (Or.inl (hw _ (List.mem_of_getElem? (i := 19) rfl))) (by decide) (t := .long) (t' := .long) (by decide) (by decide)))).other W22 (Or.inr (slot_ne (Or.inl (hw _ (List.mem_of_getElem? (i := 15) rfl))) (Or.inl (hw _ (List.mem_of_getElem? (i := 21) rfl))) (by decide) (t := .long) (t' := .long) (by decide) (by decide)))).other W27 (Or.inr (slot_ne (Or.inl (hw _ (List.mem_of_getElem? (i := 15) rfl))) (Or.inl (hw _ (List.mem_of_getElem? (i := 26) rfl))) (by decide) (t := .long) (t' := .long) (by decide) (by decide)))), (((Fw12.other W17 (Or.inr (slot_ne (Or.inl (hw _ (List.mem_of_getElem? (i := 17) rfl))) (Or.inl (hw _ (List.mem_of_getElem? (i := 19) rfl))) (by decide) (t := .long) (t' := .long) (by decide) (by decide)))).other W22 (Or.inr (slot_ne (Or.inl (hw _ (List.mem_of_getElem? (i := 17) rfl))) (Or.inl (hw _ (List.mem_of_getElem? (i := 21) rfl))) (by decide) (t := .long) (t' := .long) (by decide) (by decide)))).other W27 (Or.inr (slot_ne (Or.inl (hw _ (List.mem_of_getElem? (i := 17) rfl))) (Or.inl (hw _ (List.mem_of_getElem? (i := 26) rfl))) (by decide) (t := .long) (t' := .long) (by decide) (by decide)))), ((Fw17.other W22 (Or.inr (slot_ne (Or.inl (hw _ (List.mem_of_getElem? (i := 19) rfl))) (Or.inl (hw _ (List.mem_of_getElem? (i := 21) rfl))) (by decide) (t := .long) (t' := .long) (by decide) (by decide)))).other W27 (Or.inr (slot_ne (Or.inl (hw _ (List.mem_of_getElem? (i := 19) rfl))) (Or.inl (hw _ (List.mem_of_getElem? (i := 26) rfl))) (by decide) (t := .long) (t' := .long) (by decide) (by decide)))), (Fw22.other W27 (Or.inr (slot_ne (Or.inl (hw _ (List.mem_of_getElem? (i := 21) rfl))) (Or.inl (hw _ (List.mem_of_getElem? (i := 26) rfl))) (by decide) (t := .long) (t' := .long) (by decide) (by decide)))), Fw27⟩
theorem d7_0 : decode prog_86_method_8_code 0 = .ok (.aload_n 0, 1) := by decide +kernel
theorem d7_1 : decode prog_86_method_8_code 1 = .ok (.getfield 39, 3) := by decide +kernel
theorem d7_4 : decode prog_86_method_8_code 4 = .ok (.lreturn, 1) := by decide +kernel
theorem pn_7 : plainName "com/example/transmute/transmute/MeasuredText" = true := by first | (simp [plainName, overriddenIn]; done) | decide +kernel
theorem ef_7 (m : MethodId) (x0 : Addr) : entryFrame m #[(.ref x0)] 1 = mkF m 0 #[.val (.ref x0)] [] := by first | (simp [entryFrame, mkF, argsToLocals, Value.category]; done) | rfl
def Q7 (Z : State) (a1 : Addr) (w2 : Int64) (h0 : Heap) (n0 : Nat) (v : Option Value) (h : Heap) (L : List Loc) : Prop := v = some (.long w2) ∧ Fr n0 L ∧ h = h0
set_option maxRecDepth 65536 in
set_option maxHeartbeats 40000000 in
theorem rm7 (l : Launch) (Z : State) (a0 : Array Value) (hw : ∀ d ∈ tables_1, d.before a0 Z = true) (ws : List Jvm.Cond) (a1 : Addr) (w2 : Int64) (h0 : Heap) (n0 : Nat) (Z0 : n0 ≤ h0.size) (F_m_nLength_a1 : Fld Z h0 a1 "com/example/transmute/transmute/MeasuredText" "m_nLength" "J" (.long w2)) :
    MetFree l (⟨"com/example/transmute/transmute/MeasuredText", "length", "()J"⟩ : MethodName) (head1 (Jvm.Cond.code (⟨"com/example/transmute/transmute/MeasuredText", "length", "()J"⟩ : MethodName) prog_86_method_8_code 1 (some .long) :: ws) ({ frames := 0, cells := 0, slots := 0, locals := 0 } : Room)) (fun a U => a = #[(.ref a1)] ∧ Z.Warmed39 U.vm ∧ U.heap = h0) (fun _ _ _ _ _ => True) (fun _ U o U' => ∃ v L, o = .returned v ∧ Q7 Z a1 w2 h0 n0 v U'.heap L ∧ FrameEnd U o U' L ({ frames := 0, cells := 0, slots := 0, locals := 0 } : Room).cells ({ frames := 0, cells := 0, slots := 0, locals := 0 } : Room).slots) := by
  refine MetFree.of_bodySF (plainFor_of_name pn_7) hisR ?_
  intro p e s m args below meth c s₁ Bd hml0 hP hK
  obtain ⟨rfl, hZ, hh⟩ := hP
  have hx := Bd.exec
  have hby := Bd.bytes
  have hml : c.maxLocals = 1 := hml0
  have hown : s.vm.findClass "com/example/transmute/transmute/MeasuredText" = some m.cls := findClass_of_methodNamed Bd.named
  have hnm := (name_of_methodNamed Bd.named Bd.method).1
  have X0 : Stand p l e ({ frames := 0, cells := 0, slots := 0, locals := 0 } : Room) s m #[(.ref a1)] below meth c s₁ [] 0 0 := Stand.of_body Bd
  have e0 : s₁.heap = h0 := by rw [← hh, Bd.state]; rfl
  have N0 := Fr.nil n0
  have pre0 : ∀ t, Steps p.tables e below (s₁.setTop (mkF m 0 #[.val (.ref a1)] [])) t → Steps p.tables e below (s₁.setTop (entryFrame m #[(.ref a1)] 1)) t := fun t k => castTop (ef_7 m a1) k
  obtain ⟨T3, X3, e3, st3⟩ := getF X0 hx hZ hown (host := "") (Or.inl (hw _ (List.mem_of_getElem? (i := 14) rfl))) Via.refl e0 F_m_nLength_a1 (g := (mkF m 1 #[.val (.ref a1)] [(.ref a1)])) rfl rfl (hb hby d7_1)
  obtain ⟨fs, hr, hrun, hended, hW, hsame⟩ := X3.leave (v := some (.long w2)) (fun h => by rw [Bd.returns] at h; cases h)
  refine ⟨_, _, pre0 _ ?_, hrun, hended, _, _, rfl, ?_, ⟨_, rfl⟩, hW, hsame.mono (by decide) (by decide)⟩
  · show Steps p.tables e below (s₁.setTop (mkF m 0 #[.val (.ref a1)] [])) _
    refine XS.aloadN X0.here hx rfl (hb hby d7_0) rfl rfl ?_
    show Steps p.tables e below (s₁.setTop (mkF m 1 #[.val (.ref a1)] [(.ref a1)])) _
    refine st3 _ ?_
    show Steps p.tables e below (T3.setTop (mkF m 4 #[.val (.ref a1)] [(.long w2)])) _
    jvm_step X3.here [X3.here.top, hx, (hb hby d7_4), X3.method', Bd.returns, narrow]
    first | (intro acts; rw [hr _ acts rfl rfl rfl]) | rw [hr _ _ rfl rfl rfl]
    exact Steps.refl _
  · show Q7 Z a1 w2 h0 n0 _ T3.heap _
    rw [e3]
    exact ⟨rfl, N0, rfl⟩
theorem d8_0 : decode prog_86_method_9_code 0 = .ok (.aload_n 0, 1) := by decide +kernel
theorem d8_1 : decode prog_86_method_9_code 1 = .ok (.getfield 43, 3) := by decide +kernel
theorem d8_4 : decode prog_86_method_9_code 4 = .ok (.lreturn, 1) := by decide +kernel
theorem pn_8 : plainName "com/example/transmute/transmute/MeasuredText" = true := by first | (simp [plainName, overriddenIn]; done) | decide +kernel
theorem ef_8 (m : MethodId) (x0 : Addr) : entryFrame m #[(.ref x0)] 1 = mkF m 0 #[.val (.ref x0)] [] := by first | (simp [entryFrame, mkF, argsToLocals, Value.category]; done) | rfl
def Q8 (Z : State) (a1 : Addr) (w2 : Int64) (h0 : Heap) (n0 : Nat) (v : Option Value) (h : Heap) (L : List Loc) : Prop := v = some (.long w2) ∧ Fr n0 L ∧ h = h0
set_option maxRecDepth 65536 in
set_option maxHeartbeats 40000000 in
theorem rm8 (l : Launch) (Z : State) (a0 : Array Value) (hw : ∀ d ∈ tables_1, d.before a0 Z = true) (ws : List Jvm.Cond) (a1 : Addr) (w2 : Int64) (h0 : Heap) (n0 : Nat) (Z0 : n0 ≤ h0.size) (F_m_nQuotes_a1 : Fld Z h0 a1 "com/example/transmute/transmute/MeasuredText" "m_nQuotes" "J" (.long w2)) :
    MetFree l (⟨"com/example/transmute/transmute/MeasuredText", "quotes", "()J"⟩ : MethodName) (head1 (Jvm.Cond.code (⟨"com/example/transmute/transmute/MeasuredText", "quotes", "()J"⟩ : MethodName) prog_86_method_9_code 1 (some .long) :: ws) ({ frames := 0, cells := 0, slots := 0, locals := 0 } : Room)) (fun a U => a = #[(.ref a1)] ∧ Z.Warmed39 U.vm ∧ U.heap = h0) (fun _ _ _ _ _ => True) (fun _ U o U' => ∃ v L, o = .returned v ∧ Q8 Z a1 w2 h0 n0 v U'.heap L ∧ FrameEnd U o U' L ({ frames := 0, cells := 0, slots := 0, locals := 0 } : Room).cells ({ frames := 0, cells := 0, slots := 0, locals := 0 } : Room).slots) := by
  refine MetFree.of_bodySF (plainFor_of_name pn_8) hisR ?_
  intro p e s m args below meth c s₁ Bd hml0 hP hK
  obtain ⟨rfl, hZ, hh⟩ := hP
  have hx := Bd.exec
  have hby := Bd.bytes
  have hml : c.maxLocals = 1 := hml0
  have hown : s.vm.findClass "com/example/transmute/transmute/MeasuredText" = some m.cls := findClass_of_methodNamed Bd.named
  have hnm := (name_of_methodNamed Bd.named Bd.method).1
  have X0 : Stand p l e ({ frames := 0, cells := 0, slots := 0, locals := 0 } : Room) s m #[(.ref a1)] below meth c s₁ [] 0 0 := Stand.of_body Bd
  have e0 : s₁.heap = h0 := by rw [← hh, Bd.state]; rfl
  have N0 := Fr.nil n0
  have pre0 : ∀ t, Steps p.tables e below (s₁.setTop (mkF m 0 #[.val (.ref a1)] [])) t → Steps p.tables e below (s₁.setTop (entryFrame m #[(.ref a1)] 1)) t := fun t k => castTop (ef_8 m a1) k
  obtain ⟨T3, X3, e3, st3⟩ := getF X0 hx hZ hown (host := "") (Or.inl (hw _ (List.mem_of_getElem? (i := 16) rfl))) Via.refl e0 F_m_nQuotes_a1 (g := (mkF m 1 #[.val (.ref a1)] [(.ref a1)])) rfl rfl (hb hby d8_1)
  obtain ⟨fs, hr, hrun, hended, hW, hsame⟩ := X3.leave (v := some (.long w2)) (fun h => by rw [Bd.returns] at h; cases h)
  refine ⟨_, _, pre0 _ ?_, hrun, hended, _, _, rfl, ?_, ⟨_, rfl⟩, hW, hsame.mono (by decide) (by decide)⟩
  · show Steps p.tables e below (s₁.setTop (mkF m 0 #[.val (.ref a1)] [])) _
    refine XS.aloadN X0.here hx rfl (hb hby d8_0) rfl rfl ?_
    show Steps p.tables e below (s₁.setTop (mkF m 1 #[.val (.ref a1)] [(.ref a1)])) _
    refine st3 _ ?_
    show Steps p.tables e below (T3.setTop (mkF m 4 #[.val (.ref a1)] [(.long w2)])) _
    jvm_step X3.here [X3.here.top, hx, (hb hby d8_4), X3.method', Bd.returns, narrow]
    first | (intro acts; rw [hr _ acts rfl rfl rfl]) | rw [hr _ _ rfl rfl rfl]
    exact Steps.refl _
  · show Q8 Z a1 w2 h0 n0 _ T3.heap _
    rw [e3]
    exact ⟨rfl, N0, rfl⟩
theorem d9_0 : decode prog_86_method_10_code 0 = .ok (.aload_n 0, 1) := by decide +kernel
theorem d9_1 : decode prog_86_method_10_code 1 = .ok (.getfield 46, 3) := by decide +kernel
theorem d9_4 : decode prog_86_method_10_code 4 = .ok (.lreturn, 1) := by decide +kernel
theorem pn_9 : plainName "com/example/transmute/transmute/MeasuredText" = true := by first | (simp [plainName, overriddenIn]; done) | decide +kernel
theorem ef_9 (m : MethodId) (x0 : Addr) : entryFrame m #[(.ref x0)] 1 = mkF m 0 #[.val (.ref x0)] [] := by first | (simp [entryFrame, mkF, argsToLocals, Value.category]; done) | rfl
def Q9 (Z : State) (a1 : Addr) (w2 : Int64) (h0 : Heap) (n0 : Nat) (v : Option Value) (h : Heap) (L : List Loc) : Prop := v = some (.long w2) ∧ Fr n0 L ∧ h = h0
set_option maxRecDepth 65536 in
set_option maxHeartbeats 40000000 in
theorem rm9 (l : Launch) (Z : State) (a0 : Array Value) (hw : ∀ d ∈ tables_1, d.before a0 Z = true) (ws : List Jvm.Cond) (a1 : Addr) (w2 : Int64) (h0 : Heap) (n0 : Nat) (Z0 : n0 ≤ h0.size) (F_m_nBackslashes_a1 : Fld Z h0 a1 "com/example/transmute/transmute/MeasuredText" "m_nBackslashes" "J" (.long w2)) :
    MetFree l (⟨"com/example/transmute/transmute/MeasuredText", "backslashes", "()J"⟩ : MethodName) (head1 (Jvm.Cond.code (⟨"com/example/transmute/transmute/MeasuredText", "backslashes", "()J"⟩ : MethodName) prog_86_method_10_code 1 (some .long) :: ws) ({ frames := 0, cells := 0, slots := 0, locals := 0 } : Room)) (fun a U => a = #[(.ref a1)] ∧ Z.Warmed39 U.vm ∧ U.heap = h0) (fun _ _ _ _ _ => True) (fun _ U o U' => ∃ v L, o = .returned v ∧ Q9 Z a1 w2 h0 n0 v U'.heap L ∧ FrameEnd U o U' L ({ frames := 0, cells := 0, slots := 0, locals := 0 } : Room).cells ({ frames := 0, cells := 0, slots := 0, locals := 0 } : Room).slots) := by
  refine MetFree.of_bodySF (plainFor_of_name pn_9) hisR ?_
  intro p e s m args below meth c s₁ Bd hml0 hP hK
  obtain ⟨rfl, hZ, hh⟩ := hP
  have hx := Bd.exec
  have hby := Bd.bytes
  have hml : c.maxLocals = 1 := hml0
  have hown : s.vm.findClass "com/example/transmute/transmute/MeasuredText" = some m.cls := findClass_of_methodNamed Bd.named
  have hnm := (name_of_methodNamed Bd.named Bd.method).1
  have X0 : Stand p l e ({ frames := 0, cells := 0, slots := 0, locals := 0 } : Room) s m #[(.ref a1)] below meth c s₁ [] 0 0 := Stand.of_body Bd
  have e0 : s₁.heap = h0 := by rw [← hh, Bd.state]; rfl
  have N0 := Fr.nil n0
  have pre0 : ∀ t, Steps p.tables e below (s₁.setTop (mkF m 0 #[.val (.ref a1)] [])) t → Steps p.tables e below (s₁.setTop (entryFrame m #[(.ref a1)] 1)) t := fun t k => castTop (ef_9 m a1) k
  obtain ⟨T3, X3, e3, st3⟩ := getF X0 hx hZ hown (host := "") (Or.inl (hw _ (List.mem_of_getElem? (i := 18) rfl))) Via.refl e0 F_m_nBackslashes_a1 (g := (mkF m 1 #[.val (.ref a1)] [(.ref a1)])) rfl rfl (hb hby d9_1)
  obtain ⟨fs, hr, hrun, hended, hW, hsame⟩ := X3.leave (v := some (.long w2)) (fun h => by rw [Bd.returns] at h; cases h)
  refine ⟨_, _, pre0 _ ?_, hrun, hended, _, _, rfl, ?_, ⟨_, rfl⟩, hW, hsame.mono (by decide) (by decide)⟩
  · show Steps p.tables e below (s₁.setTop (mkF m 0 #[.val (.ref a1)] [])) _
    refine XS.aloadN X0.here hx rfl (hb hby d9_0) rfl rfl ?_
    show Steps p.tables e below (s₁.setTop (mkF m 1 #[.val (.ref a1)] [(.ref a1)])) _
    refine st3 _ ?_
    show Steps p.tables e below (T3.setTop (mkF m 4 #[.val (.ref a1)] [(.long w2)])) _
    jvm_step X3.here [X3.here.top, hx, (hb hby d9_4), X3.method', Bd.returns, narrow]
    first | (intro acts; rw [hr _ acts rfl rfl rfl]) | rw [hr _ _ rfl rfl rfl]
    exact Steps.refl _
  · show Q9 Z a1 w2 h0 n0 _ T3.heap _
    rw [e3]
    exact ⟨rfl, N0, rfl⟩
theorem d10_0 : decode prog_86_method_11_code 0 = .ok (.aload_n 0, 1) := by decide +kernel
theorem d10_1 : decode prog_86_method_11_code 1 = .ok (.getfield 49, 3) := by decide +kernel
theorem d10_4 : decode prog_86_method_11_code 4 = .ok (.aload_n 1, 1) := by decide +kernel
theorem d10_5 : decode prog_86_method_11_code 5 = .ok (.getfield 49, 3) := by decide +kernel
theorem d10_8 : decode prog_86_method_11_code 8 = .ok (.land, 1) := by decide +kernel
theorem d10_9 : decode prog_86_method_11_code 9 = .ok (.aload_n 0, 1) := by decide +kernel
theorem d10_10 : decode prog_86_method_11_code 10 = .ok (.getfield 52, 3) := by decide +kernel
theorem d10_13 : decode prog_86_method_11_code 13 = .ok (.aload_n 1, 1) := by decide +kernel
theorem d10_14 : decode prog_86_method_11_code 14 = .ok (.getfield 52, 3) := by decide +kernel
theorem d10_17 : decode prog_86_method_11_code 17 = .ok (.land, 1) := by decide +kernel
theorem d10_18 : decode prog_86_method_11_code 18 = .ok (.lor, 1) := by decide +kernel
theorem d10_19 : decode prog_86_method_11_code 19 = .ok (.lconst 0, 1) := by decide +kernel
theorem d10_20 : decode prog_86_method_11_code 20 = .ok (.lcmp, 1) := by decide +kernel
theorem d10_21 : decode prog_86_method_11_code 21 = .ok (.ifCond .eq 7, 3) := by decide +kernel
theorem d10_28 : decode prog_86_method_11_code 28 = .ok (.iconst 0, 1) := by decide +kernel
theorem d10_29 : decode prog_86_method_11_code 29 = .ok (.ireturn, 1) := by decide +kernel
theorem pn_10 : plainName "com/example/transmute/transmute/MeasuredText" = true := by first | (simp [plainName, overriddenIn]; done) | decide +kernel
theorem ef_10 (m : MethodId) (x0 : Addr) (x1 : Addr) : entryFrame m #[(.ref x0), (.ref x1)] 2 = mkF m 0 #[.val (.ref x0), .val (.ref x1)] [] := by first | (simp [entryFrame, mkF, argsToLocals, Value.category]; done) | rfl
theorem d10_24 : decode prog_86_method_11_code 24 = .ok (.iconst 1, 1) := by decide +kernel
theorem d10_25 : decode prog_86_method_11_code 25 = .ok (.goto 4, 3) := by decide +kernel
def Q10 (Z : State) (a1 : Addr) (a2 : Addr) (w3 : Int64) (w5 : Int64) (w7 : Int64) (w9 : Int64) (h0 : Heap) (n0 : Nat) (v : Option Value) (h : Heap) (L : List Loc) : Prop := v = some (.int (own_any w3 w5 w7 w9)) ∧ Fr n0 L ∧ h = h0
set_option maxRecDepth 65536 in
set_option maxHeartbeats 40000000 in
theorem rm10_t (l : Launch) (Z : State) (a0 : Array Value) (hw : ∀ d ∈ tables_1, d.before a0 Z = true) (ws : List Jvm.Cond) (a1 : Addr) (a2 : Addr) (w3 : Int64) (w5 : Int64) (w7 : Int64) (w9 : Int64) (h0 : Heap) (n0 : Nat) (Z0 : n0 ≤ h0.size) (F_m_nLowChars_a1 : Fld Z h0 a1 "com/example/transmute/transmute/MeasuredText" "m_nLowChars" "J" (.long w3)) (F_m_nLowChars_a2 : Fld Z h0 a2 "com/example/transmute/transmute/MeasuredText" "m_nLowChars" "J" (.long w5)) (F_m_nHighChars_a1 : Fld Z h0 a1 "com/example/transmute/transmute/MeasuredText" "m_nHighChars" "J" (.long w7)) (F_m_nHighChars_a2 : Fld Z h0 a2 "com/example/transmute/transmute/MeasuredText" "m_nHighChars" "J" (.long w9)) (hc21 : (lcmpW ((w3 &&& w5) ||| (w7 &&& w9)) (0 : Int64)) = (0 : Int32)) :
    MetFree l (⟨"com/example/transmute/transmute/MeasuredText", "holdsAnyOf", "(Lcom/example/transmute/transmute/MeasuredText;)Z"⟩ : MethodName) (head1 (Jvm.Cond.code (⟨"com/example/transmute/transmute/MeasuredText", "holdsAnyOf", "(Lcom/example/transmute/transmute/MeasuredText;)Z"⟩ : MethodName) prog_86_method_11_code 2 (some .boolean) :: ws) ({ frames := 0, cells := 0, slots := 0, locals := 0 } : Room)) (fun a U => a = #[(.ref a1), (.ref a2)] ∧ Z.Warmed39 U.vm ∧ U.heap = h0) (fun _ _ _ _ _ => True) (fun _ U o U' => ∃ v L, o = .returned v ∧ Q10 Z a1 a2 w3 w5 w7 w9 h0 n0 v U'.heap L ∧ FrameEnd U o U' L ({ frames := 0, cells := 0, slots := 0, locals := 0 } : Room).cells ({ frames := 0, cells := 0, slots := 0, locals := 0 } : Room).slots) := by
  refine MetFree.of_bodySF (plainFor_of_name pn_10) hisR ?_
  intro p e s m args below meth c s₁ Bd hml0 hP hK
  obtain ⟨rfl, hZ, hh⟩ := hP
  have hx := Bd.exec
  have hby := Bd.bytes
  have hml : c.maxLocals = 2 := hml0
  have hown : s.vm.findClass "com/example/transmute/transmute/MeasuredText" = some m.cls := findClass_of_methodNamed Bd.named
  have hnm := (name_of_methodNamed Bd.named Bd.method).1
  have X0 : Stand p l e ({ frames := 0, cells := 0, slots := 0, locals := 0 } : Room) s m #[(.ref a1), (.ref a2)] below meth c s₁ [] 0 0 := Stand.of_body Bd
  have e0 : s₁.heap = h0 := by rw [← hh, Bd.state]; rfl
  have N0 := Fr.nil n0
  have pre0 : ∀ t, Steps p.tables e below (s₁.setTop (mkF m 0 #[.val (.ref a1), .val (.ref a2)] [])) t → Steps p.tables e below (s₁.setTop (entryFrame m #[(.ref a1), (.ref a2)] 2)) t := fun t k => castTop (ef_10 m a1 a2) k
  obtain ⟨T4, X4, e4, st4⟩ := getF X0 hx hZ hown (host := "") (Or.inl (hw _ (List.mem_of_getElem? (i := 20) rfl))) Via.refl e0 F_m_nLowChars_a1 (g := (mkF m 1 #[.val (.ref a1), .val (.ref a2)] [(.ref a1)])) rfl rfl (hb hby d10_1)
  obtain ⟨T6, X6, e6, st6⟩ := getF X4 hx hZ hown (host := "") (Or.inl (hw _ (List.mem_of_getElem? (i := 20) rfl))) Via.refl e4 F_m_nLowChars_a2 (g := (mkF m 5 #[.val (.ref a1), .val (.ref a2)] [(.ref a2), (.long w3)])) rfl rfl (hb hby d10_5)
  obtain ⟨T8, X8, e8, st8⟩ := getF X6 hx hZ hown (host := "") (Or.inl (hw _ (List.mem_of_getElem? (i := 25) rfl))) Via.refl e6 F_m_nHighChars_a1 (g := (mkF m 10 #[.val (.ref a1), .val (.ref a2)] [(.ref a1), (.long (w3 &&& w5))])) rfl rfl (hb hby d10_10)
  obtain ⟨T10, X10, e10, st10⟩ := getF X8 hx hZ hown (host := "") (Or.inl (hw _ (List.mem_of_getElem? (i := 25) rfl))) Via.refl e8 F_m_nHighChars_a2 (g := (mkF m 14 #[.val (.ref a1), .val (.ref a2)] [(.ref a2), (.long w7), (.long (w3 &&& w5))])) rfl rfl (hb hby d10_14)
  obtain ⟨fs, hr, hrun, hended, hW, hsame⟩ := X10.leave (v := some (.int (0 : Int32))) (fun h => by rw [Bd.returns] at h; cases h)
  refine ⟨_, _, pre0 _ ?_, hrun, hended, _, _, rfl, ?_, ⟨_, rfl⟩, hW, hsame.mono (by decide) (by decide)⟩
  · show Steps p.tables e below (s₁.setTop (mkF m 0 #[.val (.ref a1), .val (.ref a2)] [])) _
    refine XS.aloadN X0.here hx rfl (hb hby d10_0) rfl rfl ?_
    show Steps p.tables e below (s₁.setTop (mkF m 1 #[.val (.ref a1), .val (.ref a2)] [(.ref a1)])) _
    refine st4 _ ?_
    show Steps p.tables e below (T4.setTop (mkF m 4 #[.val (.ref a1), .val (.ref a2)] [(.long w3)])) _
    refine XS.aloadN X4.here hx rfl (hb hby d10_4) rfl rfl ?_
    show Steps p.tables e below (T4.setTop (mkF m 5 #[.val (.ref a1), .val (.ref a2)] [(.ref a2), (.long w3)])) _
    refine st6 _ ?_
    show Steps p.tables e below (T6.setTop (mkF m 8 #[.val (.ref a1), .val (.ref a2)] [(.long w5), (.long w3)])) _
    refine XS.land X6.here hx rfl (hb hby d10_8) rfl ?_
    show Steps p.tables e below (T6.setTop (mkF m 9 #[.val (.ref a1), .val (.ref a2)] [(.long (w3 &&& w5))])) _
    refine XS.aloadN X6.here hx rfl (hb hby d10_9) rfl rfl ?_
    show Steps p.tables e below (T6.setTop (mkF m 10 #[.val (.ref a1), .val (.ref a2)] [(.ref a1), (.long (w3 &&& w5))])) _
    refine st8 _ ?_
    show Steps p.tables e below (T8.setTop (mkF m 13 #[.val (.ref a1), .val (.ref a2)] [(.long w7), (.long (w3 &&& w5))])) _
    refine XS.aloadN X8.here hx rfl (hb hby d10_13) rfl rfl ?_
    show Steps p.tables e below (T8.setTop (mkF m 14 #[.val (.ref a1), .val (.ref a2)] [(.ref a2), (.long w7), (.long (w3 &&& w5))])) _
    refine st10 _ ?_
    show Steps p.tables e below (T10.setTop (mkF m 17 #[.val (.ref a1), .val (.ref a2)] [(.long w9), (.long w7), (.long (w3 &&& w5))])) _
    refine XS.land X10.here hx rfl (hb hby d10_17) rfl ?_
    show Steps p.tables e below (T10.setTop (mkF m 18 #[.val (.ref a1), .val (.ref a2)] [(.long (w7 &&& w9)), (.long (w3 &&& w5))])) _
    refine XS.lor X10.here hx rfl (hb hby d10_18) rfl ?_
    show Steps p.tables e below (T10.setTop (mkF m 19 #[.val (.ref a1), .val (.ref a2)] [(.long ((w3 &&& w5) ||| (w7 &&& w9)))])) _
    refine XS.lconst X10.here hx rfl (hb hby d10_19) ?_
    show Steps p.tables e below (T10.setTop (mkF m 20 #[.val (.ref a1), .val (.ref a2)] [(.long (0 : Int64)), (.long ((w3 &&& w5) ||| (w7 &&& w9)))])) _
    refine XS.lcmp X10.here hx rfl (hb hby d10_20) rfl ?_
    show Steps p.tables e below (T10.setTop (mkF m 21 #[.val (.ref a1), .val (.ref a2)] [(.int (lcmpW ((w3 &&& w5) ||| (w7 &&& w9)) (0 : Int64)))])) _
    refine XS.ifYes X10.here hx rfl (pc0 := 21) (pc' := 28) rfl (hb hby d10_21) rfl ((if0 _ _).trans (teq hc21).1) (by decide) (by decide) ?_
    show Steps p.tables e below (T10.setTop (mkF m 28 #[.val (.ref a1), .val (.ref a2)] [])) _
    refine XS.iconst X10.here hx rfl (hb hby d10_28) ?_
    show Steps p.tables e below (T10.setTop (mkF m 29 #[.val (.ref a1), .val (.ref a2)] [(.int (0 : Int32))])) _
    exact retN X10 hx (t := .boolean) Bd.returns (by simp) (hb hby d10_29) hr
  · show Q10 Z a1 a2 w3 w5 w7 w9 h0 n0 _ T10.heap _
    rw [e10]
    exact ⟨congrArg (fun z => some (Value.int z)) (if_pos hc21).symm, N0, rfl⟩
set_option maxRecDepth 65536 in
set_option maxHeartbeats 40000000 in
theorem rm10_f (l : Launch) (Z : State) (a0 : Array Value) (hw : ∀ d ∈ tables_1, d.before a0 Z = true) (ws : List Jvm.Cond) (a1 : Addr) (a2 : Addr) (w3 : Int64) (w5 : Int64) (w7 : Int64) (w9 : Int64) (h0 : Heap) (n0 : Nat) (Z0 : n0 ≤ h0.size) (F_m_nLowChars_a1 : Fld Z h0 a1 "com/example/transmute/transmute/MeasuredText" "m_nLowChars" "J" (.long w3)) (F_m_nLowChars_a2 : Fld Z h0 a2 "com/example/transmute/transmute/MeasuredText" "m_nLowChars" "J" (.long w5)) (F_m_nHighChars_a1 : Fld Z h0 a1 "com/example/transmute/transmute/MeasuredText" "m_nHighChars" "J" (.long w7)) (F_m_nHighChars_a2 : Fld Z h0 a2 "com/example/transmute/transmute/MeasuredText" "m_nHighChars" "J" (.long w9)) (hc21 : ¬ ((lcmpW ((w3 &&& w5) ||| (w7 &&& w9)) (0 : Int64)) = (0 : Int32))) :
    MetFree l (⟨"com/example/transmute/transmute/MeasuredText", "holdsAnyOf", "(Lcom/example/transmute/transmute/MeasuredText;)Z"⟩ : MethodName) (head1 (Jvm.Cond.code (⟨"com/example/transmute/transmute/MeasuredText", "holdsAnyOf", "(Lcom/example/transmute/transmute/MeasuredText;)Z"⟩ : MethodName) prog_86_method_11_code 2 (some .boolean) :: ws) ({ frames := 0, cells := 0, slots := 0, locals := 0 } : Room)) (fun a U => a = #[(.ref a1), (.ref a2)] ∧ Z.Warmed39 U.vm ∧ U.heap = h0) (fun _ _ _ _ _ => True) (fun _ U o U' => ∃ v L, o = .returned v ∧ Q10 Z a1 a2 w3 w5 w7 w9 h0 n0 v U'.heap L ∧ FrameEnd U o U' L ({ frames := 0, cells := 0, slots := 0, locals := 0 } : Room).cells ({ frames := 0, cells := 0, slots := 0, locals := 0 } : Room).slots) := by
  refine MetFree.of_bodySF (plainFor_of_name pn_10) hisR ?_
  intro p e s m args below meth c s₁ Bd hml0 hP hK
  obtain ⟨rfl, hZ, hh⟩ := hP
  have hx := Bd.exec
  have hby := Bd.bytes
  have hml : c.maxLocals = 2 := hml0
  have hown : s.vm.findClass "com/example/transmute/transmute/MeasuredText" = some m.cls := findClass_of_methodNamed Bd.named
  have hnm := (name_of_methodNamed Bd.named Bd.method).1
  have X0 : Stand p l e ({ frames := 0, cells := 0, slots := 0, locals := 0 } : Room) s m #[(.ref a1), (.ref a2)] below meth c s₁ [] 0 0 := Stand.of_body Bd
  have e0 : s₁.heap = h0 := by rw [← hh, Bd.state]; rfl
  have N0 := Fr.nil n0
  have pre0 : ∀ t, Steps p.tables e below (s₁.setTop (mkF m 0 #[.val (.ref a1), .val (.ref a2)] [])) t → Steps p.tables e below (s₁.setTop (entryFrame m #[(.ref a1), (.ref a2)] 2)) t := fun t k => castTop (ef_10 m a1 a2) k
  obtain ⟨T4, X4, e4, st4⟩ := getF X0 hx hZ hown (host := "") (Or.inl (hw _ (List.mem_of_getElem? (i := 20) rfl))) Via.refl e0 F_m_nLowChars_a1 (g := (mkF m 1 #[.val (.ref a1), .val (.ref a2)] [(.ref a1)])) rfl rfl (hb hby d10_1)
  obtain ⟨T6, X6, e6, st6⟩ := getF X4 hx hZ hown (host := "") (Or.inl (hw _ (List.mem_of_getElem? (i := 20) rfl))) Via.refl e4 F_m_nLowChars_a2 (g := (mkF m 5 #[.val (.ref a1), .val (.ref a2)] [(.ref a2), (.long w3)])) rfl rfl (hb hby d10_5)
  obtain ⟨T8, X8, e8, st8⟩ := getF X6 hx hZ hown (host := "") (Or.inl (hw _ (List.mem_of_getElem? (i := 25) rfl))) Via.refl e6 F_m_nHighChars_a1 (g := (mkF m 10 #[.val (.ref a1), .val (.ref a2)] [(.ref a1), (.long (w3 &&& w5))])) rfl rfl (hb hby d10_10)
  obtain ⟨T10, X10, e10, st10⟩ := getF X8 hx hZ hown (host := "") (Or.inl (hw _ (List.mem_of_getElem? (i := 25) rfl))) Via.refl e8 F_m_nHighChars_a2 (g := (mkF m 14 #[.val (.ref a1), .val (.ref a2)] [(.ref a2), (.long w7), (.long (w3 &&& w5))])) rfl rfl (hb hby d10_14)
  obtain ⟨fs, hr, hrun, hended, hW, hsame⟩ := X10.leave (v := some (.int (1 : Int32))) (fun h => by rw [Bd.returns] at h; cases h)
  refine ⟨_, _, pre0 _ ?_, hrun, hended, _, _, rfl, ?_, ⟨_, rfl⟩, hW, hsame.mono (by decide) (by decide)⟩
  · show Steps p.tables e below (s₁.setTop (mkF m 0 #[.val (.ref a1), .val (.ref a2)] [])) _
    refine XS.aloadN X0.here hx rfl (hb hby d10_0) rfl rfl ?_
    show Steps p.tables e below (s₁.setTop (mkF m 1 #[.val (.ref a1), .val (.ref a2)] [(.ref a1)])) _
    refine st4 _ ?_
    show Steps p.tables e below (T4.setTop (mkF m 4 #[.val (.ref a1), .val (.ref a2)] [(.long w3)])) _
    refine XS.aloadN X4.here hx rfl (hb hby d10_4) rfl rfl ?_
    show Steps p.tables e below (T4.setTop (mkF m 5 #[.val (.ref a1), .val (.ref a2)] [(.ref a2), (.long w3)])) _
    refine st6 _ ?_
    show Steps p.tables e below (T6.setTop (mkF m 8 #[.val (.ref a1), .val (.ref a2)] [(.long w5), (.long w3)])) _
    refine XS.land X6.here hx rfl (hb hby d10_8) rfl ?_
    show Steps p.tables e below (T6.setTop (mkF m 9 #[.val (.ref a1), .val (.ref a2)] [(.long (w3 &&& w5))])) _
    refine XS.aloadN X6.here hx rfl (hb hby d10_9) rfl rfl ?_
    show Steps p.tables e below (T6.setTop (mkF m 10 #[.val (.ref a1), .val (.ref a2)] [(.ref a1), (.long (w3 &&& w5))])) _
    refine st8 _ ?_
    show Steps p.tables e below (T8.setTop (mkF m 13 #[.val (.ref a1), .val (.ref a2)] [(.long w7), (.long (w3 &&& w5))])) _
    refine XS.aloadN X8.here hx rfl (hb hby d10_13) rfl rfl ?_
    show Steps p.tables e below (T8.setTop (mkF m 14 #[.val (.ref a1), .val (.ref a2)] [(.ref a2), (.long w7), (.long (w3 &&& w5))])) _
    refine st10 _ ?_
    show Steps p.tables e below (T10.setTop (mkF m 17 #[.val (.ref a1), .val (.ref a2)] [(.long w9), (.long w7), (.long (w3 &&& w5))])) _
    refine XS.land X10.here hx rfl (hb hby d10_17) rfl ?_
    show Steps p.tables e below (T10.setTop (mkF m 18 #[.val (.ref a1), .val (.ref a2)] [(.long (w7 &&& w9)), (.long (w3 &&& w5))])) _
    refine XS.lor X10.here hx rfl (hb hby d10_18) rfl ?_
    show Steps p.tables e below (T10.setTop (mkF m 19 #[.val (.ref a1), .val (.ref a2)] [(.long ((w3 &&& w5) ||| (w7 &&& w9)))])) _
    refine XS.lconst X10.here hx rfl (hb hby d10_19) ?_
    show Steps p.tables e below (T10.setTop (mkF m 20 #[.val (.ref a1), .val (.ref a2)] [(.long (0 : Int64)), (.long ((w3 &&& w5) ||| (w7 &&& w9)))])) _
    refine XS.lcmp X10.here hx rfl (hb hby d10_20) rfl ?_
    show Steps p.tables e below (T10.setTop (mkF m 21 #[.val (.ref a1), .val (.ref a2)] [(.int (lcmpW ((w3 &&& w5) ||| (w7 &&& w9)) (0 : Int64)))])) _
    refine XS.ifNo X10.here hx rfl (hb hby d10_21) rfl ((if0 _ _).trans (feq hc21).1) ?_
    show Steps p.tables e below (T10.setTop (mkF m 24 #[.val (.ref a1), .val (.ref a2)] [])) _
    refine XS.iconst X10.here hx rfl (hb hby d10_24) ?_
    show Steps p.tables e below (T10.setTop (mkF m 25 #[.val (.ref a1), .val (.ref a2)] [(.int (1 : Int32))])) _
    refine XS.goto X10.here hx rfl (pc0 := 25) (pc' := 29) rfl (hb hby d10_25) (by decide) (by decide) ?_
    show Steps p.tables e below (T10.setTop (mkF m 29 #[.val (.ref a1), .val (.ref a2)] [(.int (1 : Int32))])) _
    exact retN X10 hx (t := .boolean) Bd.returns (by simp) (hb hby d10_29) hr
  · show Q10 Z a1 a2 w3 w5 w7 w9 h0 n0 _ T10.heap _
    rw [e10]
    exact ⟨congrArg (fun z => some (Value.int z)) (if_neg hc21).symm, N0, rfl⟩
set_option maxRecDepth 65536 in
theorem rm10 (l : Launch) (Z : State) (a0 : Array Value) (hw : ∀ d ∈ tables_1, d.before a0 Z = true) (ws : List Jvm.Cond) (a1 : Addr) (a2 : Addr) (w3 : Int64) (w5 : Int64) (w7 : Int64) (w9 : Int64) (h0 : Heap) (n0 : Nat) (Z0 : n0 ≤ h0.size) (F_m_nLowChars_a1 : Fld Z h0 a1 "com/example/transmute/transmute/MeasuredText" "m_nLowChars" "J" (.long w3)) (F_m_nLowChars_a2 : Fld Z h0 a2 "com/example/transmute/transmute/MeasuredText" "m_nLowChars" "J" (.long w5)) (F_m_nHighChars_a1 : Fld Z h0 a1 "com/example/transmute/transmute/MeasuredText" "m_nHighChars" "J" (.long w7)) (F_m_nHighChars_a2 : Fld Z h0 a2 "com/example/transmute/transmute/MeasuredText" "m_nHighChars" "J" (.long w9)) :
    MetFree l (⟨"com/example/transmute/transmute/MeasuredText", "holdsAnyOf", "(Lcom/example/transmute/transmute/MeasuredText;)Z"⟩ : MethodName) (head1 (Jvm.Cond.code (⟨"com/example/transmute/transmute/MeasuredText", "holdsAnyOf", "(Lcom/example/transmute/transmute/MeasuredText;)Z"⟩ : MethodName) prog_86_method_11_code 2 (some .boolean) :: ws) ({ frames := 0, cells := 0, slots := 0, locals := 0 } : Room)) (fun a U => a = #[(.ref a1), (.ref a2)] ∧ Z.Warmed39 U.vm ∧ U.heap = h0) (fun _ _ _ _ _ => True) (fun _ U o U' => ∃ v L, o = .returned v ∧ Q10 Z a1 a2 w3 w5 w7 w9 h0 n0 v U'.heap L ∧ FrameEnd U o U' L ({ frames := 0, cells := 0, slots := 0, locals := 0 } : Room).cells ({ frames := 0, cells := 0, slots := 0, locals := 0 } : Room).slots) := by
  by_cases h : (lcmpW ((w3 &&& w5) ||| (w7 &&& w9)) (0 : Int64)) = (0 : Int32)
  · exact rm10_t l Z a0 hw ws a1 a2 w3 w5 w7 w9 h0 n0 Z0 F_m_nLowChars_a1 F_m_nLowChars_a2 F_m_nHighChars_a1 F_m_nHighChars_a2 h
  · exact rm10_f l Z a0 hw ws a1 a2 w3 w5 w7 w9 h0 n0 Z0 F_m_nLowChars_a1 F_m_nLowChars_a2 F_m_nHighChars_a1 F_m_nHighChars_a2 h
set_option maxRecDepth 65536 in
set_option maxHeartbeats 40000000 in
theorem sg84 {p : Program} {l : Launch} {e : Env} {R : Room} {s : State} {m : MethodId} {args : Array Value} {below : List Frame} {meth : Method} {c : Code} {T0 : State} {locs : List Loc} {cells slots : Nat} (p1 : Int32) (q2 : Int64) (p3 : Int32) (q4 : Int64) (p5 : Int32) (b6 b9 b12 : Addr) (X0 : Stand p l e R s m args below meth c T0 locs cells slots) (hx : p.tables.exec = Jvm.exec) (hby : c.code = code) :
    ∀ target, Steps p.tables e below (T0.setTop (mkF m 97 #[.val (.int p1), .val (.long q2), .second, .val (.int p3), .val (.long q4), .second, .val (.int p5), .val (.int (own_ch p1)), .val (.int (own_ch p3)), .val (.int (own_ch p5)), .val (.ref b6), .val (.ref b9), .val (.ref b12), .val (.long (own_pos q2)), .second, .unset, .unset, .unset, .unset, .unset, .unset, .unset, .unset, .unset] [])) target → Steps p.tables e below (T0.setTop (mkF m 84 #[.val (.int p1), .val (.long q2), .second, .val (.int p3), .val (.long q4), .second, .val (.int p5), .val (.int (own_ch p1)), .val (.int (own_ch p3)), .val (.int (own_ch p5)), .val (.ref b6), .val (.ref b9), .val (.ref b12), .unset, .unset, .unset, .unset, .unset, .unset, .unset, .unset, .unset, .unset, .unset] [])) target := by
  intro target kt
  show Steps p.tables e below (T0.setTop (mkF m 84 #[.val (.int p1), .val (.long q2), .second, .val (.int p3), .val (.long q4), .second, .val (.int p5), .val (.int (own_ch p1)), .val (.int (own_ch p3)), .val (.int (own_ch p5)), .val (.ref b6), .val (.ref b9), .val (.ref b12), .unset, .unset, .unset, .unset, .unset, .unset, .unset, .unset, .unset, .unset, .unset] [])) _
  refine XS.lloadN X0.here hx rfl (hb hby at_84) rfl ?_
  show Steps p.tables e below (T0.setTop (mkF m 85 #[.val (.int p1), .val (.long q2), .second, .val (.int p3), .val (.long q4), .second, .val (.int p5), .val (.int (own_ch p1)), .val (.int (own_ch p3)), .val (.int (own_ch p5)), .val (.ref b6), .val (.ref b9), .val (.ref b12), .unset, .unset, .unset, .unset, .unset, .unset, .unset, .unset, .unset, .unset, .unset] [(.long q2)])) _
  refine XS.lconst X0.here hx rfl (hb hby at_85) ?_
  show Steps p.tables e below (T0.setTop (mkF m 86 #[.val (.int p1), .val (.long q2), .second, .val (.int p3), .val (.long q4), .second, .val (.int p5), .val (.int (own_ch p1)), .val (.int (own_ch p3)), .val (.int (own_ch p5)), .val (.ref b6), .val (.ref b9), .val (.ref b12), .unset, .unset, .unset, .unset, .unset, .unset, .unset, .unset, .unset, .unset, .unset] [(.long (0 : Int64)), (.long q2)])) _
  refine XS.lcmp X0.here hx rfl (hb hby at_86) rfl ?_
  show Steps p.tables e below (T0.setTop (mkF m 87 #[.val (.int p1), .val (.long q2), .second, .val (.int p3), .val (.long q4), .second, .val (.int p5), .val (.int (own_ch p1)), .val (.int (own_ch p3)), .val (.int (own_ch p5)), .val (.ref b6), .val (.ref b9), .val (.ref b12), .unset, .unset, .unset, .unset, .unset, .unset, .unset, .unset, .unset, .unset, .unset] [(.int (lcmpW q2 (0 : Int64)))])) _
  by_cases c1 : (0 : Int32) < (lcmpW q2 (0 : Int64))
  · refine XS.ifNo X0.here hx rfl (hb hby at_87) rfl ((if0 _ _).trans (tlt c1).2.2.2) ?_
    show Steps p.tables e below (T0.setTop (mkF m 90 #[.val (.int p1), .val (.long q2), .second, .val (.int p3), .val (.long q4), .second, .val (.int p5), .val (.int (own_ch p1)), .val (.int (own_ch p3)), .val (.int (own_ch p5)), .val (.ref b6), .val (.ref b9), .val (.ref b12), .unset, .unset, .unset, .unset, .unset, .unset, .unset, .unset, .unset, .unset, .unset] [])) _
    refine XS.lloadN X0.here hx rfl (hb hby at_90) rfl ?_
    show Steps p.tables e below (T0.setTop (mkF m 91 #[.val (.int p1), .val (.long q2), .second, .val (.int p3), .val (.long q4), .second, .val (.int p5), .val (.int (own_ch p1)), .val (.int (own_ch p3)), .val (.int (own_ch p5)), .val (.ref b6), .val (.ref b9), .val (.ref b12), .unset, .unset, .unset, .unset, .unset, .unset, .unset, .unset, .unset, .unset, .unset] [(.long q2)])) _
    refine XS.goto X0.here hx rfl (pc0 := 91) (pc' := 95) rfl (hb hby at_91) (by decide) (by decide) ?_
    show Steps p.tables e below (T0.setTop (mkF m 95 #[.val (.int p1), .val (.long q2), .second, .val (.int p3), .val (.long q4), .second, .val (.int p5), .val (.int (own_ch p1)), .val (.int (own_ch p3)), .val (.int (own_ch p5)), .val (.ref b6), .val (.ref b9), .val (.ref b12), .unset, .unset, .unset, .unset, .unset, .unset, .unset, .unset, .unset, .unset, .unset] [(.long q2)])) _
    refine XS.lstore X0.here hx rfl (hb hby at_95) rfl (l' := #[.val (.int p1), .val (.long q2), .second, .val (.int p3), .val (.long q4), .second, .val (.int p5), .val (.int (own_ch p1)), .val (.int (own_ch p3)), .val (.int (own_ch p5)), .val (.ref b6), .val (.ref b9), .val (.ref b12), .val (.long q2), .second, .unset, .unset, .unset, .unset, .unset, .unset, .unset, .unset, .unset]) rfl ?_
    have ew : (own_pos q2) = q2 := by simp only [own_pos, if_pos c1]
    rw [ew] at kt; exact kt
  · refine XS.ifYes X0.here hx rfl (pc0 := 87) (pc' := 94) rfl (hb hby at_87) rfl ((if0 _ _).trans (flt c1).2.2.2) (by decide) (by decide) ?_
    show Steps p.tables e below (T0.setTop (mkF m 94 #[.val (.int p1), .val (.long q2), .second, .val (.int p3), .val (.long q4), .second, .val (.int p5), .val (.int (own_ch p1)), .val (.int (own_ch p3)), .val (.int (own_ch p5)), .val (.ref b6), .val (.ref b9), .val (.ref b12), .unset, .unset, .unset, .unset, .unset, .unset, .unset, .unset, .unset, .unset, .unset] [])) _
    refine XS.lconst X0.here hx rfl (hb hby at_94) ?_
    show Steps p.tables e below (T0.setTop (mkF m 95 #[.val (.int p1), .val (.long q2), .second, .val (.int p3), .val (.long q4), .second, .val (.int p5), .val (.int (own_ch p1)), .val (.int (own_ch p3)), .val (.int (own_ch p5)), .val (.ref b6), .val (.ref b9), .val (.ref b12), .unset, .unset, .unset, .unset, .unset, .unset, .unset, .unset, .unset, .unset, .unset] [(.long (0 : Int64))])) _
    refine XS.lstore X0.here hx rfl (hb hby at_95) rfl (l' := #[.val (.int p1), .val (.long q2), .second, .val (.int p3), .val (.long q4), .second, .val (.int p5), .val (.int (own_ch p1)), .val (.int (own_ch p3)), .val (.int (own_ch p5)), .val (.ref b6), .val (.ref b9), .val (.ref b12), .val (.long (0 : Int64)), .second, .unset, .unset, .unset, .unset, .unset, .unset, .unset, .unset, .unset]) rfl ?_
    have ew : (own_pos q2) = (0 : Int64) := by simp only [own_pos, if_neg c1]
    rw [ew] at kt; exact kt
set_option maxRecDepth 65536 in
set_option maxHeartbeats 40000000 in
theorem sg97 {p : Program} {l : Launch} {e : Env} {R : Room} {s : State} {m : MethodId} {args : Array Value} {below : List Frame} {meth : Method} {c : Code} {T0 : State} {locs : List Loc} {cells slots : Nat} (p1 : Int32) (q2 : Int64) (p3 : Int32) (q4 : Int64) (p5 : Int32) (b6 b9 b12 : Addr) (X0 : Stand p l e R s m args below meth c T0 locs cells slots) (hx : p.tables.exec = Jvm.exec) (hby : c.code = code) :
    ∀ target, Steps p.tables e below (T0.setTop (mkF m 112 #[.val (.int p1), .val (.long q2), .second, .val (.int p3), .val (.long q4), .second, .val (.int p5), .val (.int (own_ch p1)), .val (.int (own_ch p3)), .val (.int (own_ch p5)), .val (.ref b6), .val (.ref b9), .val (.ref b12), .val (.long (own_pos q2)), .second, .val (.long (own_pos q4)), .second, .unset, .unset, .unset, .unset, .unset, .unset, .unset] [])) target → Steps p.tables e below (T0.setTop (mkF m 97 #[.val (.int p1), .val (.long q2), .second, .val (.int p3), .val (.long q4), .second, .val (.int p5), .val (.int (own_ch p1)), .val (.int (own_ch p3)), .val (.int (own_ch p5)), .val (.ref b6), .val (.ref b9), .val (.ref b12), .val (.long (own_pos q2)), .second, .unset, .unset, .unset, .unset, .unset, .unset, .unset, .unset, .unset] [])) target := by
  intro target kt
  show Steps p.tables e below (T0.setTop (mkF m 97 #[.val (.int p1), .val (.long q2), .second, .val (.int p3), .val (.long q4), .second, .val (.int p5), .val (.int (own_ch p1)), .val (.int (own_ch p3)), .val (.int (own_ch p5)), .val (.ref b6), .val (.ref b9), .val (.ref b12), .val (.long (own_pos q2)), .second, .unset, .unset, .unset, .unset, .unset, .unset, .unset, .unset, .unset] [])) _
  refine XS.lload X0.here hx rfl (hb hby at_97) rfl ?_
  show Steps p.tables e below (T0.setTop (mkF m 99 #[.val (.int p1), .val (.long q2), .second, .val (.int p3), .val (.long q4), .second, .val (.int p5), .val (.int (own_ch p1)), .val (.int (own_ch p3)), .val (.int (own_ch p5)), .val (.ref b6), .val (.ref b9), .val (.ref b12), .val (.long (own_pos q2)), .second, .unset, .unset, .unset, .unset, .unset, .unset, .unset, .unset, .unset] [(.long q4)])) _
  refine XS.lconst X0.here hx rfl (hb hby at_99) ?_
  show Steps p.tables e below (T0.setTop (mkF m 100 #[.val (.int p1), .val (.long q2), .second, .val (.int p3), .val (.long q4), .second, .val (.int p5), .val (.int (own_ch p1)), .val (.int (own_ch p3)), .val (.int (own_ch p5)), .val (.ref b6), .val (.ref b9), .val (.ref b12), .val (.long (own_pos q2)), .second, .unset, .unset, .unset, .unset, .unset, .unset, .unset, .unset, .unset] [(.long (0 : Int64)), (.long q4)])) _
  refine XS.lcmp X0.here hx rfl (hb hby at_100) rfl ?_
  show Steps p.tables e below (T0.setTop (mkF m 101 #[.val (.int p1), .val (.long q2), .second, .val (.int p3), .val (.long q4), .second, .val (.int p5), .val (.int (own_ch p1)), .val (.int (own_ch p3)), .val (.int (own_ch p5)), .val (.ref b6), .val (.ref b9), .val (.ref b12), .val (.long (own_pos q2)), .second, .unset, .unset, .unset, .unset, .unset, .unset, .unset, .unset, .unset] [(.int (lcmpW q4 (0 : Int64)))])) _
  by_cases c1 : (0 : Int32) < (lcmpW q4 (0 : Int64))
  · refine XS.ifNo X0.here hx rfl (hb hby at_101) rfl ((if0 _ _).trans (tlt c1).2.2.2) ?_
    show Steps p.tables e below (T0.setTop (mkF m 104 #[.val (.int p1), .val (.long q2), .second, .val (.int p3), .val (.long q4), .second, .val (.int p5), .val (.int (own_ch p1)), .val (.int (own_ch p3)), .val (.int (own_ch p5)), .val (.ref b6), .val (.ref b9), .val (.ref b12), .val (.long (own_pos q2)), .second, .unset, .unset, .unset, .unset, .unset, .unset, .unset, .unset, .unset] [])) _
    refine XS.lload X0.here hx rfl (hb hby at_104) rfl ?_
    show Steps p.tables e below (T0.setTop (mkF m 106 #[.val (.int p1), .val (.long q2), .second, .val (.int p3), .val (.long q4), .second, .val (.int p5), .val (.int (own_ch p1)), .val (.int (own_ch p3)), .val (.int (own_ch p5)), .val (.ref b6), .val (.ref b9), .val (.ref b12), .val (.long (own_pos q2)), .second, .unset, .unset, .unset, .unset, .unset, .unset, .unset, .unset, .unset] [(.long q4)])) _
    refine XS.goto X0.here hx rfl (pc0 := 106) (pc' := 110) rfl (hb hby at_106) (by decide) (by decide) ?_
    show Steps p.tables e below (T0.setTop (mkF m 110 #[.val (.int p1), .val (.long q2), .second, .val (.int p3), .val (.long q4), .second, .val (.int p5), .val (.int (own_ch p1)), .val (.int (own_ch p3)), .val (.int (own_ch p5)), .val (.ref b6), .val (.ref b9), .val (.ref b12), .val (.long (own_pos q2)), .second, .unset, .unset, .unset, .unset, .unset, .unset, .unset, .unset, .unset] [(.long q4)])) _
    refine XS.lstore X0.here hx rfl (hb hby at_110) rfl (l' := #[.val (.int p1), .val (.long q2), .second, .val (.int p3), .val (.long q4), .second, .val (.int p5), .val (.int (own_ch p1)), .val (.int (own_ch p3)), .val (.int (own_ch p5)), .val (.ref b6), .val (.ref b9), .val (.ref b12), .val (.long (own_pos q2)), .second, .val (.long q4), .second, .unset, .unset, .unset, .unset, .unset, .unset, .unset]) rfl ?_
    have ew : (own_pos q4) = q4 := by simp only [own_pos, if_pos c1]
    rw [ew] at kt; exact kt
  · refine XS.ifYes X0.here hx rfl (pc0 := 101) (pc' := 109) rfl (hb hby at_101) rfl ((if0 _ _).trans (flt c1).2.2.2) (by decide) (by decide) ?_
    show Steps p.tables e below (T0.setTop (mkF m 109 #[.val (.int p1), .val (.long q2), .second, .val (.int p3), .val (.long q4), .second, .val (.int p5), .val (.int (own_ch p1)), .val (.int (own_ch p3)), .val (.int (own_ch p5)), .val (.ref b6), .val (.ref b9), .val (.ref b12), .val (.long (own_pos q2)), .second, .unset, .unset, .unset, .unset, .unset, .unset, .unset, .unset, .unset] [])) _
    refine XS.lconst X0.here hx rfl (hb hby at_109) ?_
    show Steps p.tables e below (T0.setTop (mkF m 110 #[.val (.int p1), .val (.long q2), .second, .val (.int p3), .val (.long q4), .second, .val (.int p5), .val (.int (own_ch p1)), .val (.int (own_ch p3)), .val (.int (own_ch p5)), .val (.ref b6), .val (.ref b9), .val (.ref b12), .val (.long (own_pos q2)), .second, .unset, .unset, .unset, .unset, .unset, .unset, .unset, .unset, .unset] [(.long (0 : Int64))])) _
    refine XS.lstore X0.here hx rfl (hb hby at_110) rfl (l' := #[.val (.int p1), .val (.long q2), .second, .val (.int p3), .val (.long q4), .second, .val (.int p5), .val (.int (own_ch p1)), .val (.int (own_ch p3)), .val (.int (own_ch p5)), .val (.ref b6), .val (.ref b9), .val (.ref b12), .val (.long (own_pos q2)), .second, .val (.long (0 : Int64)), .second, .unset, .unset, .unset, .unset, .unset, .unset, .unset]) rfl ?_
    have ew : (own_pos q4) = (0 : Int64) := by simp only [own_pos, if_neg c1]
    rw [ew] at kt; exact kt
set_option maxRecDepth 65536 in
set_option maxHeartbeats 40000000 in
theorem sg112 {p : Program} {l : Launch} {e : Env} {R : Room} {s : State} {m : MethodId} {args : Array Value} {below : List Frame} {meth : Method} {c : Code} {T0 : State} {locs : List Loc} {cells slots : Nat} (p1 : Int32) (q2 : Int64) (p3 : Int32) (q4 : Int64) (p5 : Int32) (b6 b9 b12 : Addr) (X0 : Stand p l e R s m args below meth c T0 locs cells slots) (hx : p.tables.exec = Jvm.exec) (hby : c.code = code) :
    ∀ target, Steps p.tables e below (T0.setTop (mkF m 119 #[.val (.int p1), .val (.long q2), .second, .val (.int p3), .val (.long q4), .second, .val (.int p5), .val (.int (own_ch p1)), .val (.int (own_ch p3)), .val (.int (own_ch p5)), .val (.ref b6), .val (.ref b9), .val (.ref b12), .val (.long (own_pos q2)), .second, .val (.long (own_pos q4)), .second, .val (.long ((own_pos q2) + (own_pos q4))), .second, .unset, .unset, .unset, .unset, .unset] [])) target → Steps p.tables e below (T0.setTop (mkF m 112 #[.val (.int p1), .val (.long q2), .second, .val (.int p3), .val (.long q4), .second, .val (.int p5), .val (.int (own_ch p1)), .val (.int (own_ch p3)), .val (.int (own_ch p5)), .val (.ref b6), .val (.ref b9), .val (.ref b12), .val (.long (own_pos q2)), .second, .val (.long (own_pos q4)), .second, .unset, .unset, .unset, .unset, .unset, .unset, .unset] [])) target := by
  intro target kt
  show Steps p.tables e below (T0.setTop (mkF m 112 #[.val (.int p1), .val (.long q2), .second, .val (.int p3), .val (.long q4), .second, .val (.int p5), .val (.int (own_ch p1)), .val (.int (own_ch p3)), .val (.int (own_ch p5)), .val (.ref b6), .val (.ref b9), .val (.ref b12), .val (.long (own_pos q2)), .second, .val (.long (own_pos q4)), .second, .unset, .unset, .unset, .unset, .unset, .unset, .unset] [])) _
  refine XS.lload X0.here hx rfl (hb hby at_112) rfl ?_
  show Steps p.tables e below (T0.setTop (mkF m 114 #[.val (.int p1), .val (.long q2), .second, .val (.int p3), .val (.long q4), .second, .val (.int p5), .val (.int (own_ch p1)), .val (.int (own_ch p3)), .val (.int (own_ch p5)), .val (.ref b6), .val (.ref b9), .val (.ref b12), .val (.long (own_pos q2)), .second, .val (.long (own_pos q4)), .second, .unset, .unset, .unset, .unset, .unset, .unset, .unset] [(.long (own_pos q2))])) _
  refine XS.lload X0.here hx rfl (hb hby at_114) rfl ?_
  show Steps p.tables e below (T0.setTop (mkF m 116 #[.val (.int p1), .val (.long q2), .second, .val (.int p3), .val (.long q4), .second, .val (.int p5), .val (.int (own_ch p1)), .val (.int (own_ch p3)), .val (.int (own_ch p5)), .val (.ref b6), .val (.ref b9), .val (.ref b12), .val (.long (own_pos q2)), .second, .val (.long (own_pos q4)), .second, .unset, .unset, .unset, .unset, .unset, .unset, .unset] [(.long (own_pos q4)), (.long (own_pos q2))])) _
  refine XS.ladd X0.here hx rfl (hb hby at_116) rfl ?_
  show Steps p.tables e below (T0.setTop (mkF m 117 #[.val (.int p1), .val (.long q2), .second, .val (.int p3), .val (.long q4), .second, .val (.int p5), .val (.int (own_ch p1)), .val (.int (own_ch p3)), .val (.int (own_ch p5)), .val (.ref b6), .val (.ref b9), .val (.ref b12), .val (.long (own_pos q2)), .second, .val (.long (own_pos q4)), .second, .unset, .unset, .unset, .unset, .unset, .unset, .unset] [(.long ((own_pos q2) + (own_pos q4)))])) _
  refine XS.lstore X0.here hx rfl (hb hby at_117) rfl (l' := #[.val (.int p1), .val (.long q2), .second, .val (.int p3), .val (.long q4), .second, .val (.int p5), .val (.int (own_ch p1)), .val (.int (own_ch p3)), .val (.int (own_ch p5)), .val (.ref b6), .val (.ref b9), .val (.ref b12), .val (.long (own_pos q2)), .second, .val (.long (own_pos q4)), .second, .val (.long ((own_pos q2) + (own_pos q4))), .second, .unset, .unset, .unset, .unset, .unset]) rfl ?_
  exact kt
set_option maxRecDepth 65536 in
set_option maxHeartbeats 40000000 in
theorem sg119 {p : Program} {l : Launch} {e : Env} {R : Room} {s : State} {m : MethodId} {args : Array Value} {below : List Frame} {meth : Method} {c : Code} {T0 : State} {locs : List Loc} {cells slots : Nat} (p1 : Int32) (q2 : Int64) (p3 : Int32) (q4 : Int64) (p5 : Int32) (b6 b9 b12 : Addr) (X0 : Stand p l e R s m args below meth c T0 locs cells slots) (hx : p.tables.exec = Jvm.exec) (hby : c.code = code) :
    ∀ target, Steps p.tables e below (T0.setTop (mkF m 148 #[.val (.int p1), .val (.long q2), .second, .val (.int p3), .val (.long q4), .second, .val (.int p5), .val (.int (own_ch p1)), .val (.int (own_ch p3)), .val (.int (own_ch p5)), .val (.ref b6), .val (.ref b9), .val (.ref b12), .val (.long (own_pos q2)), .second, .val (.long (own_pos q4)), .second, .val (.long ((own_pos q2) + (own_pos q4))), .second, .val (.long (own_eq (own_ch p1) (34 : Int32) (own_pos q2) + own_eq (own_ch p3) (34 : Int32) (own_pos q4))), .second, .unset, .unset, .unset] [])) target → Steps p.tables e below (T0.setTop (mkF m 119 #[.val (.int p1), .val (.long q2), .second, .val (.int p3), .val (.long q4), .second, .val (.int p5), .val (.int (own_ch p1)), .val (.int (own_ch p3)), .val (.int (own_ch p5)), .val (.ref b6), .val (.ref b9), .val (.ref b12), .val (.long (own_pos q2)), .second, .val (.long (own_pos q4)), .second, .val (.long ((own_pos q2) + (own_pos q4))), .second, .unset, .unset, .unset, .unset, .unset] [])) target := by
  intro target kt
  show Steps p.tables e below (T0.setTop (mkF m 119 #[.val (.int p1), .val (.long q2), .second, .val (.int p3), .val (.long q4), .second, .val (.int p5), .val (.int (own_ch p1)), .val (.int (own_ch p3)), .val (.int (own_ch p5)), .val (.ref b6), .val (.ref b9), .val (.ref b12), .val (.long (own_pos q2)), .second, .val (.long (own_pos q4)), .second, .val (.long ((own_pos q2) + (own_pos q4))), .second, .unset, .unset, .unset, .unset, .unset] [])) _
  refine XS.iload X0.here hx rfl (hb hby at_119) rfl ?_
  show Steps p.tables e below (T0.setTop (mkF m 121 #[.val (.int p1), .val (.long q2), .second, .val (.int p3), .val (.long q4), .second, .val (.int p5), .val (.int (own_ch p1)), .val (.int (own_ch p3)), .val (.int (own_ch p5)), .val (.ref b6), .val (.ref b9), .val (.ref b12), .val (.long (own_pos q2)), .second, .val (.long (own_pos q4)), .second, .val (.long ((own_pos q2) + (own_pos q4))), .second, .unset, .unset, .unset, .unset, .unset] [(.int (own_ch p1))])) _
  refine XS.bipush X0.here hx rfl (hb hby at_121) ?_
  show Steps p.tables e below (T0.setTop (mkF m 123 #[.val (.int p1), .val (.long q2), .second, .val (.int p3), .val (.long q4), .second, .val (.int p5), .val (.int (own_ch p1)), .val (.int (own_ch p3)), .val (.int (own_ch p5)), .val (.ref b6), .val (.ref b9), .val (.ref b12), .val (.long (own_pos q2)), .second, .val (.long (own_pos q4)), .second, .val (.long ((own_pos q2) + (own_pos q4))), .second, .unset, .unset, .unset, .unset, .unset] [(.int (34 : Int32)), (.int (own_ch p1))])) _
  by_cases c1 : (own_ch p1) = (34 : Int32)
  · refine XS.icmpNo X0.here hx rfl (hb hby at_123) rfl (teq c1).2 ?_
    show Steps p.tables e below (T0.setTop (mkF m 126 #[.val (.int p1), .val (.long q2), .second, .val (.int p3), .val (.long q4), .second, .val (.int p5), .val (.int (own_ch p1)), .val (.int (own_ch p3)), .val (.int (own_ch p5)), .val (.ref b6), .val (.ref b9), .val (.ref b12), .val (.long (own_pos q2)), .second, .val (.long (own_pos q4)), .second, .val (.long ((own_pos q2) + (own_pos q4))), .second, .unset, .unset, .unset, .unset, .unset] [])) _
    refine XS.lload X0.here hx rfl (hb hby at_126) rfl ?_
    show Steps p.tables e below (T0.setTop (mkF m 128 #[.val (.int p1), .val (.long q2), .second, .val (.int p3), .val (.long q4), .second, .val (.int p5), .val (.int (own_ch p1)), .val (.int (own_ch p3)), .val (.int (own_ch p5)), .val (.ref b6), .val (.ref b9), .val (.ref b12), .val (.long (own_pos q2)), .second, .val (.long (own_pos q4)), .second, .val (.long ((own_pos q2) + (own_pos q4))), .second, .unset, .unset, .unset, .unset, .unset] [(.long (own_pos q2))])) _
    refine XS.goto X0.here hx rfl (pc0 := 128) (pc' := 132) rfl (hb hby at_128) (by decide) (by decide) ?_
    show Steps p.tables e below (T0.setTop (mkF m 132 #[.val (.int p1), .val (.long q2), .second, .val (.int p3), .val (.long q4), .second, .val (.int p5), .val (.int (own_ch p1)), .val (.int (own_ch p3)), .val (.int (own_ch p5)), .val (.ref b6), .val (.ref b9), .val (.ref b12), .val (.long (own_pos q2)), .second, .val (.long (own_pos q4)), .second, .val (.long ((own_pos q2) + (own_pos q4))), .second, .unset, .unset, .unset, .unset, .unset] [(.long (own_pos q2))])) _
    refine XS.iload X0.here hx rfl (hb hby at_132) rfl ?_
    show Steps p.tables e below (T0.setTop (mkF m 134 #[.val (.int p1), .val (.long q2), .second, .val (.int p3), .val (.long q4), .second, .val (.int p5), .val (.int (own_ch p1)), .val (.int (own_ch p3)), .val (.int (own_ch p5)), .val (.ref b6), .val (.ref b9), .val (.ref b12), .val (.long (own_pos q2)), .second, .val (.long (own_pos q4)), .second, .val (.long ((own_pos q2) + (own_pos q4))), .second, .unset, .unset, .unset, .unset, .unset] [(.int (own_ch p3)), (.long (own_pos q2))])) _
    refine XS.bipush X0.here hx rfl (hb hby at_134) ?_
    show Steps p.tables e below (T0.setTop (mkF m 136 #[.val (.int p1), .val (.long q2), .second, .val (.int p3), .val (.long q4), .second, .val (.int p5), .val (.int (own_ch p1)), .val (.int (own_ch p3)), .val (.int (own_ch p5)), .val (.ref b6), .val (.ref b9), .val (.ref b12), .val (.long (own_pos q2)), .second, .val (.long (own_pos q4)), .second, .val (.long ((own_pos q2) + (own_pos q4))), .second, .unset, .unset, .unset, .unset, .unset] [(.int (34 : Int32)), (.int (own_ch p3)), (.long (own_pos q2))])) _
    by_cases c2 : (own_ch p3) = (34 : Int32)
    · refine XS.icmpNo X0.here hx rfl (hb hby at_136) rfl (teq c2).2 ?_
      show Steps p.tables e below (T0.setTop (mkF m 139 #[.val (.int p1), .val (.long q2), .second, .val (.int p3), .val (.long q4), .second, .val (.int p5), .val (.int (own_ch p1)), .val (.int (own_ch p3)), .val (.int (own_ch p5)), .val (.ref b6), .val (.ref b9), .val (.ref b12), .val (.long (own_pos q2)), .second, .val (.long (own_pos q4)), .second, .val (.long ((own_pos q2) + (own_pos q4))), .second, .unset, .unset, .unset, .unset, .unset] [(.long (own_pos q2))])) _
      refine XS.lload X0.here hx rfl (hb hby at_139) rfl ?_
      show Steps p.tables e below (T0.setTop (mkF m 141 #[.val (.int p1), .val (.long q2), .second, .val (.int p3), .val (.long q4), .second, .val (.int p5), .val (.int (own_ch p1)), .val (.int (own_ch p3)), .val (.int (own_ch p5)), .val (.ref b6), .val (.ref b9), .val (.ref b12), .val (.long (own_pos q2)), .second, .val (.long (own_pos q4)), .second, .val (.long ((own_pos q2) + (own_pos q4))), .second, .unset, .unset, .unset, .unset, .unset] [(.long (own_pos q4)), (.long (own_pos q2))])) _
      refine XS.goto X0.here hx rfl (pc0 := 141) (pc' := 145) rfl (hb hby at_141) (by decide) (by decide) ?_
      show Steps p.tables e below (T0.setTop (mkF m 145 #[.val (.int p1), .val (.long q2), .second, .val (.int p3), .val (.long q4), .second, .val (.int p5), .val (.int (own_ch p1)), .val (.int (own_ch p3)), .val (.int (own_ch p5)), .val (.ref b6), .val (.ref b9), .val (.ref b12), .val (.long (own_pos q2)), .second, .val (.long (own_pos q4)), .second, .val (.long ((own_pos q2) + (own_pos q4))), .second, .unset, .unset, .unset, .unset, .unset] [(.long (own_pos q4)), (.long (own_pos q2))])) _
      refine XS.ladd X0.here hx rfl (hb hby at_145) rfl ?_
      show Steps p.tables e below (T0.setTop (mkF m 146 #[.val (.int p1), .val (.long q2), .second, .val (.int p3), .val (.long q4), .second, .val (.int p5), .val (.int (own_ch p1)), .val (.int (own_ch p3)), .val (.int (own_ch p5)), .val (.ref b6), .val (.ref b9), .val (.ref b12), .val (.long (own_pos q2)), .second, .val (.long (own_pos q4)), .second, .val (.long ((own_pos q2) + (own_pos q4))), .second, .unset, .unset, .unset, .unset, .unset] [(.long ((own_pos q2) + (own_pos q4)))])) _
      refine XS.lstore X0.here hx rfl (hb hby at_146) rfl (l' := #[.val (.int p1), .val (.long q2), .second, .val (.int p3), .val (.long q4), .second, .val (.int p5), .val (.int (own_ch p1)), .val (.int (own_ch p3)), .val (.int (own_ch p5)), .val (.ref b6), .val (.ref b9), .val (.ref b12), .val (.long (own_pos q2)), .second, .val (.long (own_pos q4)), .second, .val (.long ((own_pos q2) + (own_pos q4))), .second, .val (.long ((own_pos q2) + (own_pos q4))), .second, .unset, .unset, .unset]) rfl ?_
      have ew : (own_eq (own_ch p1) (34 : Int32) (own_pos q2) + own_eq (own_ch p3) (34 : Int32) (own_pos q4)) = ((own_pos q2) + (own_pos q4)) := by simp only [own_eq, if_pos c1, if_pos c2]
      rw [ew] at kt; exact kt
    · refine XS.icmpYes X0.here hx rfl (pc0 := 136) (pc' := 144) rfl (hb hby at_136) rfl (feq c2).2 (by decide) (by decide) ?_
      show Steps p.tables e below (T0.setTop (mkF m 144 #[.val (.int p1), .val (.long q2), .second, .val (.int p3), .val (.long q4), .second, .val (.int p5), .val (.int (own_ch p1)), .val (.int (own_ch p3)), .val (.int (own_ch p5)), .val (.ref b6), .val (.ref b9), .val (.ref b12), .val (.long (own_pos q2)), .second, .val (.long (own_pos q4)), .second, .val (.long ((own_pos q2) + (own_pos q4))), .second, .unset, .unset, .unset, .unset, .unset] [(.long (own_pos q2))])) _
      refine XS.lconst X0.here hx rfl (hb hby at_144) ?_
      show Steps p.tables e below (T0.setTop (mkF m 145 #[.val (.int p1), .val (.long q2), .second, .val (.int p3), .val (.long q4), .second, .val (.int p5), .val (.int (own_ch p1)), .val (.int (own_ch p3)), .val (.int (own_ch p5)), .val (.ref b6), .val (.ref b9), .val (.ref b12), .val (.long (own_pos q2)), .second, .val (.long (own_pos q4)), .second, .val (.long ((own_pos q2) + (own_pos q4))), .second, .unset, .unset, .unset, .unset, .unset] [(.long (0 : Int64)), (.long (own_pos q2))])) _
      refine XS.ladd X0.here hx rfl (hb hby at_145) rfl ?_
      show Steps p.tables e below (T0.setTop (mkF m 146 #[.val (.int p1), .val (.long q2), .second, .val (.int p3), .val (.long q4), .second, .val (.int p5), .val (.int (own_ch p1)), .val (.int (own_ch p3)), .val (.int (own_ch p5)), .val (.ref b6), .val (.ref b9), .val (.ref b12), .val (.long (own_pos q2)), .second, .val (.long (own_pos q4)), .second, .val (.long ((own_pos q2) + (own_pos q4))), .second, .unset, .unset, .unset, .unset, .unset] [(.long ((own_pos q2) + (0 : Int64)))])) _
      refine XS.lstore X0.here hx rfl (hb hby at_146) rfl (l' := #[.val (.int p1), .val (.long q2), .second, .val (.int p3), .val (.long q4), .second, .val (.int p5), .val (.int (own_ch p1)), .val (.int (own_ch p3)), .val (.int (own_ch p5)), .val (.ref b6), .val (.ref b9), .val (.ref b12), .val (.long (own_pos q2)), .second, .val (.long (own_pos q4)), .second, .val (.long ((own_pos q2) + (own_pos q4))), .second, .val (.long ((own_pos q2) + (0 : Int64))), .second, .unset, .unset, .unset]) rfl ?_
      have ew : (own_eq (own_ch p1) (34 : Int32) (own_pos q2) + own_eq (own_ch p3) (34 : Int32) (own_pos q4)) = ((own_pos q2) + (0 : Int64)) := by simp only [own_eq, if_pos c1, if_neg c2]
      rw [ew] at kt; exact kt
  · refine XS.icmpYes X0.here hx rfl (pc0 := 123) (pc' := 131) rfl (hb hby at_123) rfl (feq c1).2 (by decide) (by decide) ?_
    show Steps p.tables e below (T0.setTop (mkF m 131 #[.val (.int p1), .val (.long q2), .second, .val (.int p3), .val (.long q4), .second, .val (.int p5), .val (.int (own_ch p1)), .val (.int (own_ch p3)), .val (.int (own_ch p5)), .val (.ref b6), .val (.ref b9), .val (.ref b12), .val (.long (own_pos q2)), .second, .val (.long (own_pos q4)), .second, .val (.long ((own_pos q2) + (own_pos q4))), .second, .unset, .unset, .unset, .unset, .unset] [])) _
    refine XS.lconst X0.here hx rfl (hb hby at_131) ?_
    show Steps p.tables e below (T0.setTop (mkF m 132 #[.val (.int p1), .val (.long q2), .second, .val (.int p3), .val (.long q4), .second, .val (.int p5), .val (.int (own_ch p1)), .val (.int (own_ch p3)), .val (.int (own_ch p5)), .val (.ref b6), .val (.ref b9), .val (.ref b12), .val (.long (own_pos q2)), .second, .val (.long (own_pos q4)), .second, .val (.long ((own_pos q2) + (own_pos q4))), .second, .unset, .unset, .unset, .unset, .unset] [(.long (0 : Int64))])) _
    refine XS.iload X0.here hx rfl (hb hby at_132) rfl ?_
    show Steps p.tables e below (T0.setTop (mkF m 134 #[.val (.int p1), .val (.long q2), .second, .val (.int p3), .val (.long q4), .second, .val (.int p5), .val (.int (own_ch p1)), .val (.int (own_ch p3)), .val (.int (own_ch p5)), .val (.ref b6), .val (.ref b9), .val (.ref b12), .val (.long (own_pos q2)), .second, .val (.long (own_pos q4)), .second, .val (.long ((own_pos q2) + (own_pos q4))), .second, .unset, .unset, .unset, .unset, .unset] [(.int (own_ch p3)), (.long (0 : Int64))])) _
    refine XS.bipush X0.here hx rfl (hb hby at_134) ?_
    show Steps p.tables e below (T0.setTop (mkF m 136 #[.val (.int p1), .val (.long q2), .second, .val (.int p3), .val (.long q4), .second, .val (.int p5), .val (.int (own_ch p1)), .val (.int (own_ch p3)), .val (.int (own_ch p5)), .val (.ref b6), .val (.ref b9), .val (.ref b12), .val (.long (own_pos q2)), .second, .val (.long (own_pos q4)), .second, .val (.long ((own_pos q2) + (own_pos q4))), .second, .unset, .unset, .unset, .unset, .unset] [(.int (34 : Int32)), (.int (own_ch p3)), (.long (0 : Int64))])) _
    by_cases c3 : (own_ch p3) = (34 : Int32)
    · refine XS.icmpNo X0.here hx rfl (hb hby at_136) rfl (teq c3).2 ?_
      show Steps p.tables e below (T0.setTop (mkF m 139 #[.val (.int p1), .val (.long q2), .second, .val (.int p3), .val (.long q4), .second, .val (.int p5), .val (.int (own_ch p1)), .val (.int (own_ch p3)), .val (.int (own_ch p5)), .val (.ref b6), .val (.ref b9), .val (.ref b12), .val (.long (own_pos q2)), .second, .val (.long (own_pos q4)), .second, .val (.long ((own_pos q2) + (own_pos q4))), .second, .unset, .unset, .unset, .unset, .unset] [(.long (0 : Int64))])) _
      refine XS.lload X0.here hx rfl (hb hby at_139) rfl ?_
      show Steps p.tables e below (T0.setTop (mkF m 141 #[.val (.int p1), .val (.long q2), .second, .val (.int p3), .val (.long q4), .second, .val (.int p5), .val (.int (own_ch p1)), .val (.int (own_ch p3)), .val (.int (own_ch p5)), .val (.ref b6), .val (.ref b9), .val (.ref b12), .val (.long (own_pos q2)), .second, .val (.long (own_pos q4)), .second, .val (.long ((own_pos q2) + (own_pos q4))), .second, .unset, .unset, .unset, .unset, .unset] [(.long (own_pos q4)), (.long (0 : Int64))])) _
      refine XS.goto X0.here hx rfl (pc0 := 141) (pc' := 145) rfl (hb hby at_141) (by decide) (by decide) ?_
      show Steps p.tables e below (T0.setTop (mkF m 145 #[.val (.int p1), .val (.long q2), .second, .val (.int p3), .val (.long q4), .second, .val (.int p5), .val (.int (own_ch p1)), .val (.int (own_ch p3)), .val (.int (own_ch p5)), .val (.ref b6), .val (.ref b9), .val (.ref b12), .val (.long (own_pos q2)), .second, .val (.long (own_pos q4)), .second, .val (.long ((own_pos q2) + (own_pos q4))), .second, .unset, .unset, .unset, .unset, .unset] [(.long (own_pos q4)), (.long (0 : Int64))])) _
      refine XS.ladd X0.here hx rfl (hb hby at_145) rfl ?_
      show Steps p.tables e below (T0.setTop (mkF m 146 #[.val (.int p1), .val (.long q2), .second, .val (.int p3), .val (.long q4), .second, .val (.int p5), .val (.int (own_ch p1)), .val (.int (own_ch p3)), .val (.int (own_ch p5)), .val (.ref b6), .val (.ref b9), .val (.ref b12), .val (.long (own_pos q2)), .second, .val (.long (own_pos q4)), .second, .val (.long ((own_pos q2) + (own_pos q4))), .second, .unset, .unset, .unset, .unset, .unset] [(.long ((0 : Int64) + (own_pos q4)))])) _
      refine XS.lstore X0.here hx rfl (hb hby at_146) rfl (l' := #[.val (.int p1), .val (.long q2), .second, .val (.int p3), .val (.long q4), .second, .val (.int p5), .val (.int (own_ch p1)), .val (.int (own_ch p3)), .val (.int (own_ch p5)), .val (.ref b6), .val (.ref b9), .val (.ref b12), .val (.long (own_pos q2)), .second, .val (.long (own_pos q4)), .second, .val (.long ((own_pos q2) + (own_pos q4))), .second, .val (.long ((0 : Int64) + (own_pos q4))), .second, .unset, .unset, .unset]) rfl ?_
      have ew : (own_eq (own_ch p1) (34 : Int32) (own_pos q2) + own_eq (own_ch p3) (34 : Int32) (own_pos q4)) = ((0 : Int64) + (own_pos q4)) := by simp only [own_eq, if_neg c1, if_pos c3]
      rw [ew] at kt; exact kt
    · refine XS.icmpYes X0.here hx rfl (pc0 := 136) (pc' := 144) rfl (hb hby at_136) rfl (feq c3).2 (by decide) (by decide) ?_
      show Steps p.tables e below (T0.setTop (mkF m 144 #[.val (.int p1), .val (.long q2), .second, .val (.int p3), .val (.long q4), .second, .val (.int p5), .val (.int (own_ch p1)), .val (.int (own_ch p3)), .val (.int (own_ch p5)), .val (.ref b6), .val (.ref b9), .val (.ref b12), .val (.long (own_pos q2)), .second, .val (.long (own_pos q4)), .second, .val (.long ((own_pos q2) + (own_pos q4))), .second, .unset, .unset, .unset, .unset, .unset] [(.long (0 : Int64))])) _
      refine XS.lconst X0.here hx rfl (hb hby at_144) ?_
      show Steps p.tables e below (T0.setTop (mkF m 145 #[.val (.int p1), .val (.long q2), .second, .val (.int p3), .val (.long q4), .second, .val (.int p5), .val (.int (own_ch p1)), .val (.int (own_ch p3)), .val (.int (own_ch p5)), .val (.ref b6), .val (.ref b9), .val (.ref b12), .val (.long (own_pos q2)), .second, .val (.long (own_pos q4)), .second, .val (.long ((own_pos q2) + (own_pos q4))), .second, .unset, .unset, .unset, .unset, .unset] [(.long (0 : Int64)), (.long (0 : Int64))])) _
      refine XS.ladd X0.here hx rfl (hb hby at_145) rfl ?_
      show Steps p.tables e below (T0.setTop (mkF m 146 #[.val (.int p1), .val (.long q2), .second, .val (.int p3), .val (.long q4), .second, .val (.int p5), .val (.int (own_ch p1)), .val (.int (own_ch p3)), .val (.int (own_ch p5)), .val (.ref b6), .val (.ref b9), .val (.ref b12), .val (.long (own_pos q2)), .second, .val (.long (own_pos q4)), .second, .val (.long ((own_pos q2) + (own_pos q4))), .second, .unset, .unset, .unset, .unset, .unset] [(.long ((0 : Int64) + (0 : Int64)))])) _
      refine XS.lstore X0.here hx rfl (hb hby at_146) rfl (l' := #[.val (.int p1), .val (.long q2), .second, .val (.int p3), .val (.long q4), .second, .val (.int p5), .val (.int (own_ch p1)), .val (.int (own_ch p3)), .val (.int (own_ch p5)), .val (.ref b6), .val (.ref b9), .val (.ref b12), .val (.long (own_pos q2)), .second, .val (.long (own_pos q4)), .second, .val (.long ((own_pos q2) + (own_pos q4))), .second, .val (.long ((0 : Int64) + (0 : Int64))), .second, .unset, .unset, .unset]) rfl ?_
      have ew : (own_eq (own_ch p1) (34 : Int32) (own_pos q2) + own_eq (own_ch p3) (34 : Int32) (own_pos q4)) = ((0 : Int64) + (0 : Int64)) := by simp only [own_eq, if_neg c1, if_neg c3]
      rw [ew] at kt; exact kt
set_option maxRecDepth 65536 in
set_option maxHeartbeats 40000000 in
theorem sg148 {p : Program} {l : Launch} {e : Env} {R : Room} {s : State} {m : MethodId} {args : Array Value} {below : List Frame} {meth : Method} {c : Code} {T0 : State} {locs : List Loc} {cells slots : Nat} (p1 : Int32) (q2 : Int64) (p3 : Int32) (q4 : Int64) (p5 : Int32) (b6 b9 b12 : Addr) (X0 : Stand p l e R s m args below meth c T0 locs cells slots) (hx : p.tables.exec = Jvm.exec) (hby : c.code = code) :
    ∀ target, Steps p.tables e below (T0.setTop (mkF m 177 #[.val (.int p1), .val (.long q2), .second, .val (.int p3), .val (.long q4), .second, .val (.int p5), .val (.int (own_ch p1)), .val (.int (own_ch p3)), .val (.int (own_ch p5)), .val (.ref b6), .val (.ref b9), .val (.ref b12), .val (.long (own_pos q2)), .second, .val (.long (own_pos q4)), .second, .val (.long ((own_pos q2) + (own_pos q4))), .second, .val (.long (own_eq (own_ch p1) (34 : Int32) (own_pos q2) + own_eq (own_ch p3) (34 : Int32) (own_pos q4))), .second, .val (.long (own_eq (own_ch p1) (92 : Int32) (own_pos q2) + own_eq (own_ch p3) (92 : Int32) (own_pos q4))), .second, .unset] [])) target → Steps p.tables e below (T0.setTop (mkF m 148 #[.val (.int p1), .val (.long q2), .second, .val (.int p3), .val (.long q4), .second, .val (.int p5), .val (.int (own_ch p1)), .val (.int (own_ch p3)), .val (.int (own_ch p5)), .val (.ref b6), .val (.ref b9), .val (.ref b12), .val (.long (own_pos q2)), .second, .val (.long (own_pos q4)), .second, .val (.long ((own_pos q2) + (own_pos q4))), .second, .val (.long (own_eq (own_ch p1) (34 : Int32) (own_pos q2) + own_eq (own_ch p3) (34 : Int32) (own_pos q4))), .second, .unset, .unset, .unset] [])) target := by
  intro target kt
  show Steps p.tables e below (T0.setTop (mkF m 148 #[.val (.int p1), .val (.long q2), .second, .val (.int p3), .val (.long q4), .second, .val (.int p5), .val (.int (own_ch p1)), .val (.int (own_ch p3)), .val (.int (own_ch p5)), .val (.ref b6), .val (.ref b9), .val (.ref b12), .val (.long (own_pos q2)), .second, .val (.long (own_pos q4)), .second, .val (.long ((own_pos q2) + (own_pos q4))), .second, .val (.long (own_eq (own_ch p1) (34 : Int32) (own_pos q2) + own_eq (own_ch p3) (34 : Int32) (own_pos q4))), .second, .unset, .unset, .unset] [])) _
  refine XS.iload X0.here hx rfl (hb hby at_148) rfl ?_
  show Steps p.tables e below (T0.setTop (mkF m 150 #[.val (.int p1), .val (.long q2), .second, .val (.int p3), .val (.long q4), .second, .val (.int p5), .val (.int (own_ch p1)), .val (.int (own_ch p3)), .val (.int (own_ch p5)), .val (.ref b6), .val (.ref b9), .val (.ref b12), .val (.long (own_pos q2)), .second, .val (.long (own_pos q4)), .second, .val (.long ((own_pos q2) + (own_pos q4))), .second, .val (.long (own_eq (own_ch p1) (34 : Int32) (own_pos q2) + own_eq (own_ch p3) (34 : Int32) (own_pos q4))), .second, .unset, .unset, .unset] [(.int (own_ch p1))])) _
  refine XS.bipush X0.here hx rfl (hb hby at_150) ?_
  show Steps p.tables e below (T0.setTop (mkF m 152 #[.val (.int p1), .val (.long q2), .second, .val (.int p3), .val (.long q4), .second, .val (.int p5), .val (.int (own_ch p1)), .val (.int (own_ch p3)), .val (.int (own_ch p5)), .val (.ref b6), .val (.ref b9), .val (.ref b12), .val (.long (own_pos q2)), .second, .val (.long (own_pos q4)), .second, .val (.long ((own_pos q2) + (own_pos q4))), .second, .val (.long (own_eq (own_ch p1) (34 : Int32) (own_pos q2) + own_eq (own_ch p3) (34 : Int32) (own_pos q4))), .second, .unset, .unset, .unset] [(.int (92 : Int32)), (.int (own_ch p1))])) _
  by_cases c1 : (own_ch p1) = (92 : Int32)
  · refine XS.icmpNo X0.here hx rfl (hb hby at_152) rfl (teq c1).2 ?_
    show Steps p.tables e below (T0.setTop (mkF m 155 #[.val (.int p1), .val (.long q2), .second, .val (.int p3), .val (.long q4), .second, .val (.int p5), .val (.int (own_ch p1)), .val (.int (own_ch p3)), .val (.int (own_ch p5)), .val (.ref b6), .val (.ref b9), .val (.ref b12), .val (.long (own_pos q2)), .second, .val (.long (own_pos q4)), .second, .val (.long ((own_pos q2) + (own_pos q4))), .second, .val (.long (own_eq (own_ch p1) (34 : Int32) (own_pos q2) + own_eq (own_ch p3) (34 : Int32) (own_pos q4))), .second, .unset, .unset, .unset] [])) _
    refine XS.lload X0.here hx rfl (hb hby at_155) rfl ?_
    show Steps p.tables e below (T0.setTop (mkF m 157 #[.val (.int p1), .val (.long q2), .second, .val (.int p3), .val (.long q4), .second, .val (.int p5), .val (.int (own_ch p1)), .val (.int (own_ch p3)), .val (.int (own_ch p5)), .val (.ref b6), .val (.ref b9), .val (.ref b12), .val (.long (own_pos q2)), .second, .val (.long (own_pos q4)), .second, .val (.long ((own_pos q2) + (own_pos q4))), .second, .val (.long (own_eq (own_ch p1) (34 : Int32) (own_pos q2) + own_eq (own_ch p3) (34 : Int32) (own_pos q4))), .second, .unset, .unset, .unset] [(.long (own_pos q2))])) _
    refine XS.goto X0.here hx rfl (pc0 := 157) (pc' := 161) rfl (hb hby at_157) (by decide) (by decide) ?_
    show Steps p.tables e below (T0.setTop (mkF m 161 #[.val (.int p1), .val (.long q2), .second, .val (.int p3), .val (.long q4), .second, .val (.int p5), .val (.int (own_ch p1)), .val (.int (own_ch p3)), .val (.int (own_ch p5)), .val (.ref b6), .val (.ref b9), .val (.ref b12), .val (.long (own_pos q2)), .second, .val (.long (own_pos q4)), .second, .val (.long ((own_pos q2) + (own_pos q4))), .second, .val (.long (own_eq (own_ch p1) (34 : Int32) (own_pos q2) + own_eq (own_ch p3) (34 : Int32) (own_pos q4))), .second, .unset, .unset, .unset] [(.long (own_pos q2))])) _
    refine XS.iload X0.here hx rfl (hb hby at_161) rfl ?_
    show Steps p.tables e below (T0.setTop (mkF m 163 #[.val (.int p1), .val (.long q2), .second, .val (.int p3), .val (.long q4), .second, .val (.int p5), .val (.int (own_ch p1)), .val (.int (own_ch p3)), .val (.int (own_ch p5)), .val (.ref b6), .val (.ref b9), .val (.ref b12), .val (.long (own_pos q2)), .second, .val (.long (own_pos q4)), .second, .val (.long ((own_pos q2) + (own_pos q4))), .second, .val (.long (own_eq (own_ch p1) (34 : Int32) (own_pos q2) + own_eq (own_ch p3) (34 : Int32) (own_pos q4))), .second, .unset, .unset, .unset] [(.int (own_ch p3)), (.long (own_pos q2))])) _
    refine XS.bipush X0.here hx rfl (hb hby at_163) ?_
    show Steps p.tables e below (T0.setTop (mkF m 165 #[.val (.int p1), .val (.long q2), .second, .val (.int p3), .val (.long q4), .second, .val (.int p5), .val (.int (own_ch p1)), .val (.int (own_ch p3)), .val (.int (own_ch p5)), .val (.ref b6), .val (.ref b9), .val (.ref b12), .val (.long (own_pos q2)), .second, .val (.long (own_pos q4)), .second, .val (.long ((own_pos q2) + (own_pos q4))), .second, .val (.long (own_eq (own_ch p1) (34 : Int32) (own_pos q2) + own_eq (own_ch p3) (34 : Int32) (own_pos q4))), .second, .unset, .unset, .unset] [(.int (92 : Int32)), (.int (own_ch p3)), (.long (own_pos q2))])) _
    by_cases c2 : (own_ch p3) = (92 : Int32)
    · refine XS.icmpNo X0.here hx rfl (hb hby at_165) rfl (teq c2).2 ?_
      show Steps p.tables e below (T0.setTop (mkF m 168 #[.val (.int p1), .val (.long q2), .second, .val (.int p3), .val (.long q4), .second, .val (.int p5), .val (.int (own_ch p1)), .val (.int (own_ch p3)), .val (.int (own_ch p5)), .val (.ref b6), .val (.ref b9), .val (.ref b12), .val (.long (own_pos q2)), .second, .val (.long (own_pos q4)), .second, .val (.long ((own_pos q2) + (own_pos q4))), .second, .val (.long (own_eq (own_ch p1) (34 : Int32) (own_pos q2) + own_eq (own_ch p3) (34 : Int32) (own_pos q4))), .second, .unset, .unset, .unset] [(.long (own_pos q2))])) _
      refine XS.lload X0.here hx rfl (hb hby at_168) rfl ?_
      show Steps p.tables e below (T0.setTop (mkF m 170 #[.val (.int p1), .val (.long q2), .second, .val (.int p3), .val (.long q4), .second, .val (.int p5), .val (.int (own_ch p1)), .val (.int (own_ch p3)), .val (.int (own_ch p5)), .val (.ref b6), .val (.ref b9), .val (.ref b12), .val (.long (own_pos q2)), .second, .val (.long (own_pos q4)), .second, .val (.long ((own_pos q2) + (own_pos q4))), .second, .val (.long (own_eq (own_ch p1) (34 : Int32) (own_pos q2) + own_eq (own_ch p3) (34 : Int32) (own_pos q4))), .second, .unset, .unset, .unset] [(.long (own_pos q4)), (.long (own_pos q2))])) _
      refine XS.goto X0.here hx rfl (pc0 := 170) (pc' := 174) rfl (hb hby at_170) (by decide) (by decide) ?_
      show Steps p.tables e below (T0.setTop (mkF m 174 #[.val (.int p1), .val (.long q2), .second, .val (.int p3), .val (.long q4), .second, .val (.int p5), .val (.int (own_ch p1)), .val (.int (own_ch p3)), .val (.int (own_ch p5)), .val (.ref b6), .val (.ref b9), .val (.ref b12), .val (.long (own_pos q2)), .second, .val (.long (own_pos q4)), .second, .val (.long ((own_pos q2) + (own_pos q4))), .second, .val (.long (own_eq (own_ch p1) (34 : Int32) (own_pos q2) + own_eq (own_ch p3) (34 : Int32) (own_pos q4))), .second, .unset, .unset, .unset] [(.long (own_pos q4)), (.long (own_pos q2))])) _
      refine XS.ladd X0.here hx rfl (hb hby at_174) rfl ?_
      show Steps p.tables e below (T0.setTop (mkF m 175 #[.val (.int p1), .val (.long q2), .second, .val (.int p3), .val (.long q4), .second, .val (.int p5), .val (.int (own_ch p1)), .val (.int (own_ch p3)), .val (.int (own_ch p5)), .val (.ref b6), .val (.ref b9), .val (.ref b12), .val (.long (own_pos q2)), .second, .val (.long (own_pos q4)), .second, .val (.long ((own_pos q2) + (own_pos q4))), .second, .val (.long (own_eq (own_ch p1) (34 : Int32) (own_pos q2) + own_eq (own_ch p3) (34 : Int32) (own_pos q4))), .second, .unset, .unset, .unset] [(.long ((own_pos q2) + (own_pos q4)))])) _
      refine XS.lstore X0.here hx rfl (hb hby at_175) rfl (l' := #[.val (.int p1), .val (.long q2), .second, .val (.int p3), .val (.long q4), .second, .val (.int p5), .val (.int (own_ch p1)), .val (.int (own_ch p3)), .val (.int (own_ch p5)), .val (.ref b6), .val (.ref b9), .val (.ref b12), .val (.long (own_pos q2)), .second, .val (.long (own_pos q4)), .second, .val (.long ((own_pos q2) + (own_pos q4))), .second, .val (.long (own_eq (own_ch p1) (34 : Int32) (own_pos q2) + own_eq (own_ch p3) (34 : Int32) (own_pos q4))), .second, .val (.long ((own_pos q2) + (own_pos q4))), .second, .unset]) rfl ?_
      have ew : (own_eq (own_ch p1) (92 : Int32) (own_pos q2) + own_eq (own_ch p3) (92 : Int32) (own_pos q4)) = ((own_pos q2) + (own_pos q4)) := by simp only [own_eq, if_pos c1, if_pos c2]
      rw [ew] at kt; exact kt
    · refine XS.icmpYes X0.here hx rfl (pc0 := 165) (pc' := 173) rfl (hb hby at_165) rfl (feq c2).2 (by decide) (by decide) ?_
      show Steps p.tables e below (T0.setTop (mkF m 173 #[.val (.int p1), .val (.long q2), .second, .val (.int p3), .val (.long q4), .second, .val (.int p5), .val (.int (own_ch p1)), .val (.int (own_ch p3)), .val (.int (own_ch p5)), .val (.ref b6), .val (.ref b9), .val (.ref b12), .val (.long (own_pos q2)), .second, .val (.long (own_pos q4)), .second, .val (.long ((own_pos q2) + (own_pos q4))), .second, .val (.long (own_eq (own_ch p1) (34 : Int32) (own_pos q2) + own_eq (own_ch p3) (34 : Int32) (own_pos q4))), .second, .unset, .unset, .unset] [(.long (own_pos q2))])) _
      refine XS.lconst X0.here hx rfl (hb hby at_173) ?_
      show Steps p.tables e below (T0.setTop (mkF m 174 #[.val (.int p1), .val (.long q2), .second, .val (.int p3), .val (.long q4), .second, .val (.int p5), .val (.int (own_ch p1)), .val (.int (own_ch p3)), .val (.int (own_ch p5)), .val (.ref b6), .val (.ref b9), .val (.ref b12), .val (.long (own_pos q2)), .second, .val (.long (own_pos q4)), .second, .val (.long ((own_pos q2) + (own_pos q4))), .second, .val (.long (own_eq (own_ch p1) (34 : Int32) (own_pos q2) + own_eq (own_ch p3) (34 : Int32) (own_pos q4))), .second, .unset, .unset, .unset] [(.long (0 : Int64)), (.long (own_pos q2))])) _
      refine XS.ladd X0.here hx rfl (hb hby at_174) rfl ?_
      show Steps p.tables e below (T0.setTop (mkF m 175 #[.val (.int p1), .val (.long q2), .second, .val (.int p3), .val (.long q4), .second, .val (.int p5), .val (.int (own_ch p1)), .val (.int (own_ch p3)), .val (.int (own_ch p5)), .val (.ref b6), .val (.ref b9), .val (.ref b12), .val (.long (own_pos q2)), .second, .val (.long (own_pos q4)), .second, .val (.long ((own_pos q2) + (own_pos q4))), .second, .val (.long (own_eq (own_ch p1) (34 : Int32) (own_pos q2) + own_eq (own_ch p3) (34 : Int32) (own_pos q4))), .second, .unset, .unset, .unset] [(.long ((own_pos q2) + (0 : Int64)))])) _
      refine XS.lstore X0.here hx rfl (hb hby at_175) rfl (l' := #[.val (.int p1), .val (.long q2), .second, .val (.int p3), .val (.long q4), .second, .val (.int p5), .val (.int (own_ch p1)), .val (.int (own_ch p3)), .val (.int (own_ch p5)), .val (.ref b6), .val (.ref b9), .val (.ref b12), .val (.long (own_pos q2)), .second, .val (.long (own_pos q4)), .second, .val (.long ((own_pos q2) + (own_pos q4))), .second, .val (.long (own_eq (own_ch p1) (34 : Int32) (own_pos q2) + own_eq (own_ch p3) (34 : Int32) (own_pos q4))), .second, .val (.long ((own_pos q2) + (0 : Int64))), .second, .unset]) rfl ?_
      have ew : (own_eq (own_ch p1) (92 : Int32) (own_pos q2) + own_eq (own_ch p3) (92 : Int32) (own_pos q4)) = ((own_pos q2) + (0 : Int64)) := by simp only [own_eq, if_pos c1, if_neg c2]
      rw [ew] at kt; exact kt
  · refine XS.icmpYes X0.here hx rfl (pc0 := 152) (pc' := 160) rfl (hb hby at_152) rfl (feq c1).2 (by decide) (by decide) ?_
    show Steps p.tables e below (T0.setTop (mkF m 160 #[.val (.int p1), .val (.long q2), .second, .val (.int p3), .val (.long q4), .second, .val (.int p5), .val (.int (own_ch p1)), .val (.int (own_ch p3)), .val (.int (own_ch p5)), .val (.ref b6), .val (.ref b9), .val (.ref b12), .val (.long (own_pos q2)), .second, .val (.long (own_pos q4)), .second, .val (.long ((own_pos q2) + (own_pos q4))), .second, .val (.long (own_eq (own_ch p1) (34 : Int32) (own_pos q2) + own_eq (own_ch p3) (34 : Int32) (own_pos q4))), .second, .unset, .unset, .unset] [])) _
    refine XS.lconst X0.here hx rfl (hb hby at_160) ?_
    show Steps p.tables e below (T0.setTop (mkF m 161 #[.val (.int p1), .val (.long q2), .second, .val (.int p3), .val (.long q4), .second, .val (.int p5), .val (.int (own_ch p1)), .val (.int (own_ch p3)), .val (.int (own_ch p5)), .val (.ref b6), .val (.ref b9), .val (.ref b12), .val (.long (own_pos q2)), .second, .val (.long (own_pos q4)), .second, .val (.long ((own_pos q2) + (own_pos q4))), .second, .val (.long (own_eq (own_ch p1) (34 : Int32) (own_pos q2) + own_eq (own_ch p3) (34 : Int32) (own_pos q4))), .second, .unset, .unset, .unset] [(.long (0 : Int64))])) _
    refine XS.iload X0.here hx rfl (hb hby at_161) rfl ?_
    show Steps p.tables e below (T0.setTop (mkF m 163 #[.val (.int p1), .val (.long q2), .second, .val (.int p3), .val (.long q4), .second, .val (.int p5), .val (.int (own_ch p1)), .val (.int (own_ch p3)), .val (.int (own_ch p5)), .val (.ref b6), .val (.ref b9), .val (.ref b12), .val (.long (own_pos q2)), .second, .val (.long (own_pos q4)), .second, .val (.long ((own_pos q2) + (own_pos q4))), .second, .val (.long (own_eq (own_ch p1) (34 : Int32) (own_pos q2) + own_eq (own_ch p3) (34 : Int32) (own_pos q4))), .second, .unset, .unset, .unset] [(.int (own_ch p3)), (.long (0 : Int64))])) _
    refine XS.bipush X0.here hx rfl (hb hby at_163) ?_
    show Steps p.tables e below (T0.setTop (mkF m 165 #[.val (.int p1), .val (.long q2), .second, .val (.int p3), .val (.long q4), .second, .val (.int p5), .val (.int (own_ch p1)), .val (.int (own_ch p3)), .val (.int (own_ch p5)), .val (.ref b6), .val (.ref b9), .val (.ref b12), .val (.long (own_pos q2)), .second, .val (.long (own_pos q4)), .second, .val (.long ((own_pos q2) + (own_pos q4))), .second, .val (.long (own_eq (own_ch p1) (34 : Int32) (own_pos q2) + own_eq (own_ch p3) (34 : Int32) (own_pos q4))), .second, .unset, .unset, .unset] [(.int (92 : Int32)), (.int (own_ch p3)), (.long (0 : Int64))])) _
    by_cases c3 : (own_ch p3) = (92 : Int32)
    · refine XS.icmpNo X0.here hx rfl (hb hby at_165) rfl (teq c3).2 ?_
      show Steps p.tables e below (T0.setTop (mkF m 168 #[.val (.int p1), .val (.long q2), .second, .val (.int p3), .val (.long q4), .second, .val (.int p5), .val (.int (own_ch p1)), .val (.int (own_ch p3)), .val (.int (own_ch p5)), .val (.ref b6), .val (.ref b9), .val (.ref b12), .val (.long (own_pos q2)), .second, .val (.long (own_pos q4)), .second, .val (.long ((own_pos q2) + (own_pos q4))), .second, .val (.long (own_eq (own_ch p1) (34 : Int32) (own_pos q2) + own_eq (own_ch p3) (34 : Int32) (own_pos q4))), .second, .unset, .unset, .unset] [(.long (0 : Int64))])) _
      refine XS.lload X0.here hx rfl (hb hby at_168) rfl ?_
      show Steps p.tables e below (T0.setTop (mkF m 170 #[.val (.int p1), .val (.long q2), .second, .val (.int p3), .val (.long q4), .second, .val (.int p5), .val (.int (own_ch p1)), .val (.int (own_ch p3)), .val (.int (own_ch p5)), .val (.ref b6), .val (.ref b9), .val (.ref b12), .val (.long (own_pos q2)), .second, .val (.long (own_pos q4)), .second, .val (.long ((own_pos q2) + (own_pos q4))), .second, .val (.long (own_eq (own_ch p1) (34 : Int32) (own_pos q2) + own_eq (own_ch p3) (34 : Int32) (own_pos q4))), .second, .unset, .unset, .unset] [(.long (own_pos q4)), (.long (0 : Int64))])) _
      refine XS.goto X0.here hx rfl (pc0 := 170) (pc' := 174) rfl (hb hby at_170) (by decide) (by decide) ?_
      show Steps p.tables e below (T0.setTop (mkF m 174 #[.val (.int p1), .val (.long q2), .second, .val (.int p3), .val (.long q4), .second, .val (.int p5), .val (.int (own_ch p1)), .val (.int (own_ch p3)), .val (.int (own_ch p5)), .val (.ref b6), .val (.ref b9), .val (.ref b12), .val (.long (own_pos q2)), .second, .val (.long (own_pos q4)), .second, .val (.long ((own_pos q2) + (own_pos q4))), .second, .val (.long (own_eq (own_ch p1) (34 : Int32) (own_pos q2) + own_eq (own_ch p3) (34 : Int32) (own_pos q4))), .second, .unset, .unset, .unset] [(.long (own_pos q4)), (.long (0 : Int64))])) _
      refine XS.ladd X0.here hx rfl (hb hby at_174) rfl ?_
      show Steps p.tables e below (T0.setTop (mkF m 175 #[.val (.int p1), .val (.long q2), .second, .val (.int p3), .val (.long q4), .second, .val (.int p5), .val (.int (own_ch p1)), .val (.int (own_ch p3)), .val (.int (own_ch p5)), .val (.ref b6), .val (.ref b9), .val (.ref b12), .val (.long (own_pos q2)), .second, .val (.long (own_pos q4)), .second, .val (.long ((own_pos q2) + (own_pos q4))), .second, .val (.long (own_eq (own_ch p1) (34 : Int32) (own_pos q2) + own_eq (own_ch p3) (34 : Int32) (own_pos q4))), .second, .unset, .unset, .unset] [(.long ((0 : Int64) + (own_pos q4)))])) _
      refine XS.lstore X0.here hx rfl (hb hby at_175) rfl (l' := #[.val (.int p1), .val (.long q2), .second, .val (.int p3), .val (.long q4), .second, .val (.int p5), .val (.int (own_ch p1)), .val (.int (own_ch p3)), .val (.int (own_ch p5)), .val (.ref b6), .val (.ref b9), .val (.ref b12), .val (.long (own_pos q2)), .second, .val (.long (own_pos q4)), .second, .val (.long ((own_pos q2) + (own_pos q4))), .second, .val (.long (own_eq (own_ch p1) (34 : Int32) (own_pos q2) + own_eq (own_ch p3) (34 : Int32) (own_pos q4))), .second, .val (.long ((0 : Int64) + (own_pos q4))), .second, .unset]) rfl ?_
      have ew : (own_eq (own_ch p1) (92 : Int32) (own_pos q2) + own_eq (own_ch p3) (92 : Int32) (own_pos q4)) = ((0 : Int64) + (own_pos q4)) := by simp only [own_eq, if_neg c1, if_pos c3]
      rw [ew] at kt; exact kt
    · refine XS.icmpYes X0.here hx rfl (pc0 := 165) (pc' := 173) rfl (hb hby at_165) rfl (feq c3).2 (by decide) (by decide) ?_
      show Steps p.tables e below (T0.setTop (mkF m 173 #[.val (.int p1), .val (.long q2), .second, .val (.int p3), .val (.long q4), .second, .val (.int p5), .val (.int (own_ch p1)), .val (.int (own_ch p3)), .val (.int (own_ch p5)), .val (.ref b6), .val (.ref b9), .val (.ref b12), .val (.long (own_pos q2)), .second, .val (.long (own_pos q4)), .second, .val (.long ((own_pos q2) + (own_pos q4))), .second, .val (.long (own_eq (own_ch p1) (34 : Int32) (own_pos q2) + own_eq (own_ch p3) (34 : Int32) (own_pos q4))), .second, .unset, .unset, .unset] [(.long (0 : Int64))])) _
      refine XS.lconst X0.here hx rfl (hb hby at_173) ?_
      show Steps p.tables e below (T0.setTop (mkF m 174 #[.val (.int p1), .val (.long q2), .second, .val (.int p3), .val (.long q4), .second, .val (.int p5), .val (.int (own_ch p1)), .val (.int (own_ch p3)), .val (.int (own_ch p5)), .val (.ref b6), .val (.ref b9), .val (.ref b12), .val (.long (own_pos q2)), .second, .val (.long (own_pos q4)), .second, .val (.long ((own_pos q2) + (own_pos q4))), .second, .val (.long (own_eq (own_ch p1) (34 : Int32) (own_pos q2) + own_eq (own_ch p3) (34 : Int32) (own_pos q4))), .second, .unset, .unset, .unset] [(.long (0 : Int64)), (.long (0 : Int64))])) _
      refine XS.ladd X0.here hx rfl (hb hby at_174) rfl ?_
      show Steps p.tables e below (T0.setTop (mkF m 175 #[.val (.int p1), .val (.long q2), .second, .val (.int p3), .val (.long q4), .second, .val (.int p5), .val (.int (own_ch p1)), .val (.int (own_ch p3)), .val (.int (own_ch p5)), .val (.ref b6), .val (.ref b9), .val (.ref b12), .val (.long (own_pos q2)), .second, .val (.long (own_pos q4)), .second, .val (.long ((own_pos q2) + (own_pos q4))), .second, .val (.long (own_eq (own_ch p1) (34 : Int32) (own_pos q2) + own_eq (own_ch p3) (34 : Int32) (own_pos q4))), .second, .unset, .unset, .unset] [(.long ((0 : Int64) + (0 : Int64)))])) _
      refine XS.lstore X0.here hx rfl (hb hby at_175) rfl (l' := #[.val (.int p1), .val (.long q2), .second, .val (.int p3), .val (.long q4), .second, .val (.int p5), .val (.int (own_ch p1)), .val (.int (own_ch p3)), .val (.int (own_ch p5)), .val (.ref b6), .val (.ref b9), .val (.ref b12), .val (.long (own_pos q2)), .second, .val (.long (own_pos q4)), .second, .val (.long ((own_pos q2) + (own_pos q4))), .second, .val (.long (own_eq (own_ch p1) (34 : Int32) (own_pos q2) + own_eq (own_ch p3) (34 : Int32) (own_pos q4))), .second, .val (.long ((0 : Int64) + (0 : Int64))), .second, .unset]) rfl ?_
      have ew : (own_eq (own_ch p1) (92 : Int32) (own_pos q2) + own_eq (own_ch p3) (92 : Int32) (own_pos q4)) = ((0 : Int64) + (0 : Int64)) := by simp only [own_eq, if_neg c1, if_neg c3]
      rw [ew] at kt; exact kt
set_option maxRecDepth 65536 in
set_option maxHeartbeats 40000000 in
theorem sg177 {p : Program} {l : Launch} {e : Env} {R : Room} {s : State} {m : MethodId} {args : Array Value} {below : List Frame} {meth : Method} {c : Code} {T0 : State} {locs : List Loc} {cells slots : Nat} (p1 : Int32) (q2 : Int64) (p3 : Int32) (q4 : Int64) (p5 : Int32) (b6 b9 b12 : Addr) (X0 : Stand p l e R s m args below meth c T0 locs cells slots) (hx : p.tables.exec = Jvm.exec) (hby : c.code = code) :
    ∀ target, Steps p.tables e below (T0.setTop (mkF m 220 #[.val (.int p1), .val (.long q2), .second, .val (.int p3), .val (.long q4), .second, .val (.int p5), .val (.int (own_ch p1)), .val (.int (own_ch p3)), .val (.int (own_ch p5)), .val (.ref b6), .val (.ref b9), .val (.ref b12), .val (.long (own_pos q2)), .second, .val (.long (own_pos q4)), .second, .val (.long ((own_pos q2) + (own_pos q4))), .second, .val (.long (own_eq (own_ch p1) (34 : Int32) (own_pos q2) + own_eq (own_ch p3) (34 : Int32) (own_pos q4))), .second, .val (.long (own_eq (own_ch p1) (92 : Int32) (own_pos q2) + own_eq (own_ch p3) (92 : Int32) (own_pos q4))), .second, .val (.int (own_h (own_ch p5) (own_pos q2) (own_ch p1) (own_pos q4) (own_ch p3)))] [])) target → Steps p.tables e below (T0.setTop (mkF m 177 #[.val (.int p1), .val (.long q2), .second, .val (.int p3), .val (.long q4), .second, .val (.int p5), .val (.int (own_ch p1)), .val (.int (own_ch p3)), .val (.int (own_ch p5)), .val (.ref b6), .val (.ref b9), .val (.ref b12), .val (.long (own_pos q2)), .second, .val (.long (own_pos q4)), .second, .val (.long ((own_pos q2) + (own_pos q4))), .second, .val (.long (own_eq (own_ch p1) (34 : Int32) (own_pos q2) + own_eq (own_ch p3) (34 : Int32) (own_pos q4))), .second, .val (.long (own_eq (own_ch p1) (92 : Int32) (own_pos q2) + own_eq (own_ch p3) (92 : Int32) (own_pos q4))), .second, .unset] [])) target := by
  intro target kt
  show Steps p.tables e below (T0.setTop (mkF m 177 #[.val (.int p1), .val (.long q2), .second, .val (.int p3), .val (.long q4), .second, .val (.int p5), .val (.int (own_ch p1)), .val (.int (own_ch p3)), .val (.int (own_ch p5)), .val (.ref b6), .val (.ref b9), .val (.ref b12), .val (.long (own_pos q2)), .second, .val (.long (own_pos q4)), .second, .val (.long ((own_pos q2) + (own_pos q4))), .second, .val (.long (own_eq (own_ch p1) (34 : Int32) (own_pos q2) + own_eq (own_ch p3) (34 : Int32) (own_pos q4))), .second, .val (.long (own_eq (own_ch p1) (92 : Int32) (own_pos q2) + own_eq (own_ch p3) (92 : Int32) (own_pos q4))), .second, .unset] [])) _
  refine XS.iload X0.here hx rfl (hb hby at_177) rfl ?_
  show Steps p.tables e below (T0.setTop (mkF m 179 #[.val (.int p1), .val (.long q2), .second, .val (.int p3), .val (.long q4), .second, .val (.int p5), .val (.int (own_ch p1)), .val (.int (own_ch p3)), .val (.int (own_ch p5)), .val (.ref b6), .val (.ref b9), .val (.ref b12), .val (.long (own_pos q2)), .second, .val (.long (own_pos q4)), .second, .val (.long ((own_pos q2) + (own_pos q4))), .second, .val (.long (own_eq (own_ch p1) (34 : Int32) (own_pos q2) + own_eq (own_ch p3) (34 : Int32) (own_pos q4))), .second, .val (.long (own_eq (own_ch p1) (92 : Int32) (own_pos q2) + own_eq (own_ch p3) (92 : Int32) (own_pos q4))), .second, .unset] [(.int (own_ch p5))])) _
  refine XS.sipush X0.here hx rfl (hb hby at_179) ?_
  show Steps p.tables e below (T0.setTop (mkF m 182 #[.val (.int p1), .val (.long q2), .second, .val (.int p3), .val (.long q4), .second, .val (.int p5), .val (.int (own_ch p1)), .val (.int (own_ch p3)), .val (.int (own_ch p5)), .val (.ref b6), .val (.ref b9), .val (.ref b12), .val (.long (own_pos q2)), .second, .val (.long (own_pos q4)), .second, .val (.long ((own_pos q2) + (own_pos q4))), .second, .val (.long (own_eq (own_ch p1) (34 : Int32) (own_pos q2) + own_eq (own_ch p3) (34 : Int32) (own_pos q4))), .second, .val (.long (own_eq (own_ch p1) (92 : Int32) (own_pos q2) + own_eq (own_ch p3) (92 : Int32) (own_pos q4))), .second, .unset] [(.int (128 : Int32)), (.int (own_ch p5))])) _
  by_cases c1 : (own_ch p5) < (128 : Int32)
  · refine XS.icmpNo X0.here hx rfl (hb hby at_182) rfl (tlt c1).2.1 ?_
    show Steps p.tables e below (T0.setTop (mkF m 185 #[.val (.int p1), .val (.long q2), .second, .val (.int p3), .val (.long q4), .second, .val (.int p5), .val (.int (own_ch p1)), .val (.int (own_ch p3)), .val (.int (own_ch p5)), .val (.ref b6), .val (.ref b9), .val (.ref b12), .val (.long (own_pos q2)), .second, .val (.long (own_pos q4)), .second, .val (.long ((own_pos q2) + (own_pos q4))), .second, .val (.long (own_eq (own_ch p1) (34 : Int32) (own_pos q2) + own_eq (own_ch p3) (34 : Int32) (own_pos q4))), .second, .val (.long (own_eq (own_ch p1) (92 : Int32) (own_pos q2) + own_eq (own_ch p3) (92 : Int32) (own_pos q4))), .second, .unset] [])) _
    refine XS.lload X0.here hx rfl (hb hby at_185) rfl ?_
    show Steps p.tables e below (T0.setTop (mkF m 187 #[.val (.int p1), .val (.long q2), .second, .val (.int p3), .val (.long q4), .second, .val (.int p5), .val (.int (own_ch p1)), .val (.int (own_ch p3)), .val (.int (own_ch p5)), .val (.ref b6), .val (.ref b9), .val (.ref b12), .val (.long (own_pos q2)), .second, .val (.long (own_pos q4)), .second, .val (.long ((own_pos q2) + (own_pos q4))), .second, .val (.long (own_eq (own_ch p1) (34 : Int32) (own_pos q2) + own_eq (own_ch p3) (34 : Int32) (own_pos q4))), .second, .val (.long (own_eq (own_ch p1) (92 : Int32) (own_pos q2) + own_eq (own_ch p3) (92 : Int32) (own_pos q4))), .second, .unset] [(.long (own_pos q2))])) _
    refine XS.lconst X0.here hx rfl (hb hby at_187) ?_
    show Steps p.tables e below (T0.setTop (mkF m 188 #[.val (.int p1), .val (.long q2), .second, .val (.int p3), .val (.long q4), .second, .val (.int p5), .val (.int (own_ch p1)), .val (.int (own_ch p3)), .val (.int (own_ch p5)), .val (.ref b6), .val (.ref b9), .val (.ref b12), .val (.long (own_pos q2)), .second, .val (.long (own_pos q4)), .second, .val (.long ((own_pos q2) + (own_pos q4))), .second, .val (.long (own_eq (own_ch p1) (34 : Int32) (own_pos q2) + own_eq (own_ch p3) (34 : Int32) (own_pos q4))), .second, .val (.long (own_eq (own_ch p1) (92 : Int32) (own_pos q2) + own_eq (own_ch p3) (92 : Int32) (own_pos q4))), .second, .unset] [(.long (0 : Int64)), (.long (own_pos q2))])) _
    refine XS.lcmp X0.here hx rfl (hb hby at_188) rfl ?_
    show Steps p.tables e below (T0.setTop (mkF m 189 #[.val (.int p1), .val (.long q2), .second, .val (.int p3), .val (.long q4), .second, .val (.int p5), .val (.int (own_ch p1)), .val (.int (own_ch p3)), .val (.int (own_ch p5)), .val (.ref b6), .val (.ref b9), .val (.ref b12), .val (.long (own_pos q2)), .second, .val (.long (own_pos q4)), .second, .val (.long ((own_pos q2) + (own_pos q4))), .second, .val (.long (own_eq (own_ch p1) (34 : Int32) (own_pos q2) + own_eq (own_ch p3) (34 : Int32) (own_pos q4))), .second, .val (.long (own_eq (own_ch p1) (92 : Int32) (own_pos q2) + own_eq (own_ch p3) (92 : Int32) (own_pos q4))), .second, .unset] [(.int (lcmpW (own_pos q2) (0 : Int64)))])) _
    by_cases c2 : (0 : Int32) < (lcmpW (own_pos q2) (0 : Int64))
    · refine XS.ifNo X0.here hx rfl (hb hby at_189) rfl ((if0 _ _).trans (tlt c2).2.2.2) ?_
      show Steps p.tables e below (T0.setTop (mkF m 192 #[.val (.int p1), .val (.long q2), .second, .val (.int p3), .val (.long q4), .second, .val (.int p5), .val (.int (own_ch p1)), .val (.int (own_ch p3)), .val (.int (own_ch p5)), .val (.ref b6), .val (.ref b9), .val (.ref b12), .val (.long (own_pos q2)), .second, .val (.long (own_pos q4)), .second, .val (.long ((own_pos q2) + (own_pos q4))), .second, .val (.long (own_eq (own_ch p1) (34 : Int32) (own_pos q2) + own_eq (own_ch p3) (34 : Int32) (own_pos q4))), .second, .val (.long (own_eq (own_ch p1) (92 : Int32) (own_pos q2) + own_eq (own_ch p3) (92 : Int32) (own_pos q4))), .second, .unset] [])) _
      refine XS.iload X0.here hx rfl (hb hby at_192) rfl ?_
      show Steps p.tables e below (T0.setTop (mkF m 194 #[.val (.int p1), .val (.long q2), .second, .val (.int p3), .val (.long q4), .second, .val (.int p5), .val (.int (own_ch p1)), .val (.int (own_ch p3)), .val (.int (own_ch p5)), .val (.ref b6), .val (.ref b9), .val (.ref b12), .val (.long (own_pos q2)), .second, .val (.long (own_pos q4)), .second, .val (.long ((own_pos q2) + (own_pos q4))), .second, .val (.long (own_eq (own_ch p1) (34 : Int32) (own_pos q2) + own_eq (own_ch p3) (34 : Int32) (own_pos q4))), .second, .val (.long (own_eq (own_ch p1) (92 : Int32) (own_pos q2) + own_eq (own_ch p3) (92 : Int32) (own_pos q4))), .second, .unset] [(.int (own_ch p1))])) _
      refine XS.iload X0.here hx rfl (hb hby at_194) rfl ?_
      show Steps p.tables e below (T0.setTop (mkF m 196 #[.val (.int p1), .val (.long q2), .second, .val (.int p3), .val (.long q4), .second, .val (.int p5), .val (.int (own_ch p1)), .val (.int (own_ch p3)), .val (.int (own_ch p5)), .val (.ref b6), .val (.ref b9), .val (.ref b12), .val (.long (own_pos q2)), .second, .val (.long (own_pos q4)), .second, .val (.long ((own_pos q2) + (own_pos q4))), .second, .val (.long (own_eq (own_ch p1) (34 : Int32) (own_pos q2) + own_eq (own_ch p3) (34 : Int32) (own_pos q4))), .second, .val (.long (own_eq (own_ch p1) (92 : Int32) (own_pos q2) + own_eq (own_ch p3) (92 : Int32) (own_pos q4))), .second, .unset] [(.int (own_ch p5)), (.int (own_ch p1))])) _
      by_cases c3 : (own_ch p1) = (own_ch p5)
      · refine XS.icmpYes X0.here hx rfl (pc0 := 196) (pc' := 213) rfl (hb hby at_196) rfl (teq c3).1 (by decide) (by decide) ?_
        show Steps p.tables e below (T0.setTop (mkF m 213 #[.val (.int p1), .val (.long q2), .second, .val (.int p3), .val (.long q4), .second, .val (.int p5), .val (.int (own_ch p1)), .val (.int (own_ch p3)), .val (.int (own_ch p5)), .val (.ref b6), .val (.ref b9), .val (.ref b12), .val (.long (own_pos q2)), .second, .val (.long (own_pos q4)), .second, .val (.long ((own_pos q2) + (own_pos q4))), .second, .val (.long (own_eq (own_ch p1) (34 : Int32) (own_pos q2) + own_eq (own_ch p3) (34 : Int32) (own_pos q4))), .second, .val (.long (own_eq (own_ch p1) (92 : Int32) (own_pos q2) + own_eq (own_ch p3) (92 : Int32) (own_pos q4))), .second, .unset] [])) _
        refine XS.iconst X0.here hx rfl (hb hby at_213) ?_
        show Steps p.tables e below (T0.setTop (mkF m 214 #[.val (.int p1), .val (.long q2), .second, .val (.int p3), .val (.long q4), .second, .val (.int p5), .val (.int (own_ch p1)), .val (.int (own_ch p3)), .val (.int (own_ch p5)), .val (.ref b6), .val (.ref b9), .val (.ref b12), .val (.long (own_pos q2)), .second, .val (.long (own_pos q4)), .second, .val (.long ((own_pos q2) + (own_pos q4))), .second, .val (.long (own_eq (own_ch p1) (34 : Int32) (own_pos q2) + own_eq (own_ch p3) (34 : Int32) (own_pos q4))), .second, .val (.long (own_eq (own_ch p1) (92 : Int32) (own_pos q2) + own_eq (own_ch p3) (92 : Int32) (own_pos q4))), .second, .unset] [(.int (1 : Int32))])) _
        refine XS.goto X0.here hx rfl (pc0 := 214) (pc' := 218) rfl (hb hby at_214) (by decide) (by decide) ?_
        show Steps p.tables e below (T0.setTop (mkF m 218 #[.val (.int p1), .val (.long q2), .second, .val (.int p3), .val (.long q4), .second, .val (.int p5), .val (.int (own_ch p1)), .val (.int (own_ch p3)), .val (.int (own_ch p5)), .val (.ref b6), .val (.ref b9), .val (.ref b12), .val (.long (own_pos q2)), .second, .val (.long (own_pos q4)), .second, .val (.long ((own_pos q2) + (own_pos q4))), .second, .val (.long (own_eq (own_ch p1) (34 : Int32) (own_pos q2) + own_eq (own_ch p3) (34 : Int32) (own_pos q4))), .second, .val (.long (own_eq (own_ch p1) (92 : Int32) (own_pos q2) + own_eq (own_ch p3) (92 : Int32) (own_pos q4))), .second, .unset] [(.int (1 : Int32))])) _
        refine XS.istore X0.here hx rfl (hb hby at_218) rfl (l' := #[.val (.int p1), .val (.long q2), .second, .val (.int p3), .val (.long q4), .second, .val (.int p5), .val (.int (own_ch p1)), .val (.int (own_ch p3)), .val (.int (own_ch p5)), .val (.ref b6), .val (.ref b9), .val (.ref b12), .val (.long (own_pos q2)), .second, .val (.long (own_pos q4)), .second, .val (.long ((own_pos q2) + (own_pos q4))), .second, .val (.long (own_eq (own_ch p1) (34 : Int32) (own_pos q2) + own_eq (own_ch p3) (34 : Int32) (own_pos q4))), .second, .val (.long (own_eq (own_ch p1) (92 : Int32) (own_pos q2) + own_eq (own_ch p3) (92 : Int32) (own_pos q4))), .second, .val (.int (1 : Int32))]) rfl ?_
        have ew : (own_h (own_ch p5) (own_pos q2) (own_ch p1) (own_pos q4) (own_ch p3)) = (1 : Int32) := by simp only [own_h, own_h2, if_pos c1, if_pos c2, if_pos c3]
        rw [ew] at kt; exact kt
      · refine XS.icmpNo X0.here hx rfl (hb hby at_196) rfl (feq c3).1 ?_
        show Steps p.tables e below (T0.setTop (mkF m 199 #[.val (.int p1), .val (.long q2), .second, .val (.int p3), .val (.long q4), .second, .val (.int p5), .val (.int (own_ch p1)), .val (.int (own_ch p3)), .val (.int (own_ch p5)), .val (.ref b6), .val (.ref b9), .val (.ref b12), .val (.long (own_pos q2)), .second, .val (.long (own_pos q4)), .second, .val (.long ((own_pos q2) + (own_pos q4))), .second, .val (.long (own_eq (own_ch p1) (34 : Int32) (own_pos q2) + own_eq (own_ch p3) (34 : Int32) (own_pos q4))), .second, .val (.long (own_eq (own_ch p1) (92 : Int32) (own_pos q2) + own_eq (own_ch p3) (92 : Int32) (own_pos q4))), .second, .unset] [])) _
        refine XS.lload X0.here hx rfl (hb hby at_199) rfl ?_
        show Steps p.tables e below (T0.setTop (mkF m 201 #[.val (.int p1), .val (.long q2), .second, .val (.int p3), .val (.long q4), .second, .val (.int p5), .val (.int (own_ch p1)), .val (.int (own_ch p3)), .val (.int (own_ch p5)), .val (.ref b6), .val (.ref b9), .val (.ref b12), .val (.long (own_pos q2)), .second, .val (.long (own_pos q4)), .second, .val (.long ((own_pos q2) + (own_pos q4))), .second, .val (.long (own_eq (own_ch p1) (34 : Int32) (own_pos q2) + own_eq (own_ch p3) (34 : Int32) (own_pos q4))), .second, .val (.long (own_eq (own_ch p1) (92 : Int32) (own_pos q2) + own_eq (own_ch p3) (92 : Int32) (own_pos q4))), .second, .unset] [(.long (own_pos q4))])) _
        refine XS.lconst X0.here hx rfl (hb hby at_201) ?_
        show Steps p.tables e below (T0.setTop (mkF m 202 #[.val (.int p1), .val (.long q2), .second, .val (.int p3), .val (.long q4), .second, .val (.int p5), .val (.int (own_ch p1)), .val (.int (own_ch p3)), .val (.int (own_ch p5)), .val (.ref b6), .val (.ref b9), .val (.ref b12), .val (.long (own_pos q2)), .second, .val (.long (own_pos q4)), .second, .val (.long ((own_pos q2) + (own_pos q4))), .second, .val (.long (own_eq (own_ch p1) (34 : Int32) (own_pos q2) + own_eq (own_ch p3) (34 : Int32) (own_pos q4))), .second, .val (.long (own_eq (own_ch p1) (92 : Int32) (own_pos q2) + own_eq (own_ch p3) (92 : Int32) (own_pos q4))), .second, .unset] [(.long (0 : Int64)), (.long (own_pos q4))])) _
        refine XS.lcmp X0.here hx rfl (hb hby at_202) rfl ?_
        show Steps p.tables e below (T0.setTop (mkF m 203 #[.val (.int p1), .val (.long q2), .second, .val (.int p3), .val (.long q4), .second, .val (.int p5), .val (.int (own_ch p1)), .val (.int (own_ch p3)), .val (.int (own_ch p5)), .val (.ref b6), .val (.ref b9), .val (.ref b12), .val (.long (own_pos q2)), .second, .val (.long (own_pos q4)), .second, .val (.long ((own_pos q2) + (own_pos q4))), .second, .val (.long (own_eq (own_ch p1) (34 : Int32) (own_pos q2) + own_eq (own_ch p3) (34 : Int32) (own_pos q4))), .second, .val (.long (own_eq (own_ch p1) (92 : Int32) (own_pos q2) + own_eq (own_ch p3) (92 : Int32) (own_pos q4))), .second, .unset] [(.int (lcmpW (own_pos q4) (0 : Int64)))])) _
        by_cases c4 : (0 : Int32) < (lcmpW (own_pos q4) (0 : Int64))
        · refine XS.ifNo X0.here hx rfl (hb hby at_203) rfl ((if0 _ _).trans (tlt c4).2.2.2) ?_
          show Steps p.tables e below (T0.setTop (mkF m 206 #[.val (.int p1), .val (.long q2), .second, .val (.int p3), .val (.long q4), .second, .val (.int p5), .val (.int (own_ch p1)), .val (.int (own_ch p3)), .val (.int (own_ch p5)), .val (.ref b6), .val (.ref b9), .val (.ref b12), .val (.long (own_pos q2)), .second, .val (.long (own_pos q4)), .second, .val (.long ((own_pos q2) + (own_pos q4))), .second, .val (.long (own_eq (own_ch p1) (34 : Int32) (own_pos q2) + own_eq (own_ch p3) (34 : Int32) (own_pos q4))), .second, .val (.long (own_eq (own_ch p1) (92 : Int32) (own_pos q2) + own_eq (own_ch p3) (92 : Int32) (own_pos q4))), .second, .unset] [])) _
          refine XS.iload X0.here hx rfl (hb hby at_206) rfl ?_
          show Steps p.tables e below (T0.setTop (mkF m 208 #[.val (.int p1), .val (.long q2), .second, .val (.int p3), .val (.long q4), .second, .val (.int p5), .val (.int (own_ch p1)), .val (.int (own_ch p3)), .val (.int (own_ch p5)), .val (.ref b6), .val (.ref b9), .val (.ref b12), .val (.long (own_pos q2)), .second, .val (.long (own_pos q4)), .second, .val (.long ((own_pos q2) + (own_pos q4))), .second, .val (.long (own_eq (own_ch p1) (34 : Int32) (own_pos q2) + own_eq (own_ch p3) (34 : Int32) (own_pos q4))), .second, .val (.long (own_eq (own_ch p1) (92 : Int32) (own_pos q2) + own_eq (own_ch p3) (92 : Int32) (own_pos q4))), .second, .unset] [(.int (own_ch p3))])) _
          refine XS.iload X0.here hx rfl (hb hby at_208) rfl ?_
          show Steps p.tables e below (T0.setTop (mkF m 210 #[.val (.int p1), .val (.long q2), .second, .val (.int p3), .val (.long q4), .second, .val (.int p5), .val (.int (own_ch p1)), .val (.int (own_ch p3)), .val (.int (own_ch p5)), .val (.ref b6), .val (.ref b9), .val (.ref b12), .val (.long (own_pos q2)), .second, .val (.long (own_pos q4)), .second, .val (.long ((own_pos q2) + (own_pos q4))), .second, .val (.long (own_eq (own_ch p1) (34 : Int32) (own_pos q2) + own_eq (own_ch p3) (34 : Int32) (own_pos q4))), .second, .val (.long (own_eq (own_ch p1) (92 : Int32) (own_pos q2) + own_eq (own_ch p3) (92 : Int32) (own_pos q4))), .second, .unset] [(.int (own_ch p5)), (.int (own_ch p3))])) _
          by_cases c5 : (own_ch p3) = (own_ch p5)
          · refine XS.icmpNo X0.here hx rfl (hb hby at_210) rfl (teq c5).2 ?_
            show Steps p.tables e below (T0.setTop (mkF m 213 #[.val (.int p1), .val (.long q2), .second, .val (.int p3), .val (.long q4), .second, .val (.int p5), .val (.int (own_ch p1)), .val (.int (own_ch p3)), .val (.int (own_ch p5)), .val (.ref b6), .val (.ref b9), .val (.ref b12), .val (.long (own_pos q2)), .second, .val (.long (own_pos q4)), .second, .val (.long ((own_pos q2) + (own_pos q4))), .second, .val (.long (own_eq (own_ch p1) (34 : Int32) (own_pos q2) + own_eq (own_ch p3) (34 : Int32) (own_pos q4))), .second, .val (.long (own_eq (own_ch p1) (92 : Int32) (own_pos q2) + own_eq (own_ch p3) (92 : Int32) (own_pos q4))), .second, .unset] [])) _
            refine XS.iconst X0.here hx rfl (hb hby at_213) ?_
            show Steps p.tables e below (T0.setTop (mkF m 214 #[.val (.int p1), .val (.long q2), .second, .val (.int p3), .val (.long q4), .second, .val (.int p5), .val (.int (own_ch p1)), .val (.int (own_ch p3)), .val (.int (own_ch p5)), .val (.ref b6), .val (.ref b9), .val (.ref b12), .val (.long (own_pos q2)), .second, .val (.long (own_pos q4)), .second, .val (.long ((own_pos q2) + (own_pos q4))), .second, .val (.long (own_eq (own_ch p1) (34 : Int32) (own_pos q2) + own_eq (own_ch p3) (34 : Int32) (own_pos q4))), .second, .val (.long (own_eq (own_ch p1) (92 : Int32) (own_pos q2) + own_eq (own_ch p3) (92 : Int32) (own_pos q4))), .second, .unset] [(.int (1 : Int32))])) _
            refine XS.goto X0.here hx rfl (pc0 := 214) (pc' := 218) rfl (hb hby at_214) (by decide) (by decide) ?_
            show Steps p.tables e below (T0.setTop (mkF m 218 #[.val (.int p1), .val (.long q2), .second, .val (.int p3), .val (.long q4), .second, .val (.int p5), .val (.int (own_ch p1)), .val (.int (own_ch p3)), .val (.int (own_ch p5)), .val (.ref b6), .val (.ref b9), .val (.ref b12), .val (.long (own_pos q2)), .second, .val (.long (own_pos q4)), .second, .val (.long ((own_pos q2) + (own_pos q4))), .second, .val (.long (own_eq (own_ch p1) (34 : Int32) (own_pos q2) + own_eq (own_ch p3) (34 : Int32) (own_pos q4))), .second, .val (.long (own_eq (own_ch p1) (92 : Int32) (own_pos q2) + own_eq (own_ch p3) (92 : Int32) (own_pos q4))), .second, .unset] [(.int (1 : Int32))])) _
            refine XS.istore X0.here hx rfl (hb hby at_218) rfl (l' := #[.val (.int p1), .val (.long q2), .second, .val (.int p3), .val (.long q4), .second, .val (.int p5), .val (.int (own_ch p1)), .val (.int (own_ch p3)), .val (.int (own_ch p5)), .val (.ref b6), .val (.ref b9), .val (.ref b12), .val (.long (own_pos q2)), .second, .val (.long (own_pos q4)), .second, .val (.long ((own_pos q2) + (own_pos q4))), .second, .val (.long (own_eq (own_ch p1) (34 : Int32) (own_pos q2) + own_eq (own_ch p3) (34 : Int32) (own_pos q4))), .second, .val (.long (own_eq (own_ch p1) (92 : Int32) (own_pos q2) + own_eq (own_ch p3) (92 : Int32) (own_pos q4))), .second, .val (.int (1 : Int32))]) rfl ?_
            have ew : (own_h (own_ch p5) (own_pos q2) (own_ch p1) (own_pos q4) (own_ch p3)) = (1 : Int32) := by simp only [own_h, own_h2, if_pos c1, if_pos c2, if_neg c3, if_pos c4, if_pos c5]
            rw [ew] at kt; exact kt
          · refine XS.icmpYes X0.here hx rfl (pc0 := 210) (pc' := 217) rfl (hb hby at_210) rfl (feq c5).2 (by decide) (by decide) ?_
            show Steps p.tables e below (T0.setTop (mkF m 217 #[.val (.int p1), .val (.long q2), .second, .val (.int p3), .val (.long q4), .second, .val (.int p5), .val (.int (own_ch p1)), .val (.int (own_ch p3)), .val (.int (own_ch p5)), .val (.ref b6), .val (.ref b9), .val (.ref b12), .val (.long (own_pos q2)), .second, .val (.long (own_pos q4)), .second, .val (.long ((own_pos q2) + (own_pos q4))), .second, .val (.long (own_eq (own_ch p1) (34 : Int32) (own_pos q2) + own_eq (own_ch p3) (34 : Int32) (own_pos q4))), .second, .val (.long (own_eq (own_ch p1) (92 : Int32) (own_pos q2) + own_eq (own_ch p3) (92 : Int32) (own_pos q4))), .second, .unset] [])) _
            refine XS.iconst X0.here hx rfl (hb hby at_217) ?_
            show Steps p.tables e below (T0.setTop (mkF m 218 #[.val (.int p1), .val (.long q2), .second, .val (.int p3), .val (.long q4), .second, .val (.int p5), .val (.int (own_ch p1)), .val (.int (own_ch p3)), .val (.int (own_ch p5)), .val (.ref b6), .val (.ref b9), .val (.ref b12), .val (.long (own_pos q2)), .second, .val (.long (own_pos q4)), .second, .val (.long ((own_pos q2) + (own_pos q4))), .second, .val (.long (own_eq (own_ch p1) (34 : Int32) (own_pos q2) + own_eq (own_ch p3) (34 : Int32) (own_pos q4))), .second, .val (.long (own_eq (own_ch p1) (92 : Int32) (own_pos q2) + own_eq (own_ch p3) (92 : Int32) (own_pos q4))), .second, .unset] [(.int (0 : Int32))])) _
            refine XS.istore X0.here hx rfl (hb hby at_218) rfl (l' := #[.val (.int p1), .val (.long q2), .second, .val (.int p3), .val (.long q4), .second, .val (.int p5), .val (.int (own_ch p1)), .val (.int (own_ch p3)), .val (.int (own_ch p5)), .val (.ref b6), .val (.ref b9), .val (.ref b12), .val (.long (own_pos q2)), .second, .val (.long (own_pos q4)), .second, .val (.long ((own_pos q2) + (own_pos q4))), .second, .val (.long (own_eq (own_ch p1) (34 : Int32) (own_pos q2) + own_eq (own_ch p3) (34 : Int32) (own_pos q4))), .second, .val (.long (own_eq (own_ch p1) (92 : Int32) (own_pos q2) + own_eq (own_ch p3) (92 : Int32) (own_pos q4))), .second, .val (.int (0 : Int32))]) rfl ?_
            have ew : (own_h (own_ch p5) (own_pos q2) (own_ch p1) (own_pos q4) (own_ch p3)) = (0 : Int32) := by simp only [own_h, own_h2, if_pos c1, if_pos c2, if_neg c3, if_pos c4, if_neg c5]
            rw [ew] at kt; exact kt
        · refine XS.ifYes X0.here hx rfl (pc0 := 203) (pc' := 217) rfl (hb hby at_203) rfl ((if0 _ _).trans (flt c4).2.2.2) (by decide) (by decide) ?_
          show Steps p.tables e below (T0.setTop (mkF m 217 #[.val (.int p1), .val (.long q2), .second, .val (.int p3), .val (.long q4), .second, .val (.int p5), .val (.int (own_ch p1)), .val (.int (own_ch p3)), .val (.int (own_ch p5)), .val (.ref b6), .val (.ref b9), .val (.ref b12), .val (.long (own_pos q2)), .second, .val (.long (own_pos q4)), .second, .val (.long ((own_pos q2) + (own_pos q4))), .second, .val (.long (own_eq (own_ch p1) (34 : Int32) (own_pos q2) + own_eq (own_ch p3) (34 : Int32) (own_pos q4))), .second, .val (.long (own_eq (own_ch p1) (92 : Int32) (own_pos q2) + own_eq (own_ch p3) (92 : Int32) (own_pos q4))), .second, .unset] [])) _
          refine XS.iconst X0.here hx rfl (hb hby at_217) ?_
          show Steps p.tables e below (T0.setTop (mkF m 218 #[.val (.int p1), .val (.long q2), .second, .val (.int p3), .val (.long q4), .second, .val (.int p5), .val (.int (own_ch p1)), .val (.int (own_ch p3)), .val (.int (own_ch p5)), .val (.ref b6), .val (.ref b9), .val (.ref b12), .val (.long (own_pos q2)), .second, .val (.long (own_pos q4)), .second, .val (.long ((own_pos q2) + (own_pos q4))), .second, .val (.long (own_eq (own_ch p1) (34 : Int32) (own_pos q2) + own_eq (own_ch p3) (34 : Int32) (own_pos q4))), .second, .val (.long (own_eq (own_ch p1) (92 : Int32) (own_pos q2) + own_eq (own_ch p3) (92 : Int32) (own_pos q4))), .second, .unset] [(.int (0 : Int32))])) _
          refine XS.istore X0.here hx rfl (hb hby at_218) rfl (l' := #[.val (.int p1), .val (.long q2), .second, .val (.int p3), .val (.long q4), .second, .val (.int p5), .val (.int (own_ch p1)), .val (.int (own_ch p3)), .val (.int (own_ch p5)), .val (.ref b6), .val (.ref b9), .val (.ref b12), .val (.long (own_pos q2)), .second, .val (.long (own_pos q4)), .second, .val (.long ((own_pos q2) + (own_pos q4))), .second, .val (.long (own_eq (own_ch p1) (34 : Int32) (own_pos q2) + own_eq (own_ch p3) (34 : Int32) (own_pos q4))), .second, .val (.long (own_eq (own_ch p1) (92 : Int32) (own_pos q2) + own_eq (own_ch p3) (92 : Int32) (own_pos q4))), .second, .val (.int (0 : Int32))]) rfl ?_
          have ew : (own_h (own_ch p5) (own_pos q2) (own_ch p1) (own_pos q4) (own_ch p3)) = (0 : Int32) := by simp only [own_h, own_h2, if_pos c1, if_pos c2, if_neg c3, if_neg c4]
          rw [ew] at kt; exact kt
    · refine XS.ifYes X0.here hx rfl (pc0 := 189) (pc' := 199) rfl (hb hby at_189) rfl ((if0 _ _).trans (flt c2).2.2.2) (by decide) (by decide) ?_
      show Steps p.tables e below (T0.setTop (mkF m 199 #[.val (.int p1), .val (.long q2), .second, .val (.int p3), .val (.long q4), .second, .val (.int p5), .val (.int (own_ch p1)), .val (.int (own_ch p3)), .val (.int (own_ch p5)), .val (.ref b6), .val (.ref b9), .val (.ref b12), .val (.long (own_pos q2)), .second, .val (.long (own_pos q4)), .second, .val (.long ((own_pos q2) + (own_pos q4))), .second, .val (.long (own_eq (own_ch p1) (34 : Int32) (own_pos q2) + own_eq (own_ch p3) (34 : Int32) (own_pos q4))), .second, .val (.long (own_eq (own_ch p1) (92 : Int32) (own_pos q2) + own_eq (own_ch p3) (92 : Int32) (own_pos q4))), .second, .unset] [])) _
      refine XS.lload X0.here hx rfl (hb hby at_199) rfl ?_
      show Steps p.tables e below (T0.setTop (mkF m 201 #[.val (.int p1), .val (.long q2), .second, .val (.int p3), .val (.long q4), .second, .val (.int p5), .val (.int (own_ch p1)), .val (.int (own_ch p3)), .val (.int (own_ch p5)), .val (.ref b6), .val (.ref b9), .val (.ref b12), .val (.long (own_pos q2)), .second, .val (.long (own_pos q4)), .second, .val (.long ((own_pos q2) + (own_pos q4))), .second, .val (.long (own_eq (own_ch p1) (34 : Int32) (own_pos q2) + own_eq (own_ch p3) (34 : Int32) (own_pos q4))), .second, .val (.long (own_eq (own_ch p1) (92 : Int32) (own_pos q2) + own_eq (own_ch p3) (92 : Int32) (own_pos q4))), .second, .unset] [(.long (own_pos q4))])) _
      refine XS.lconst X0.here hx rfl (hb hby at_201) ?_
      show Steps p.tables e below (T0.setTop (mkF m 202 #[.val (.int p1), .val (.long q2), .second, .val (.int p3), .val (.long q4), .second, .val (.int p5), .val (.int (own_ch p1)), .val (.int (own_ch p3)), .val (.int (own_ch p5)), .val (.ref b6), .val (.ref b9), .val (.ref b12), .val (.long (own_pos q2)), .second, .val (.long (own_pos q4)), .second, .val (.long ((own_pos q2) + (own_pos q4))), .second, .val (.long (own_eq (own_ch p1) (34 : Int32) (own_pos q2) + own_eq (own_ch p3) (34 : Int32) (own_pos q4))), .second, .val (.long (own_eq (own_ch p1) (92 : Int32) (own_pos q2) + own_eq (own_ch p3) (92 : Int32) (own_pos q4))), .second, .unset] [(.long (0 : Int64)), (.long (own_pos q4))])) _
      refine XS.lcmp X0.here hx rfl (hb hby at_202) rfl ?_
      show Steps p.tables e below (T0.setTop (mkF m 203 #[.val (.int p1), .val (.long q2), .second, .val (.int p3), .val (.long q4), .second, .val (.int p5), .val (.int (own_ch p1)), .val (.int (own_ch p3)), .val (.int (own_ch p5)), .val (.ref b6), .val (.ref b9), .val (.ref b12), .val (.long (own_pos q2)), .second, .val (.long (own_pos q4)), .second, .val (.long ((own_pos q2) + (own_pos q4))), .second, .val (.long (own_eq (own_ch p1) (34 : Int32) (own_pos q2) + own_eq (own_ch p3) (34 : Int32) (own_pos q4))), .second, .val (.long (own_eq (own_ch p1) (92 : Int32) (own_pos q2) + own_eq (own_ch p3) (92 : Int32) (own_pos q4))), .second, .unset] [(.int (lcmpW (own_pos q4) (0 : Int64)))])) _
      by_cases c6 : (0 : Int32) < (lcmpW (own_pos q4) (0 : Int64))
      · refine XS.ifNo X0.here hx rfl (hb hby at_203) rfl ((if0 _ _).trans (tlt c6).2.2.2) ?_
        show Steps p.tables e below (T0.setTop (mkF m 206 #[.val (.int p1), .val (.long q2), .second, .val (.int p3), .val (.long q4), .second, .val (.int p5), .val (.int (own_ch p1)), .val (.int (own_ch p3)), .val (.int (own_ch p5)), .val (.ref b6), .val (.ref b9), .val (.ref b12), .val (.long (own_pos q2)), .second, .val (.long (own_pos q4)), .second, .val (.long ((own_pos q2) + (own_pos q4))), .second, .val (.long (own_eq (own_ch p1) (34 : Int32) (own_pos q2) + own_eq (own_ch p3) (34 : Int32) (own_pos q4))), .second, .val (.long (own_eq (own_ch p1) (92 : Int32) (own_pos q2) + own_eq (own_ch p3) (92 : Int32) (own_pos q4))), .second, .unset] [])) _
        refine XS.iload X0.here hx rfl (hb hby at_206) rfl ?_
        show Steps p.tables e below (T0.setTop (mkF m 208 #[.val (.int p1), .val (.long q2), .second, .val (.int p3), .val (.long q4), .second, .val (.int p5), .val (.int (own_ch p1)), .val (.int (own_ch p3)), .val (.int (own_ch p5)), .val (.ref b6), .val (.ref b9), .val (.ref b12), .val (.long (own_pos q2)), .second, .val (.long (own_pos q4)), .second, .val (.long ((own_pos q2) + (own_pos q4))), .second, .val (.long (own_eq (own_ch p1) (34 : Int32) (own_pos q2) + own_eq (own_ch p3) (34 : Int32) (own_pos q4))), .second, .val (.long (own_eq (own_ch p1) (92 : Int32) (own_pos q2) + own_eq (own_ch p3) (92 : Int32) (own_pos q4))), .second, .unset] [(.int (own_ch p3))])) _
        refine XS.iload X0.here hx rfl (hb hby at_208) rfl ?_
        show Steps p.tables e below (T0.setTop (mkF m 210 #[.val (.int p1), .val (.long q2), .second, .val (.int p3), .val (.long q4), .second, .val (.int p5), .val (.int (own_ch p1)), .val (.int (own_ch p3)), .val (.int (own_ch p5)), .val (.ref b6), .val (.ref b9), .val (.ref b12), .val (.long (own_pos q2)), .second, .val (.long (own_pos q4)), .second, .val (.long ((own_pos q2) + (own_pos q4))), .second, .val (.long (own_eq (own_ch p1) (34 : Int32) (own_pos q2) + own_eq (own_ch p3) (34 : Int32) (own_pos q4))), .second, .val (.long (own_eq (own_ch p1) (92 : Int32) (own_pos q2) + own_eq (own_ch p3) (92 : Int32) (own_pos q4))), .second, .unset] [(.int (own_ch p5)), (.int (own_ch p3))])) _
        by_cases c7 : (own_ch p3) = (own_ch p5)
        · refine XS.icmpNo X0.here hx rfl (hb hby at_210) rfl (teq c7).2 ?_
          show Steps p.tables e below (T0.setTop (mkF m 213 #[.val (.int p1), .val (.long q2), .second, .val (.int p3), .val (.long q4), .second, .val (.int p5), .val (.int (own_ch p1)), .val (.int (own_ch p3)), .val (.int (own_ch p5)), .val (.ref b6), .val (.ref b9), .val (.ref b12), .val (.long (own_pos q2)), .second, .val (.long (own_pos q4)), .second, .val (.long ((own_pos q2) + (own_pos q4))), .second, .val (.long (own_eq (own_ch p1) (34 : Int32) (own_pos q2) + own_eq (own_ch p3) (34 : Int32) (own_pos q4))), .second, .val (.long (own_eq (own_ch p1) (92 : Int32) (own_pos q2) + own_eq (own_ch p3) (92 : Int32) (own_pos q4))), .second, .unset] [])) _
          refine XS.iconst X0.here hx rfl (hb hby at_213) ?_
          show Steps p.tables e below (T0.setTop (mkF m 214 #[.val (.int p1), .val (.long q2), .second, .val (.int p3), .val (.long q4), .second, .val (.int p5), .val (.int (own_ch p1)), .val (.int (own_ch p3)), .val (.int (own_ch p5)), .val (.ref b6), .val (.ref b9), .val (.ref b12), .val (.long (own_pos q2)), .second, .val (.long (own_pos q4)), .second, .val (.long ((own_pos q2) + (own_pos q4))), .second, .val (.long (own_eq (own_ch p1) (34 : Int32) (own_pos q2) + own_eq (own_ch p3) (34 : Int32) (own_pos q4))), .second, .val (.long (own_eq (own_ch p1) (92 : Int32) (own_pos q2) + own_eq (own_ch p3) (92 : Int32) (own_pos q4))), .second, .unset] [(.int (1 : Int32))])) _
          refine XS.goto X0.here hx rfl (pc0 := 214) (pc' := 218) rfl (hb hby at_214) (by decide) (by decide) ?_
          show Steps p.tables e below (T0.setTop (mkF m 218 #[.val (.int p1), .val (.long q2), .second, .val (.int p3), .val (.long q4), .second, .val (.int p5), .val (.int (own_ch p1)), .val (.int (own_ch p3)), .val (.int (own_ch p5)), .val (.ref b6), .val (.ref b9), .val (.ref b12), .val (.long (own_pos q2)), .second, .val (.long (own_pos q4)), .second, .val (.long ((own_pos q2) + (own_pos q4))), .second, .val (.long (own_eq (own_ch p1) (34 : Int32) (own_pos q2) + own_eq (own_ch p3) (34 : Int32) (own_pos q4))), .second, .val (.long (own_eq (own_ch p1) (92 : Int32) (own_pos q2) + own_eq (own_ch p3) (92 : Int32) (own_pos q4))), .second, .unset] [(.int (1 : Int32))])) _
          refine XS.istore X0.here hx rfl (hb hby at_218) rfl (l' := #[.val (.int p1), .val (.long q2), .second, .val (.int p3), .val (.long q4), .second, .val (.int p5), .val (.int (own_ch p1)), .val (.int (own_ch p3)), .val (.int (own_ch p5)), .val (.ref b6), .val (.ref b9), .val (.ref b12), .val (.long (own_pos q2)), .second, .val (.long (own_pos q4)), .second, .val (.long ((own_pos q2) + (own_pos q4))), .second, .val (.long (own_eq (own_ch p1) (34 : Int32) (own_pos q2) + own_eq (own_ch p3) (34 : Int32) (own_pos q4))), .second, .val (.long (own_eq (own_ch p1) (92 : Int32) (own_pos q2) + own_eq (own_ch p3) (92 : Int32) (own_pos q4))), .second, .val (.int (1 : Int32))]) rfl ?_
          have ew : (own_h (own_ch p5) (own_pos q2) (own_ch p1) (own_pos q4) (own_ch p3)) = (1 : Int32) := by simp only [own_h, own_h2, if_pos c1, if_neg c2, if_pos c6, if_pos c7]
          rw [ew] at kt; exact kt
        · refine XS.icmpYes X0.here hx rfl (pc0 := 210) (pc' := 217) rfl (hb hby at_210) rfl (feq c7).2 (by decide) (by decide) ?_
          show Steps p.tables e below (T0.setTop (mkF m 217 #[.val (.int p1), .val (.long q2), .second, .val (.int p3), .val (.long q4), .second, .val (.int p5), .val (.int (own_ch p1)), .val (.int (own_ch p3)), .val (.int (own_ch p5)), .val (.ref b6), .val (.ref b9), .val (.ref b12), .val (.long (own_pos q2)), .second, .val (.long (own_pos q4)), .second, .val (.long ((own_pos q2) + (own_pos q4))), .second, .val (.long (own_eq (own_ch p1) (34 : Int32) (own_pos q2) + own_eq (own_ch p3) (34 : Int32) (own_pos q4))), .second, .val (.long (own_eq (own_ch p1) (92 : Int32) (own_pos q2) + own_eq (own_ch p3) (92 : Int32) (own_pos q4))), .second, .unset] [])) _
          refine XS.iconst X0.here hx rfl (hb hby at_217) ?_
          show Steps p.tables e below (T0.setTop (mkF m 218 #[.val (.int p1), .val (.long q2), .second, .val (.int p3), .val (.long q4), .second, .val (.int p5), .val (.int (own_ch p1)), .val (.int (own_ch p3)), .val (.int (own_ch p5)), .val (.ref b6), .val (.ref b9), .val (.ref b12), .val (.long (own_pos q2)), .second, .val (.long (own_pos q4)), .second, .val (.long ((own_pos q2) + (own_pos q4))), .second, .val (.long (own_eq (own_ch p1) (34 : Int32) (own_pos q2) + own_eq (own_ch p3) (34 : Int32) (own_pos q4))), .second, .val (.long (own_eq (own_ch p1) (92 : Int32) (own_pos q2) + own_eq (own_ch p3) (92 : Int32) (own_pos q4))), .second, .unset] [(.int (0 : Int32))])) _
          refine XS.istore X0.here hx rfl (hb hby at_218) rfl (l' := #[.val (.int p1), .val (.long q2), .second, .val (.int p3), .val (.long q4), .second, .val (.int p5), .val (.int (own_ch p1)), .val (.int (own_ch p3)), .val (.int (own_ch p5)), .val (.ref b6), .val (.ref b9), .val (.ref b12), .val (.long (own_pos q2)), .second, .val (.long (own_pos q4)), .second, .val (.long ((own_pos q2) + (own_pos q4))), .second, .val (.long (own_eq (own_ch p1) (34 : Int32) (own_pos q2) + own_eq (own_ch p3) (34 : Int32) (own_pos q4))), .second, .val (.long (own_eq (own_ch p1) (92 : Int32) (own_pos q2) + own_eq (own_ch p3) (92 : Int32) (own_pos q4))), .second, .val (.int (0 : Int32))]) rfl ?_
          have ew : (own_h (own_ch p5) (own_pos q2) (own_ch p1) (own_pos q4) (own_ch p3)) = (0 : Int32) := by simp only [own_h, own_h2, if_pos c1, if_neg c2, if_pos c6, if_neg c7]
          rw [ew] at kt; exact kt
      · refine XS.ifYes X0.here hx rfl (pc0 := 203) (pc' := 217) rfl (hb hby at_203) rfl ((if0 _ _).trans (flt c6).2.2.2) (by decide) (by decide) ?_
        show Steps p.tables e below (T0.setTop (mkF m 217 #[.val (.int p1), .val (.long q2), .second, .val (.int p3), .val (.long q4), .second, .val (.int p5), .val (.int (own_ch p1)), .val (.int (own_ch p3)), .val (.int (own_ch p5)), .val (.ref b6), .val (.ref b9), .val (.ref b12), .val (.long (own_pos q2)), .second, .val (.long (own_pos q4)), .second, .val (.long ((own_pos q2) + (own_pos q4))), .second, .val (.long (own_eq (own_ch p1) (34 : Int32) (own_pos q2) + own_eq (own_ch p3) (34 : Int32) (own_pos q4))), .second, .val (.long (own_eq (own_ch p1) (92 : Int32) (own_pos q2) + own_eq (own_ch p3) (92 : Int32) (own_pos q4))), .second, .unset] [])) _
        refine XS.iconst X0.here hx rfl (hb hby at_217) ?_
        show Steps p.tables e below (T0.setTop (mkF m 218 #[.val (.int p1), .val (.long q2), .second, .val (.int p3), .val (.long q4), .second, .val (.int p5), .val (.int (own_ch p1)), .val (.int (own_ch p3)), .val (.int (own_ch p5)), .val (.ref b6), .val (.ref b9), .val (.ref b12), .val (.long (own_pos q2)), .second, .val (.long (own_pos q4)), .second, .val (.long ((own_pos q2) + (own_pos q4))), .second, .val (.long (own_eq (own_ch p1) (34 : Int32) (own_pos q2) + own_eq (own_ch p3) (34 : Int32) (own_pos q4))), .second, .val (.long (own_eq (own_ch p1) (92 : Int32) (own_pos q2) + own_eq (own_ch p3) (92 : Int32) (own_pos q4))), .second, .unset] [(.int (0 : Int32))])) _
        refine XS.istore X0.here hx rfl (hb hby at_218) rfl (l' := #[.val (.int p1), .val (.long q2), .second, .val (.int p3), .val (.long q4), .second, .val (.int p5), .val (.int (own_ch p1)), .val (.int (own_ch p3)), .val (.int (own_ch p5)), .val (.ref b6), .val (.ref b9), .val (.ref b12), .val (.long (own_pos q2)), .second, .val (.long (own_pos q4)), .second, .val (.long ((own_pos q2) + (own_pos q4))), .second, .val (.long (own_eq (own_ch p1) (34 : Int32) (own_pos q2) + own_eq (own_ch p3) (34 : Int32) (own_pos q4))), .second, .val (.long (own_eq (own_ch p1) (92 : Int32) (own_pos q2) + own_eq (own_ch p3) (92 : Int32) (own_pos q4))), .second, .val (.int (0 : Int32))]) rfl ?_
        have ew : (own_h (own_ch p5) (own_pos q2) (own_ch p1) (own_pos q4) (own_ch p3)) = (0 : Int32) := by simp only [own_h, own_h2, if_pos c1, if_neg c2, if_neg c6]
        rw [ew] at kt; exact kt
  · refine XS.icmpYes X0.here hx rfl (pc0 := 182) (pc' := 217) rfl (hb hby at_182) rfl (flt c1).2.1 (by decide) (by decide) ?_
    show Steps p.tables e below (T0.setTop (mkF m 217 #[.val (.int p1), .val (.long q2), .second, .val (.int p3), .val (.long q4), .second, .val (.int p5), .val (.int (own_ch p1)), .val (.int (own_ch p3)), .val (.int (own_ch p5)), .val (.ref b6), .val (.ref b9), .val (.ref b12), .val (.long (own_pos q2)), .second, .val (.long (own_pos q4)), .second, .val (.long ((own_pos q2) + (own_pos q4))), .second, .val (.long (own_eq (own_ch p1) (34 : Int32) (own_pos q2) + own_eq (own_ch p3) (34 : Int32) (own_pos q4))), .second, .val (.long (own_eq (own_ch p1) (92 : Int32) (own_pos q2) + own_eq (own_ch p3) (92 : Int32) (own_pos q4))), .second, .unset] [])) _
    refine XS.iconst X0.here hx rfl (hb hby at_217) ?_
    show Steps p.tables e below (T0.setTop (mkF m 218 #[.val (.int p1), .val (.long q2), .second, .val (.int p3), .val (.long q4), .second, .val (.int p5), .val (.int (own_ch p1)), .val (.int (own_ch p3)), .val (.int (own_ch p5)), .val (.ref b6), .val (.ref b9), .val (.ref b12), .val (.long (own_pos q2)), .second, .val (.long (own_pos q4)), .second, .val (.long ((own_pos q2) + (own_pos q4))), .second, .val (.long (own_eq (own_ch p1) (34 : Int32) (own_pos q2) + own_eq (own_ch p3) (34 : Int32) (own_pos q4))), .second, .val (.long (own_eq (own_ch p1) (92 : Int32) (own_pos q2) + own_eq (own_ch p3) (92 : Int32) (own_pos q4))), .second, .unset] [(.int (0 : Int32))])) _
    refine XS.istore X0.here hx rfl (hb hby at_218) rfl (l' := #[.val (.int p1), .val (.long q2), .second, .val (.int p3), .val (.long q4), .second, .val (.int p5), .val (.int (own_ch p1)), .val (.int (own_ch p3)), .val (.int (own_ch p5)), .val (.ref b6), .val (.ref b9), .val (.ref b12), .val (.long (own_pos q2)), .second, .val (.long (own_pos q4)), .second, .val (.long ((own_pos q2) + (own_pos q4))), .second, .val (.long (own_eq (own_ch p1) (34 : Int32) (own_pos q2) + own_eq (own_ch p3) (34 : Int32) (own_pos q4))), .second, .val (.long (own_eq (own_ch p1) (92 : Int32) (own_pos q2) + own_eq (own_ch p3) (92 : Int32) (own_pos q4))), .second, .val (.int (0 : Int32))]) rfl ?_
    have ew : (own_h (own_ch p5) (own_pos q2) (own_ch p1) (own_pos q4) (own_ch p3)) = (0 : Int32) := by simp only [own_h, own_h2, if_neg c1]
    rw [ew] at kt; exact kt
theorem pn_0 : plainName "com/example/transmute/transmute/MeasuredTextAddPinLaw" = true := by first | (simp [plainName, overriddenIn]; done) | decide +kernel
theorem pd_0_0 : parseMethodDescriptor "()V" = some ⟨[], none⟩ := by decide +kernel
theorem pd_0_1 : parseMethodDescriptor "(CJ)V" = some ⟨[.char, .long], none⟩ := by decide +kernel
theorem pd_0_3 : parseMethodDescriptor "(Lcom/example/transmute/transmute/MeasuredText;)V" = some ⟨[(.object "com/example/transmute/transmute/MeasuredText")], none⟩ := by decide +kernel
theorem pd_0_4 : parseMethodDescriptor "()J" = some ⟨[], some .long⟩ := by decide +kernel
theorem pd_0_5 : parseMethodDescriptor "(Lcom/example/transmute/transmute/MeasuredText;)Z" = some ⟨[(.object "com/example/transmute/transmute/MeasuredText")], some .boolean⟩ := by decide +kernel
theorem ef_0 (m : MethodId) (x0 : Int32) (x1 : Int64) (x2 : Int32) (x3 : Int64) (x4 : Int32) : entryFrame m #[(.int x0), (.long x1), (.int x2), (.long x3), (.int x4)] maxLocals = mkF m 0 #[.val (.int x0), .val (.long x1), .second, .val (.int x2), .val (.long x3), .second, .val (.int x4), .unset, .unset, .unset, .unset, .unset, .unset, .unset, .unset, .unset, .unset, .unset, .unset, .unset, .unset, .unset, .unset, .unset] [] := by first | (simp [entryFrame, mkF, argsToLocals, Value.category, maxLocals]; done) | rfl
def Q0 (Z : State) (p1 : Int32) (q2 : Int64) (p3 : Int32) (q4 : Int64) (p5 : Int32) (h0 : Heap) (n0 : Nat) (v : Option Value) (h : Heap) (L : List Loc) : Prop := v = some (.int (1 : Int32)) ∧ Fr n0 L
set_option maxRecDepth 65536 in
set_option maxHeartbeats 40000000 in
theorem rm0 (l : Launch) (Z : State) (a0 : Array Value) (hw : ∀ d ∈ tables_1, d.before a0 Z = true) (ws : List Jvm.Cond) (p1 : Int32) (q2 : Int64) (p3 : Int32) (q4 : Int64) (p5 : Int32) (h0 : Heap) (n0 : Nat) (Z0 : n0 ≤ h0.size) :
    MetFree l x (head1 (Jvm.Cond.code x code maxLocals ret :: ws) room_1) (fun a U => a = #[(.int p1), (.long q2), (.int p3), (.long q4), (.int p5)] ∧ Z.Warmed39 U.vm ∧ U.heap = h0) (fun _ _ _ _ _ => True) (fun _ U o U' => ∃ v L, o = .returned v ∧ Q0 Z p1 q2 p3 q4 p5 h0 n0 v U'.heap L ∧ FrameEnd U o U' L room_1.cells room_1.slots) := by
  refine MetFree.of_bodySF (plainFor_of_name pn_0) hisR ?_
  intro p e s m args below meth c s₁ Bd hml0 hP hK
  obtain ⟨rfl, hZ, hh⟩ := hP
  have hx := Bd.exec
  have hby := Bd.bytes
  have hml : c.maxLocals = 24 := hml0
  have hown : s.vm.findClass "com/example/transmute/transmute/MeasuredTextAddPinLaw" = some m.cls := findClass_of_methodNamed Bd.named
  have hnm := (name_of_methodNamed Bd.named Bd.method).1
  have X0 : Stand p l e room_1 s m #[(.int p1), (.long q2), (.int p3), (.long q4), (.int p5)] below meth c s₁ [] 0 0 := Stand.of_body Bd
  have e0 : s₁.heap = h0 := by rw [← hh, Bd.state]; rfl
  have N0 := Fr.nil n0
  have pre0 : ∀ t, Steps p.tables e below (s₁.setTop (mkF m 0 #[.val (.int p1), .val (.long q2), .second, .val (.int p3), .val (.long q4), .second, .val (.int p5), .unset, .unset, .unset, .unset, .unset, .unset, .unset, .unset, .unset, .unset, .unset, .unset, .unset, .unset, .unset, .unset, .unset] [])) t → Steps p.tables e below (s₁.setTop (entryFrame m #[(.int p1), (.long q2), (.int p3), (.long q4), (.int p5)] maxLocals)) t := fun t k => castTop (ef_0 m p1 q2 p3 q4 p5) k
  obtain ⟨T6, h6, X6, e6, E6, A6, D6, -, st6⟩ := newO X0 hx hZ hown (hw _ (List.mem_of_getElem? (i := 0) rfl)) (hw _ (List.mem_of_getElem? (i := 1) rfl)) (hw _ (List.mem_of_getElem? (i := 2) rfl)) e0 (g := (mkF m 25 #[.val (.int p1), .val (.long q2), .second, .val (.int p3), .val (.long q4), .second, .val (.int p5), .val (.int (own_ch p1)), .val (.int (own_ch p3)), .val (.int (own_ch p5)), .unset, .unset, .unset, .unset, .unset, .unset, .unset, .unset, .unset, .unset, .unset, .unset, .unset, .unset] [])) rfl (hb hby at_25) (by decide) (by decide)
  obtain ⟨b6, g6⟩ : ∃ z, z = h0.size := ⟨_, rfl⟩
  rw [← g6] at A6 D6 st6
  have F_m_nLength_b6 : Fld Z h6 b6 "com/example/transmute/transmute/MeasuredText" "m_nLength" "J" (.long (0 : Int64)) := D6 (Or.inl (hw _ (List.mem_of_getElem? (i := 15) rfl))) (ty := .long) (by decide)
  have F_m_nQuotes_b6 : Fld Z h6 b6 "com/example/transmute/transmute/MeasuredText" "m_nQuotes" "J" (.long (0 : Int64)) := D6 (Or.inl (hw _ (List.mem_of_getElem? (i := 17) rfl))) (ty := .long) (by decide)
  have F_m_nBackslashes_b6 : Fld Z h6 b6 "com/example/transmute/transmute/MeasuredText" "m_nBackslashes" "J" (.long (0 : Int64)) := D6 (Or.inl (hw _ (List.mem_of_getElem? (i := 19) rfl))) (ty := .long) (by decide)
  have F_m_nLowChars_b6 : Fld Z h6 b6 "com/example/transmute/transmute/MeasuredText" "m_nLowChars" "J" (.long (0 : Int64)) := D6 (Or.inl (hw _ (List.mem_of_getElem? (i := 21) rfl))) (ty := .long) (by decide)
  have F_m_nHighChars_b6 : Fld Z h6 b6 "com/example/transmute/transmute/MeasuredText" "m_nHighChars" "J" (.long (0 : Int64)) := D6 (Or.inl (hw _ (List.mem_of_getElem? (i := 26) rfl))) (ty := .long) (by decide)
  have E_b6 := A6
  have g_b6 : n0 ≤ b6 := Nat.le_trans Z0 (Nat.le_of_eq g6.symm)
  have sz_b6 : h0.size ≤ b6 := (Nat.le_trans (Keep.refl h0 []).1 (Nat.le_of_eq g6.symm))
  have K6 : Keep h0 h6 [] := (Keep.refl h0 []).ext E6
  obtain ⟨_, _, ⟨T7, L7, k7, n7⟩, -, X7, ⟨Lc7, hQ7, l7, y7, z7⟩, st7⟩ := X6.specialBack hx (y := (⟨"com/example/transmute/transmute/MeasuredText", "<init>", "()V"⟩ : MethodName)) rfl hown (mvT hZ (hw _ (List.mem_of_getElem? (i := 3) rfl))) (mvT hZ (hw _ (List.mem_of_getElem? (i := 4) rfl))) (mvT hZ (hw _ (List.mem_of_getElem? (i := 5) rfl))) (by decide) (backOf (W := 1) (rm1 l Z a0 hw [] b6 h6 n0 (Nat.le_trans Z0 K6.1)) hZ (hw _ (List.mem_of_getElem? (i := 5) rfl)) (hw _ (List.mem_of_getElem? (i := 2) rfl)) (by decide) (by decide)) (g := (mkF m 29 #[.val (.int p1), .val (.long q2), .second, .val (.int p3), .val (.long q4), .second, .val (.int p5), .val (.int (own_ch p1)), .val (.int (own_ch p3)), .val (.int (own_ch p5)), .unset, .unset, .unset, .unset, .unset, .unset, .unset, .unset, .unset, .unset, .unset, .unset, .unset, .unset] [(.ref b6), (.ref b6)])) rfl (by rw [hml]; rfl) (Steps.refl _) (a := b6) (argsL := []) (rest := [(.ref b6)]) (lenOf pd_0_0 rfl) rfl (by show 2 * 0 + _ ≤ _; exact Nat.le_of_eq rfl) (hb hby at_29) (fun _ _ => ⟨rfl, e6, (by decide : 1 + 0 ≤ _), (by decide : 6 + 0 ≤ _)⟩)
  dsimp only [Pt.U, Pt.locs, Pt.cells, Pt.slots] at X7 l7 y7 z7 st7 hQ7
  subst l7 y7 z7
  obtain ⟨rfl, N7q, eh7⟩ := hQ7
  have N7 := Fr.app N0 N7q
  have kc7 : Keep h6 T7.heap [] := by rw [eh7]; exact Keep.refl _ _
  have kh7 : Keep h0 T7.heap [] := by rw [eh7]; exact K6
  have Mx7 : own_MT Z T7.heap b6 0 0 0 0 0 := own_mt_keep (⟨E_b6, F_m_nLength_b6, F_m_nQuotes_b6, F_m_nBackslashes_b6, F_m_nLowChars_b6, F_m_nHighChars_b6⟩ : own_MT Z h6 b6 0 0 0 0 0) kc7 nin0
  obtain ⟨cq8, kq8, q8a, q8b, q8c⟩ := isOf hZ rfl Mx7.1
  obtain ⟨_, _, ⟨T8, L8, k8, n8⟩, -, X8, ⟨Lc8, hQ8, l8, y8, z8⟩, st8⟩ := X7.virtualBack hx (y := (⟨"com/example/transmute/transmute/MeasuredText", "addRepeated", "(CJ)V"⟩ : MethodName)) (z := (⟨"com/example/transmute/transmute/MeasuredText", "addRepeated", "(CJ)V"⟩ : MethodName)) hown (mvT hZ (hw _ (List.mem_of_getElem? (i := 9) rfl))) (mvT hZ (hw _ (List.mem_of_getElem? (i := 10) rfl))) (notFace_of_selects (args := #[]) (mvT hZ (hw _ (List.mem_of_getElem? (i := 12) rfl)))) (mvT hZ (hw _ (List.mem_of_getElem? (i := 12) rfl))) (mvT hZ (hw _ (List.mem_of_getElem? (i := 11) rfl))) (by decide) (backOf (W := 0) (rm3 l Z a0 hw [] b6 (own_ch p1) q2 0 0 0 0 0 T7.heap n0 (Nat.le_trans Z0 kh7.1) Mx7 g_b6) hZ (hw _ (List.mem_of_getElem? (i := 13) rfl)) (hw _ (List.mem_of_getElem? (i := 2) rfl)) (by decide) (by decide)) q8a q8c (g := (mkF m 39 #[.val (.int p1), .val (.long q2), .second, .val (.int p3), .val (.long q4), .second, .val (.int p5), .val (.int (own_ch p1)), .val (.int (own_ch p3)), .val (.int (own_ch p5)), .val (.ref b6), .unset, .unset, .unset, .unset, .unset, .unset, .unset, .unset, .unset, .unset, .unset, .unset, .unset] [(.long q2), (.int (own_ch p1)), (.ref b6)])) rfl (by rw [hml]; rfl) (Steps.refl _) (argsL := [(.int (own_ch p1)), (.long q2)]) (rest := []) (lenOf pd_0_1 rfl) rfl (by show 2 * 0 + _ ≤ _; exact Nat.le_of_eq rfl) (hb hby at_39) (fun _ _ => ⟨rfl, rfl, (by decide : 1 + 0 ≤ _), (by decide : 6 + 0 ≤ _)⟩)
  dsimp only [Pt.U, Pt.locs, Pt.cells, Pt.slots] at X8 l8 y8 z8 st8 hQ8
  subst l8 y8 z8
  obtain ⟨rfl, N8q, kc8, Mx8⟩ := hQ8
  have N8 := Fr.app N7 N8q
  have kh8 : Keep h0 T8.heap [] := kh7.trans kc8 (allS (Or.inr sz_b6) all0)
  obtain ⟨T9, h9, X9, e9, E9, A9, D9, -, st9⟩ := newO X8 hx hZ hown (hw _ (List.mem_of_getElem? (i := 0) rfl)) (hw _ (List.mem_of_getElem? (i := 1) rfl)) (hw _ (List.mem_of_getElem? (i := 2) rfl)) rfl (g := (mkF m 42 #[.val (.int p1), .val (.long q2), .second, .val (.int p3), .val (.long q4), .second, .val (.int p5), .val (.int (own_ch p1)), .val (.int (own_ch p3)), .val (.int (own_ch p5)), .val (.ref b6), .unset, .unset, .unset, .unset, .unset, .unset, .unset, .unset, .unset, .unset, .unset, .unset, .unset] [])) rfl (hb hby at_42) (by decide) (by decide)
  obtain ⟨b9, g9⟩ : ∃ z, z = T8.heap.size := ⟨_, rfl⟩
  rw [← g9] at A9 D9 st9
  have F_m_nLength_b9 : Fld Z h9 b9 "com/example/transmute/transmute/MeasuredText" "m_nLength" "J" (.long (0 : Int64)) := D9 (Or.inl (hw _ (List.mem_of_getElem? (i := 15) rfl))) (ty := .long) (by decide)
  have F_m_nQuotes_b9 : Fld Z h9 b9 "com/example/transmute/transmute/MeasuredText" "m_nQuotes" "J" (.long (0 : Int64)) := D9 (Or.inl (hw _ (List.mem_of_getElem? (i := 17) rfl))) (ty := .long) (by decide)
  have F_m_nBackslashes_b9 : Fld Z h9 b9 "com/example/transmute/transmute/MeasuredText" "m_nBackslashes" "J" (.long (0 : Int64)) := D9 (Or.inl (hw _ (List.mem_of_getElem? (i := 19) rfl))) (ty := .long) (by decide)
  have F_m_nLowChars_b9 : Fld Z h9 b9 "com/example/transmute/transmute/MeasuredText" "m_nLowChars" "J" (.long (0 : Int64)) := D9 (Or.inl (hw _ (List.mem_of_getElem? (i := 21) rfl))) (ty := .long) (by decide)
  have F_m_nHighChars_b9 : Fld Z h9 b9 "com/example/transmute/transmute/MeasuredText" "m_nHighChars" "J" (.long (0 : Int64)) := D9 (Or.inl (hw _ (List.mem_of_getElem? (i := 26) rfl))) (ty := .long) (by decide)
  have E_b9 := A9
  have g_b9 : n0 ≤ b9 := Nat.le_trans (Nat.le_trans (Nat.le_trans (Nat.le_trans Z0 E6.1) kc7.1) kc8.1) (Nat.le_of_eq g9.symm)
  have sz_b9 : h0.size ≤ b9 := (Nat.le_trans kh8.1 (Nat.le_of_eq g9.symm))
  have K9 : Keep h0 h9 [] := kh8.ext E9
  obtain ⟨_, _, ⟨T10, L10, k10, n10⟩, -, X10, ⟨Lc10, hQ10, l10, y10, z10⟩, st10⟩ := X9.specialBack hx (y := (⟨"com/example/transmute/transmute/MeasuredText", "<init>", "()V"⟩ : MethodName)) rfl hown (mvT hZ (hw _ (List.mem_of_getElem? (i := 3) rfl))) (mvT hZ (hw _ (List.mem_of_getElem? (i := 4) rfl))) (mvT hZ (hw _ (List.mem_of_getElem? (i := 5) rfl))) (by decide) (backOf (W := 1) (rm1 l Z a0 hw [] b9 h9 n0 (Nat.le_trans Z0 K9.1)) hZ (hw _ (List.mem_of_getElem? (i := 5) rfl)) (hw _ (List.mem_of_getElem? (i := 2) rfl)) (by decide) (by decide)) (g := (mkF m 46 #[.val (.int p1), .val (.long q2), .second, .val (.int p3), .val (.long q4), .second, .val (.int p5), .val (.int (own_ch p1)), .val (.int (own_ch p3)), .val (.int (own_ch p5)), .val (.ref b6), .unset, .unset, .unset, .unset, .unset, .unset, .unset, .unset, .unset, .unset, .unset, .unset, .unset] [(.ref b9), (.ref b9)])) rfl (by rw [hml]; rfl) (Steps.refl _) (a := b9) (argsL := []) (rest := [(.ref b9)]) (lenOf pd_0_0 rfl) rfl (by show 2 * 0 + _ ≤ _; exact Nat.le_of_eq rfl) (hb hby at_46) (fun _ _ => ⟨rfl, e9, (by decide : 2 + 0 ≤ _), (by decide : 12 + 0 ≤ _)⟩)
  dsimp only [Pt.U, Pt.locs, Pt.cells, Pt.slots] at X10 l10 y10 z10 st10 hQ10
  subst l10 y10 z10
  obtain ⟨rfl, N10q, eh10⟩ := hQ10
  have N10 := Fr.app N8 N10q
  have kc10 : Keep h9 T10.heap [] := by rw [eh10]; exact Keep.refl _ _
  have kh10 : Keep h0 T10.heap [] := by rw [eh10]; exact K9
  have My10 : own_MT Z T10.heap b9 0 0 0 0 0 := own_mt_keep (⟨E_b9, F_m_nLength_b9, F_m_nQuotes_b9, F_m_nBackslashes_b9, F_m_nLowChars_b9, F_m_nHighChars_b9⟩ : own_MT Z h9 b9 0 0 0 0 0) kc10 nin0
  have Mx10 := own_mt_keep (own_mt_ext Mx8 E9) kc10 nin0
  obtain ⟨cq11, kq11, q11a, q11b, q11c⟩ := isOf hZ rfl My10.1
  obtain ⟨_, _, ⟨T11, L11, k11, n11⟩, -, X11, ⟨Lc11, hQ11, l11, y11, z11⟩, st11⟩ := X10.virtualBack hx (y := (⟨"com/example/transmute/transmute/MeasuredText", "addRepeated", "(CJ)V"⟩ : MethodName)) (z := (⟨"com/example/transmute/transmute/MeasuredText", "addRepeated", "(CJ)V"⟩ : MethodName)) hown (mvT hZ (hw _ (List.mem_of_getElem? (i := 9) rfl))) (mvT hZ (hw _ (List.mem_of_getElem? (i := 10) rfl))) (notFace_of_selects (args := #[]) (mvT hZ (hw _ (List.mem_of_getElem? (i := 12) rfl)))) (mvT hZ (hw _ (List.mem_of_getElem? (i := 12) rfl))) (mvT hZ (hw _ (List.mem_of_getElem? (i := 11) rfl))) (by decide) (backOf (W := 0) (rm3 l Z a0 hw [] b9 (own_ch p3) q4 0 0 0 0 0 T10.heap n0 (Nat.le_trans Z0 kh10.1) My10 g_b9) hZ (hw _ (List.mem_of_getElem? (i := 13) rfl)) (hw _ (List.mem_of_getElem? (i := 2) rfl)) (by decide) (by decide)) q11a q11c (g := (mkF m 57 #[.val (.int p1), .val (.long q2), .second, .val (.int p3), .val (.long q4), .second, .val (.int p5), .val (.int (own_ch p1)), .val (.int (own_ch p3)), .val (.int (own_ch p5)), .val (.ref b6), .val (.ref b9), .unset, .unset, .unset, .unset, .unset, .unset, .unset, .unset, .unset, .unset, .unset, .unset] [(.long q4), (.int (own_ch p3)), (.ref b9)])) rfl (by rw [hml]; rfl) (Steps.refl _) (argsL := [(.int (own_ch p3)), (.long q4)]) (rest := []) (lenOf pd_0_1 rfl) rfl (by show 2 * 0 + _ ≤ _; exact Nat.le_of_eq rfl) (hb hby at_57) (fun _ _ => ⟨rfl, rfl, (by decide : 2 + 0 ≤ _), (by decide : 12 + 0 ≤ _)⟩)
  dsimp only [Pt.U, Pt.locs, Pt.cells, Pt.slots] at X11 l11 y11 z11 st11 hQ11
  subst l11 y11 z11
  obtain ⟨rfl, N11q, kc11, My11⟩ := hQ11
  have N11 := Fr.app N10 N11q
  have kh11 : Keep h0 T11.heap [] := kh10.trans kc11 (allS (Or.inr sz_b9) all0)
  have ne69 : b6 ≠ b9 := Nat.ne_of_lt (g9 ▸ Mx8.1.lt)
  have Mx11 := own_mt_keep Mx10 kc11 (ninS ne69 nin0)
  obtain ⟨T12, h12, X12, e12, E12, A12, D12, -, st12⟩ := newO X11 hx hZ hown (hw _ (List.mem_of_getElem? (i := 0) rfl)) (hw _ (List.mem_of_getElem? (i := 1) rfl)) (hw _ (List.mem_of_getElem? (i := 2) rfl)) rfl (g := (mkF m 60 #[.val (.int p1), .val (.long q2), .second, .val (.int p3), .val (.long q4), .second, .val (.int p5), .val (.int (own_ch p1)), .val (.int (own_ch p3)), .val (.int (own_ch p5)), .val (.ref b6), .val (.ref b9), .unset, .unset, .unset, .unset, .unset, .unset, .unset, .unset, .unset, .unset, .unset, .unset] [])) rfl (hb hby at_60) (by decide) (by decide)
  obtain ⟨b12, g12⟩ : ∃ z, z = T11.heap.size := ⟨_, rfl⟩
  rw [← g12] at A12 D12 st12
  have F_m_nLength_b12 : Fld Z h12 b12 "com/example/transmute/transmute/MeasuredText" "m_nLength" "J" (.long (0 : Int64)) := D12 (Or.inl (hw _ (List.mem_of_getElem? (i := 15) rfl))) (ty := .long) (by decide)
  have F_m_nQuotes_b12 : Fld Z h12 b12 "com/example/transmute/transmute/MeasuredText" "m_nQuotes" "J" (.long (0 : Int64)) := D12 (Or.inl (hw _ (List.mem_of_getElem? (i := 17) rfl))) (ty := .long) (by decide)
  have F_m_nBackslashes_b12 : Fld Z h12 b12 "com/example/transmute/transmute/MeasuredText" "m_nBackslashes" "J" (.long (0 : Int64)) := D12 (Or.inl (hw _ (List.mem_of_getElem? (i := 19) rfl))) (ty := .long) (by decide)
  have F_m_nLowChars_b12 : Fld Z h12 b12 "com/example/transmute/transmute/MeasuredText" "m_nLowChars" "J" (.long (0 : Int64)) := D12 (Or.inl (hw _ (List.mem_of_getElem? (i := 21) rfl))) (ty := .long) (by decide)
  have F_m_nHighChars_b12 : Fld Z h12 b12 "com/example/transmute/transmute/MeasuredText" "m_nHighChars" "J" (.long (0 : Int64)) := D12 (Or.inl (hw _ (List.mem_of_getElem? (i := 26) rfl))) (ty := .long) (by decide)
  have E_b12 := A12
  have g_b12 : n0 ≤ b12 := Nat.le_trans (Nat.le_trans (Nat.le_trans (Nat.le_trans (Nat.le_trans (Nat.le_trans (Nat.le_trans Z0 E6.1) kc7.1) kc8.1) E9.1) kc10.1) kc11.1) (Nat.le_of_eq g12.symm)
  have sz_b12 : h0.size ≤ b12 := (Nat.le_trans kh11.1 (Nat.le_of_eq g12.symm))
  have K12 : Keep h0 h12 [] := kh11.ext E12
  obtain ⟨_, _, ⟨T13, L13, k13, n13⟩, -, X13, ⟨Lc13, hQ13, l13, y13, z13⟩, st13⟩ := X12.specialBack hx (y := (⟨"com/example/transmute/transmute/MeasuredText", "<init>", "()V"⟩ : MethodName)) rfl hown (mvT hZ (hw _ (List.mem_of_getElem? (i := 3) rfl))) (mvT hZ (hw _ (List.mem_of_getElem? (i := 4) rfl))) (mvT hZ (hw _ (List.mem_of_getElem? (i := 5) rfl))) (by decide) (backOf (W := 1) (rm1 l Z a0 hw [] b12 h12 n0 (Nat.le_trans Z0 K12.1)) hZ (hw _ (List.mem_of_getElem? (i := 5) rfl)) (hw _ (List.mem_of_getElem? (i := 2) rfl)) (by decide) (by decide)) (g := (mkF m 64 #[.val (.int p1), .val (.long q2), .second, .val (.int p3), .val (.long q4), .second, .val (.int p5), .val (.int (own_ch p1)), .val (.int (own_ch p3)), .val (.int (own_ch p5)), .val (.ref b6), .val (.ref b9), .unset, .unset, .unset, .unset, .unset, .unset, .unset, .unset, .unset, .unset, .unset, .unset] [(.ref b12), (.ref b12)])) rfl (by rw [hml]; rfl) (Steps.refl _) (a := b12) (argsL := []) (rest := [(.ref b12)]) (lenOf pd_0_0 rfl) rfl (by show 2 * 0 + _ ≤ _; exact Nat.le_of_eq rfl) (hb hby at_64) (fun _ _ => ⟨rfl, e12, (by decide : 3 + 0 ≤ _), (by decide : 18 + 0 ≤ _)⟩)
  dsimp only [Pt.U, Pt.locs, Pt.cells, Pt.slots] at X13 l13 y13 z13 st13 hQ13
  subst l13 y13 z13
  obtain ⟨rfl, N13q, eh13⟩ := hQ13
  have N13 := Fr.app N11 N13q
  have kc13 : Keep h12 T13.heap [] := by rw [eh13]; exact Keep.refl _ _
  have kh13 : Keep h0 T13.heap [] := by rw [eh13]; exact K12
  have Mp13 : own_MT Z T13.heap b12 0 0 0 0 0 := own_mt_keep (⟨E_b12, F_m_nLength_b12, F_m_nQuotes_b12, F_m_nBackslashes_b12, F_m_nLowChars_b12, F_m_nHighChars_b12⟩ : own_MT Z h12 b12 0 0 0 0 0) kc13 nin0
  have Mx13 := own_mt_keep (own_mt_ext Mx11 E12) kc13 nin0
  have My13 := own_mt_keep (own_mt_ext My11 E12) kc13 nin0
  obtain ⟨cq14, kq14, q14a, q14b, q14c⟩ := isOf hZ rfl Mp13.1
  obtain ⟨_, _, ⟨T14, L14, k14, n14⟩, -, X14, ⟨Lc14, hQ14, l14, y14, z14⟩, st14⟩ := X13.virtualBack hx (y := (⟨"com/example/transmute/transmute/MeasuredText", "addRepeated", "(CJ)V"⟩ : MethodName)) (z := (⟨"com/example/transmute/transmute/MeasuredText", "addRepeated", "(CJ)V"⟩ : MethodName)) hown (mvT hZ (hw _ (List.mem_of_getElem? (i := 9) rfl))) (mvT hZ (hw _ (List.mem_of_getElem? (i := 10) rfl))) (notFace_of_selects (args := #[]) (mvT hZ (hw _ (List.mem_of_getElem? (i := 12) rfl)))) (mvT hZ (hw _ (List.mem_of_getElem? (i := 12) rfl))) (mvT hZ (hw _ (List.mem_of_getElem? (i := 11) rfl))) (by decide) (backOf (W := 0) (rm3 l Z a0 hw [] b12 (own_ch p5) (1 : Int64) 0 0 0 0 0 T13.heap n0 (Nat.le_trans Z0 kh13.1) Mp13 g_b12) hZ (hw _ (List.mem_of_getElem? (i := 13) rfl)) (hw _ (List.mem_of_getElem? (i := 2) rfl)) (by decide) (by decide)) q14a q14c (g := (mkF m 74 #[.val (.int p1), .val (.long q2), .second, .val (.int p3), .val (.long q4), .second, .val (.int p5), .val (.int (own_ch p1)), .val (.int (own_ch p3)), .val (.int (own_ch p5)), .val (.ref b6), .val (.ref b9), .val (.ref b12), .unset, .unset, .unset, .unset, .unset, .unset, .unset, .unset, .unset, .unset, .unset] [(.long (1 : Int64)), (.int (own_ch p5)), (.ref b12)])) rfl (by rw [hml]; rfl) (Steps.refl _) (argsL := [(.int (own_ch p5)), (.long (1 : Int64))]) (rest := []) (lenOf pd_0_1 rfl) rfl (by show 2 * 0 + _ ≤ _; exact Nat.le_of_eq rfl) (hb hby at_74) (fun _ _ => ⟨rfl, rfl, (by decide : 3 + 0 ≤ _), (by decide : 18 + 0 ≤ _)⟩)
  dsimp only [Pt.U, Pt.locs, Pt.cells, Pt.slots] at X14 l14 y14 z14 st14 hQ14
  subst l14 y14 z14
  obtain ⟨rfl, N14q, kc14, Mp14⟩ := hQ14
  have N14 := Fr.app N13 N14q
  have kh14 : Keep h0 T14.heap [] := kh13.trans kc14 (allS (Or.inr sz_b12) all0)
  have ne612 : b6 ≠ b12 := Nat.ne_of_lt (g12 ▸ Mx11.1.lt)
  have ne912 : b9 ≠ b12 := Nat.ne_of_lt (g12 ▸ My11.1.lt)
  have Mx14 := own_mt_keep Mx13 kc14 (ninS ne612 nin0)
  have My14 := own_mt_keep My13 kc14 (ninS ne912 nin0)
  obtain ⟨cq15, kq15, q15a, q15b, q15c⟩ := isOf hZ rfl Mx14.1
  obtain ⟨_, _, ⟨T15, L15, k15, n15⟩, -, X15, ⟨Lc15, hQ15, l15, y15, z15⟩, st15⟩ := X14.virtualBack hx (y := (⟨"com/example/transmute/transmute/MeasuredText", "add", "(Lcom/example/transmute/transmute/MeasuredText;)V"⟩ : MethodName)) (z := (⟨"com/example/transmute/transmute/MeasuredText", "add", "(Lcom/example/transmute/transmute/MeasuredText;)V"⟩ : MethodName)) hown (mvT hZ (hw _ (List.mem_of_getElem? (i := 30) rfl))) (mvT hZ (hw _ (List.mem_of_getElem? (i := 31) rfl))) (notFace_of_selects (args := #[]) (mvT hZ (hw _ (List.mem_of_getElem? (i := 33) rfl)))) (mvT hZ (hw _ (List.mem_of_getElem? (i := 33) rfl))) (mvT hZ (hw _ (List.mem_of_getElem? (i := 32) rfl))) (by decide) (backOf (W := 0) (rm6 l Z a0 hw [] b6 b9 (0 + own_pos q2) (0 + own_pos q4) (0 + own_eq (own_ch p1) 34 (own_pos q2)) (0 + own_eq (own_ch p3) 34 (own_pos q4)) (0 + own_eq (own_ch p1) 92 (own_pos q2)) (0 + own_eq (own_ch p3) 92 (own_pos q4)) (0 ||| own_bit q2 (own_low (own_ch p1))) (0 ||| own_bit q4 (own_low (own_ch p3))) (0 ||| own_bit q2 (own_high (own_ch p1))) (0 ||| own_bit q4 (own_high (own_ch p3))) T14.heap n0 (Nat.le_trans Z0 kh14.1) Mx14.2.1 My14.2.1 Mx14.1 g_b6 (Ne.symm ne69) Mx14.2.2.1 My14.2.2.1 Mx14.2.2.2.1 My14.2.2.2.1 Mx14.2.2.2.2.1 My14.2.2.2.2.1 Mx14.2.2.2.2.2 My14.2.2.2.2.2) hZ (hw _ (List.mem_of_getElem? (i := 34) rfl)) (hw _ (List.mem_of_getElem? (i := 2) rfl)) (by decide) (by decide)) q15a q15c (g := (mkF m 81 #[.val (.int p1), .val (.long q2), .second, .val (.int p3), .val (.long q4), .second, .val (.int p5), .val (.int (own_ch p1)), .val (.int (own_ch p3)), .val (.int (own_ch p5)), .val (.ref b6), .val (.ref b9), .val (.ref b12), .unset, .unset, .unset, .unset, .unset, .unset, .unset, .unset, .unset, .unset, .unset] [(.ref b9), (.ref b6)])) rfl (by rw [hml]; rfl) (Steps.refl _) (argsL := [(.ref b9)]) (rest := []) (lenOf pd_0_3 rfl) rfl (by show 2 * 0 + _ ≤ _; exact Nat.le_of_eq rfl) (hb hby at_81) (fun _ _ => ⟨rfl, rfl, (by decide : 3 + 0 ≤ _), (by decide : 18 + 0 ≤ _)⟩)
  dsimp only [Pt.U, Pt.locs, Pt.cells, Pt.slots] at X15 l15 y15 z15 st15 hQ15
  subst l15 y15 z15
  obtain ⟨rfl, N15q, kc15, e15a, f15a, f15b, f15c, f15d, f15e⟩ := hQ15
  have N15 := Fr.app N14 N15q
  have kh15 : Keep h0 T15.heap [] := kh14.trans kc15 (allS (Or.inr sz_b6) all0)
  have Mx15 : own_MT Z T15.heap b6 ((0 + own_pos q2) + (0 + own_pos q4)) ((0 + own_eq (own_ch p1) 34 (own_pos q2)) + (0 + own_eq (own_ch p3) 34 (own_pos q4))) ((0 + own_eq (own_ch p1) 92 (own_pos q2)) + (0 + own_eq (own_ch p3) 92 (own_pos q4))) ((0 ||| own_bit q2 (own_low (own_ch p1))) ||| (0 ||| own_bit q4 (own_low (own_ch p3)))) ((0 ||| own_bit q2 (own_high (own_ch p1))) ||| (0 ||| own_bit q4 (own_high (own_ch p3)))) := ⟨e15a, f15a, f15b, f15c, f15d, f15e⟩
  have My15 := own_mt_keep My14 kc15 (ninS (Ne.symm ne69) nin0)
  have Mp15 := own_mt_keep Mp14 kc15 (ninS (Ne.symm ne612) nin0)
  obtain ⟨cq16, kq16, q16a, q16b, q16c⟩ := isOf hZ rfl Mx15.1
  obtain ⟨_, _, ⟨T16, L16, k16, n16⟩, -, X16, ⟨Lc16, hQ16, l16, y16, z16⟩, st16⟩ := X15.virtualBack hx (y := (⟨"com/example/transmute/transmute/MeasuredText", "length", "()J"⟩ : MethodName)) (z := (⟨"com/example/transmute/transmute/MeasuredText", "length", "()J"⟩ : MethodName)) hown (mvT hZ (hw _ (List.mem_of_getElem? (i := 35) rfl))) (mvT hZ (hw _ (List.mem_of_getElem? (i := 36) rfl))) (notFace_of_selects (args := #[]) (mvT hZ (hw _ (List.mem_of_getElem? (i := 38) rfl)))) (mvT hZ (hw _ (List.mem_of_getElem? (i := 38) rfl))) (mvT hZ (hw _ (List.mem_of_getElem? (i := 37) rfl))) (by decide) (backOf (W := 0) (rm7 l Z a0 hw [] b6 ((0 + own_pos q2) + (0 + own_pos q4)) T15.heap n0 (Nat.le_trans Z0 kh15.1) Mx15.2.1) hZ (hw _ (List.mem_of_getElem? (i := 39) rfl)) (hw _ (List.mem_of_getElem? (i := 2) rfl)) (by decide) (by decide)) q16a q16c (g := (mkF m 222 #[.val (.int p1), .val (.long q2), .second, .val (.int p3), .val (.long q4), .second, .val (.int p5), .val (.int (own_ch p1)), .val (.int (own_ch p3)), .val (.int (own_ch p5)), .val (.ref b6), .val (.ref b9), .val (.ref b12), .val (.long (own_pos q2)), .second, .val (.long (own_pos q4)), .second, .val (.long ((own_pos q2) + (own_pos q4))), .second, .val (.long (own_eq (own_ch p1) (34 : Int32) (own_pos q2) + own_eq (own_ch p3) (34 : Int32) (own_pos q4))), .second, .val (.long (own_eq (own_ch p1) (92 : Int32) (own_pos q2) + own_eq (own_ch p3) (92 : Int32) (own_pos q4))), .second, .val (.int (own_h (own_ch p5) (own_pos q2) (own_ch p1) (own_pos q4) (own_ch p3)))] [(.ref b6)])) rfl (by rw [hml]; rfl) (Steps.refl _) (argsL := []) (rest := []) (lenOf pd_0_4 rfl) rfl (by show 2 * 0 + _ ≤ _; exact Nat.le_of_eq rfl) (hb hby at_222) (fun _ _ => ⟨rfl, rfl, (by decide : 3 + 0 ≤ _), (by decide : 18 + 0 ≤ _)⟩)
  dsimp only [Pt.U, Pt.locs, Pt.cells, Pt.slots] at X16 l16 y16 z16 st16 hQ16
  subst l16 y16 z16
  obtain ⟨rfl, N16q, eh16⟩ := hQ16
  have N16 := Fr.app N15 N16q
  have kc16 : Keep T15.heap T16.heap [] := by rw [eh16]; exact Keep.refl _ _
  have kh16 : Keep h0 T16.heap [] := by rw [eh16]; exact kh15
  have Mx16 := own_mt_keep Mx15 kc16 nin0
  have My16 := own_mt_keep My15 kc16 nin0
  have Mp16 := own_mt_keep Mp15 kc16 nin0
  obtain ⟨cq17, kq17, q17a, q17b, q17c⟩ := isOf hZ rfl Mx16.1
  obtain ⟨_, _, ⟨T17, L17, k17, n17⟩, -, X17, ⟨Lc17, hQ17, l17, y17, z17⟩, st17⟩ := X16.virtualBack hx (y := (⟨"com/example/transmute/transmute/MeasuredText", "quotes", "()J"⟩ : MethodName)) (z := (⟨"com/example/transmute/transmute/MeasuredText", "quotes", "()J"⟩ : MethodName)) hown (mvT hZ (hw _ (List.mem_of_getElem? (i := 40) rfl))) (mvT hZ (hw _ (List.mem_of_getElem? (i := 41) rfl))) (notFace_of_selects (args := #[]) (mvT hZ (hw _ (List.mem_of_getElem? (i := 43) rfl)))) (mvT hZ (hw _ (List.mem_of_getElem? (i := 43) rfl))) (mvT hZ (hw _ (List.mem_of_getElem? (i := 42) rfl))) (by decide) (backOf (W := 0) (rm8 l Z a0 hw [] b6 ((0 + own_eq (own_ch p1) 34 (own_pos q2)) + (0 + own_eq (own_ch p3) 34 (own_pos q4))) T16.heap n0 (Nat.le_trans Z0 kh16.1) Mx16.2.2.1) hZ (hw _ (List.mem_of_getElem? (i := 44) rfl)) (hw _ (List.mem_of_getElem? (i := 2) rfl)) (by decide) (by decide)) q17a q17c (g := (mkF m 233 #[.val (.int p1), .val (.long q2), .second, .val (.int p3), .val (.long q4), .second, .val (.int p5), .val (.int (own_ch p1)), .val (.int (own_ch p3)), .val (.int (own_ch p5)), .val (.ref b6), .val (.ref b9), .val (.ref b12), .val (.long (own_pos q2)), .second, .val (.long (own_pos q4)), .second, .val (.long ((own_pos q2) + (own_pos q4))), .second, .val (.long (own_eq (own_ch p1) (34 : Int32) (own_pos q2) + own_eq (own_ch p3) (34 : Int32) (own_pos q4))), .second, .val (.long (own_eq (own_ch p1) (92 : Int32) (own_pos q2) + own_eq (own_ch p3) (92 : Int32) (own_pos q4))), .second, .val (.int (own_h (own_ch p5) (own_pos q2) (own_ch p1) (own_pos q4) (own_ch p3)))] [(.ref b6)])) rfl (by rw [hml]; rfl) (Steps.refl _) (argsL := []) (rest := []) (lenOf pd_0_4 rfl) rfl (by show 2 * 0 + _ ≤ _; exact Nat.le_of_eq rfl) (hb hby at_233) (fun _ _ => ⟨rfl, rfl, (by decide : 3 + 0 ≤ _), (by decide : 18 + 0 ≤ _)⟩)
  dsimp only [Pt.U, Pt.locs, Pt.cells, Pt.slots] at X17 l17 y17 z17 st17 hQ17
  subst l17 y17 z17
  obtain ⟨rfl, N17q, eh17⟩ := hQ17
  have N17 := Fr.app N16 N17q
  have kc17 : Keep T16.heap T17.heap [] := by rw [eh17]; exact Keep.refl _ _
  have kh17 : Keep h0 T17.heap [] := by rw [eh17]; exact kh16
  have Mx17 := own_mt_keep Mx16 kc17 nin0
  have My17 := own_mt_keep My16 kc17 nin0
  have Mp17 := own_mt_keep Mp16 kc17 nin0
  obtain ⟨cq18, kq18, q18a, q18b, q18c⟩ := isOf hZ rfl Mx17.1
  obtain ⟨_, _, ⟨T18, L18, k18, n18⟩, -, X18, ⟨Lc18, hQ18, l18, y18, z18⟩, st18⟩ := X17.virtualBack hx (y := (⟨"com/example/transmute/transmute/MeasuredText", "backslashes", "()J"⟩ : MethodName)) (z := (⟨"com/example/transmute/transmute/MeasuredText", "backslashes", "()J"⟩ : MethodName)) hown (mvT hZ (hw _ (List.mem_of_getElem? (i := 45) rfl))) (mvT hZ (hw _ (List.mem_of_getElem? (i := 46) rfl))) (notFace_of_selects (args := #[]) (mvT hZ (hw _ (List.mem_of_getElem? (i := 48) rfl)))) (mvT hZ (hw _ (List.mem_of_getElem? (i := 48) rfl))) (mvT hZ (hw _ (List.mem_of_getElem? (i := 47) rfl))) (by decide) (backOf (W := 0) (rm9 l Z a0 hw [] b6 ((0 + own_eq (own_ch p1) 92 (own_pos q2)) + (0 + own_eq (own_ch p3) 92 (own_pos q4))) T17.heap n0 (Nat.le_trans Z0 kh17.1) Mx17.2.2.2.1) hZ (hw _ (List.mem_of_getElem? (i := 49) rfl)) (hw _ (List.mem_of_getElem? (i := 2) rfl)) (by decide) (by decide)) q18a q18c (g := (mkF m 244 #[.val (.int p1), .val (.long q2), .second, .val (.int p3), .val (.long q4), .second, .val (.int p5), .val (.int (own_ch p1)), .val (.int (own_ch p3)), .val (.int (own_ch p5)), .val (.ref b6), .val (.ref b9), .val (.ref b12), .val (.long (own_pos q2)), .second, .val (.long (own_pos q4)), .second, .val (.long ((own_pos q2) + (own_pos q4))), .second, .val (.long (own_eq (own_ch p1) (34 : Int32) (own_pos q2) + own_eq (own_ch p3) (34 : Int32) (own_pos q4))), .second, .val (.long (own_eq (own_ch p1) (92 : Int32) (own_pos q2) + own_eq (own_ch p3) (92 : Int32) (own_pos q4))), .second, .val (.int (own_h (own_ch p5) (own_pos q2) (own_ch p1) (own_pos q4) (own_ch p3)))] [(.ref b6)])) rfl (by rw [hml]; rfl) (Steps.refl _) (argsL := []) (rest := []) (lenOf pd_0_4 rfl) rfl (by show 2 * 0 + _ ≤ _; exact Nat.le_of_eq rfl) (hb hby at_244) (fun _ _ => ⟨rfl, rfl, (by decide : 3 + 0 ≤ _), (by decide : 18 + 0 ≤ _)⟩)
  dsimp only [Pt.U, Pt.locs, Pt.cells, Pt.slots] at X18 l18 y18 z18 st18 hQ18
  subst l18 y18 z18
  obtain ⟨rfl, N18q, eh18⟩ := hQ18
  have N18 := Fr.app N17 N18q
  have kc18 : Keep T17.heap T18.heap [] := by rw [eh18]; exact Keep.refl _ _
  have kh18 : Keep h0 T18.heap [] := by rw [eh18]; exact kh17
  have Mx18 := own_mt_keep Mx17 kc18 nin0
  have My18 := own_mt_keep My17 kc18 nin0
  have Mp18 := own_mt_keep Mp17 kc18 nin0
  obtain ⟨cq19, kq19, q19a, q19b, q19c⟩ := isOf hZ rfl Mx18.1
  obtain ⟨_, _, ⟨T19, L19, k19, n19⟩, -, X19, ⟨Lc19, hQ19, l19, y19, z19⟩, st19⟩ := X18.virtualBack hx (y := (⟨"com/example/transmute/transmute/MeasuredText", "holdsAnyOf", "(Lcom/example/transmute/transmute/MeasuredText;)Z"⟩ : MethodName)) (z := (⟨"com/example/transmute/transmute/MeasuredText", "holdsAnyOf", "(Lcom/example/transmute/transmute/MeasuredText;)Z"⟩ : MethodName)) hown (mvT hZ (hw _ (List.mem_of_getElem? (i := 50) rfl))) (mvT hZ (hw _ (List.mem_of_getElem? (i := 51) rfl))) (notFace_of_selects (args := #[]) (mvT hZ (hw _ (List.mem_of_getElem? (i := 53) rfl)))) (mvT hZ (hw _ (List.mem_of_getElem? (i := 53) rfl))) (mvT hZ (hw _ (List.mem_of_getElem? (i := 52) rfl))) (by decide) (backOf (W := 0) (rm10 l Z a0 hw [] b6 b12 ((0 ||| own_bit q2 (own_low (own_ch p1))) ||| (0 ||| own_bit q4 (own_low (own_ch p3)))) (0 ||| own_bit 1 (own_low (own_ch p5))) ((0 ||| own_bit q2 (own_high (own_ch p1))) ||| (0 ||| own_bit q4 (own_high (own_ch p3)))) (0 ||| own_bit 1 (own_high (own_ch p5))) T18.heap n0 (Nat.le_trans Z0 kh18.1) Mx18.2.2.2.2.1 Mp18.2.2.2.2.1 Mx18.2.2.2.2.2 Mp18.2.2.2.2.2) hZ (hw _ (List.mem_of_getElem? (i := 54) rfl)) (hw _ (List.mem_of_getElem? (i := 2) rfl)) (by decide) (by decide)) q19a q19c (g := (mkF m 257 #[.val (.int p1), .val (.long q2), .second, .val (.int p3), .val (.long q4), .second, .val (.int p5), .val (.int (own_ch p1)), .val (.int (own_ch p3)), .val (.int (own_ch p5)), .val (.ref b6), .val (.ref b9), .val (.ref b12), .val (.long (own_pos q2)), .second, .val (.long (own_pos q4)), .second, .val (.long ((own_pos q2) + (own_pos q4))), .second, .val (.long (own_eq (own_ch p1) (34 : Int32) (own_pos q2) + own_eq (own_ch p3) (34 : Int32) (own_pos q4))), .second, .val (.long (own_eq (own_ch p1) (92 : Int32) (own_pos q2) + own_eq (own_ch p3) (92 : Int32) (own_pos q4))), .second, .val (.int (own_h (own_ch p5) (own_pos q2) (own_ch p1) (own_pos q4) (own_ch p3)))] [(.ref b12), (.ref b6)])) rfl (by rw [hml]; rfl) (Steps.refl _) (argsL := [(.ref b12)]) (rest := []) (lenOf pd_0_5 rfl) rfl (by show 2 * 0 + _ ≤ _; exact Nat.le_of_eq rfl) (hb hby at_257) (fun _ _ => ⟨rfl, rfl, (by decide : 3 + 0 ≤ _), (by decide : 18 + 0 ≤ _)⟩)
  dsimp only [Pt.U, Pt.locs, Pt.cells, Pt.slots] at X19 l19 y19 z19 st19 hQ19
  subst l19 y19 z19
  obtain ⟨rfl, N19q, eh19⟩ := hQ19
  have N19 := Fr.app N18 N19q
  have kc19 : Keep T18.heap T19.heap [] := by rw [eh19]; exact Keep.refl _ _
  have kh19 : Keep h0 T19.heap [] := by rw [eh19]; exact kh18
  have Mx19 := own_mt_keep Mx18 kc19 nin0
  have My19 := own_mt_keep My18 kc19 nin0
  have Mp19 := own_mt_keep Mp18 kc19 nin0
  obtain ⟨cq20, kq20, q20a, q20b, q20c⟩ := isOf hZ rfl My19.1
  obtain ⟨_, _, ⟨T20, L20, k20, n20⟩, -, X20, ⟨Lc20, hQ20, l20, y20, z20⟩, st20⟩ := X19.virtualBack hx (y := (⟨"com/example/transmute/transmute/MeasuredText", "length", "()J"⟩ : MethodName)) (z := (⟨"com/example/transmute/transmute/MeasuredText", "length", "()J"⟩ : MethodName)) hown (mvT hZ (hw _ (List.mem_of_getElem? (i := 35) rfl))) (mvT hZ (hw _ (List.mem_of_getElem? (i := 36) rfl))) (notFace_of_selects (args := #[]) (mvT hZ (hw _ (List.mem_of_getElem? (i := 38) rfl)))) (mvT hZ (hw _ (List.mem_of_getElem? (i := 38) rfl))) (mvT hZ (hw _ (List.mem_of_getElem? (i := 37) rfl))) (by decide) (backOf (W := 0) (rm7 l Z a0 hw [] b9 (0 + own_pos q4) T19.heap n0 (Nat.le_trans Z0 kh19.1) My19.2.1) hZ (hw _ (List.mem_of_getElem? (i := 39) rfl)) (hw _ (List.mem_of_getElem? (i := 2) rfl)) (by decide) (by decide)) q20a q20c (g := (mkF m 267 #[.val (.int p1), .val (.long q2), .second, .val (.int p3), .val (.long q4), .second, .val (.int p5), .val (.int (own_ch p1)), .val (.int (own_ch p3)), .val (.int (own_ch p5)), .val (.ref b6), .val (.ref b9), .val (.ref b12), .val (.long (own_pos q2)), .second, .val (.long (own_pos q4)), .second, .val (.long ((own_pos q2) + (own_pos q4))), .second, .val (.long (own_eq (own_ch p1) (34 : Int32) (own_pos q2) + own_eq (own_ch p3) (34 : Int32) (own_pos q4))), .second, .val (.long (own_eq (own_ch p1) (92 : Int32) (own_pos q2) + own_eq (own_ch p3) (92 : Int32) (own_pos q4))), .second, .val (.int (own_h (own_ch p5) (own_pos q2) (own_ch p1) (own_pos q4) (own_ch p3)))] [(.ref b9)])) rfl (by rw [hml]; rfl) (Steps.refl _) (argsL := []) (rest := []) (lenOf pd_0_4 rfl) rfl (by show 2 * 0 + _ ≤ _; exact Nat.le_of_eq rfl) (hb hby at_267) (fun _ _ => ⟨rfl, rfl, (by decide : 3 + 0 ≤ _), (by decide : 18 + 0 ≤ _)⟩)
  dsimp only [Pt.U, Pt.locs, Pt.cells, Pt.slots] at X20 l20 y20 z20 st20 hQ20
  subst l20 y20 z20
  obtain ⟨rfl, N20q, eh20⟩ := hQ20
  have N20 := Fr.app N19 N20q
  have kc20 : Keep T19.heap T20.heap [] := by rw [eh20]; exact Keep.refl _ _
  have kh20 : Keep h0 T20.heap [] := by rw [eh20]; exact kh19
  have Mx20 := own_mt_keep Mx19 kc20 nin0
  have My20 := own_mt_keep My19 kc20 nin0
  have Mp20 := own_mt_keep Mp19 kc20 nin0
  obtain ⟨fs, hr, hrun, hended, hW, hsame⟩ := X20.leave (v := some (.int (1 : Int32))) (fun h => by rw [Bd.returns] at h; cases h)
  refine ⟨_, _, pre0 _ ?_, hrun, hended, _, _, rfl, ?_, ⟨_, rfl⟩, hW, hsame.mono (by decide) (by decide)⟩
  · show Steps p.tables e below (s₁.setTop (mkF m 0 #[.val (.int p1), .val (.long q2), .second, .val (.int p3), .val (.long q4), .second, .val (.int p5), .unset, .unset, .unset, .unset, .unset, .unset, .unset, .unset, .unset, .unset, .unset, .unset, .unset, .unset, .unset, .unset, .unset] [])) _
    refine XS.iloadN X0.here hx rfl (hb hby at_0) rfl ?_
    show Steps p.tables e below (s₁.setTop (mkF m 1 #[.val (.int p1), .val (.long q2), .second, .val (.int p3), .val (.long q4), .second, .val (.int p5), .unset, .unset, .unset, .unset, .unset, .unset, .unset, .unset, .unset, .unset, .unset, .unset, .unset, .unset, .unset, .unset, .unset] [(.int p1)])) _
    refine XS.sipush X0.here hx rfl (hb hby at_1) ?_
    show Steps p.tables e below (s₁.setTop (mkF m 4 #[.val (.int p1), .val (.long q2), .second, .val (.int p3), .val (.long q4), .second, .val (.int p5), .unset, .unset, .unset, .unset, .unset, .unset, .unset, .unset, .unset, .unset, .unset, .unset, .unset, .unset, .unset, .unset, .unset] [(.int (255 : Int32)), (.int p1)])) _
    refine XS.iand X0.here hx rfl (hb hby at_4) rfl ?_
    show Steps p.tables e below (s₁.setTop (mkF m 5 #[.val (.int p1), .val (.long q2), .second, .val (.int p3), .val (.long q4), .second, .val (.int p5), .unset, .unset, .unset, .unset, .unset, .unset, .unset, .unset, .unset, .unset, .unset, .unset, .unset, .unset, .unset, .unset, .unset] [(.int (p1 &&& (255 : Int32)))])) _
    refine XS.i2c X0.here hx rfl (hb hby at_5) rfl ?_
    show Steps p.tables e below (s₁.setTop (mkF m 6 #[.val (.int p1), .val (.long q2), .second, .val (.int p3), .val (.long q4), .second, .val (.int p5), .unset, .unset, .unset, .unset, .unset, .unset, .unset, .unset, .unset, .unset, .unset, .unset, .unset, .unset, .unset, .unset, .unset] [(.int (own_ch p1))])) _
    refine XS.istore X0.here hx rfl (hb hby at_6) rfl (l' := #[.val (.int p1), .val (.long q2), .second, .val (.int p3), .val (.long q4), .second, .val (.int p5), .val (.int (own_ch p1)), .unset, .unset, .unset, .unset, .unset, .unset, .unset, .unset, .unset, .unset, .unset, .unset, .unset, .unset, .unset, .unset]) rfl ?_
    show Steps p.tables e below (s₁.setTop (mkF m 8 #[.val (.int p1), .val (.long q2), .second, .val (.int p3), .val (.long q4), .second, .val (.int p5), .val (.int (own_ch p1)), .unset, .unset, .unset, .unset, .unset, .unset, .unset, .unset, .unset, .unset, .unset, .unset, .unset, .unset, .unset, .unset] [])) _
    refine XS.iloadN X0.here hx rfl (hb hby at_8) rfl ?_
    show Steps p.tables e below (s₁.setTop (mkF m 9 #[.val (.int p1), .val (.long q2), .second, .val (.int p3), .val (.long q4), .second, .val (.int p5), .val (.int (own_ch p1)), .unset, .unset, .unset, .unset, .unset, .unset, .unset, .unset, .unset, .unset, .unset, .unset, .unset, .unset, .unset, .unset] [(.int p3)])) _
    refine XS.sipush X0.here hx rfl (hb hby at_9) ?_
    show Steps p.tables e below (s₁.setTop (mkF m 12 #[.val (.int p1), .val (.long q2), .second, .val (.int p3), .val (.long q4), .second, .val (.int p5), .val (.int (own_ch p1)), .unset, .unset, .unset, .unset, .unset, .unset, .unset, .unset, .unset, .unset, .unset, .unset, .unset, .unset, .unset, .unset] [(.int (255 : Int32)), (.int p3)])) _
    refine XS.iand X0.here hx rfl (hb hby at_12) rfl ?_
    show Steps p.tables e below (s₁.setTop (mkF m 13 #[.val (.int p1), .val (.long q2), .second, .val (.int p3), .val (.long q4), .second, .val (.int p5), .val (.int (own_ch p1)), .unset, .unset, .unset, .unset, .unset, .unset, .unset, .unset, .unset, .unset, .unset, .unset, .unset, .unset, .unset, .unset] [(.int (p3 &&& (255 : Int32)))])) _
    refine XS.i2c X0.here hx rfl (hb hby at_13) rfl ?_
    show Steps p.tables e below (s₁.setTop (mkF m 14 #[.val (.int p1), .val (.long q2), .second, .val (.int p3), .val (.long q4), .second, .val (.int p5), .val (.int (own_ch p1)), .unset, .unset, .unset, .unset, .unset, .unset, .unset, .unset, .unset, .unset, .unset, .unset, .unset, .unset, .unset, .unset] [(.int (own_ch p3))])) _
    refine XS.istore X0.here hx rfl (hb hby at_14) rfl (l' := #[.val (.int p1), .val (.long q2), .second, .val (.int p3), .val (.long q4), .second, .val (.int p5), .val (.int (own_ch p1)), .val (.int (own_ch p3)), .unset, .unset, .unset, .unset, .unset, .unset, .unset, .unset, .unset, .unset, .unset, .unset, .unset, .unset, .unset]) rfl ?_
    show Steps p.tables e below (s₁.setTop (mkF m 16 #[.val (.int p1), .val (.long q2), .second, .val (.int p3), .val (.long q4), .second, .val (.int p5), .val (.int (own_ch p1)), .val (.int (own_ch p3)), .unset, .unset, .unset, .unset, .unset, .unset, .unset, .unset, .unset, .unset, .unset, .unset, .unset, .unset, .unset] [])) _
    refine XS.iload X0.here hx rfl (hb hby at_16) rfl ?_
    show Steps p.tables e below (s₁.setTop (mkF m 18 #[.val (.int p1), .val (.long q2), .second, .val (.int p3), .val (.long q4), .second, .val (.int p5), .val (.int (own_ch p1)), .val (.int (own_ch p3)), .unset, .unset, .unset, .unset, .unset, .unset, .unset, .unset, .unset, .unset, .unset, .unset, .unset, .unset, .unset] [(.int p5)])) _
    refine XS.sipush X0.here hx rfl (hb hby at_18) ?_
    show Steps p.tables e below (s₁.setTop (mkF m 21 #[.val (.int p1), .val (.long q2), .second, .val (.int p3), .val (.long q4), .second, .val (.int p5), .val (.int (own_ch p1)), .val (.int (own_ch p3)), .unset, .unset, .unset, .unset, .unset, .unset, .unset, .unset, .unset, .unset, .unset, .unset, .unset, .unset, .unset] [(.int (255 : Int32)), (.int p5)])) _
    refine XS.iand X0.here hx rfl (hb hby at_21) rfl ?_
    show Steps p.tables e below (s₁.setTop (mkF m 22 #[.val (.int p1), .val (.long q2), .second, .val (.int p3), .val (.long q4), .second, .val (.int p5), .val (.int (own_ch p1)), .val (.int (own_ch p3)), .unset, .unset, .unset, .unset, .unset, .unset, .unset, .unset, .unset, .unset, .unset, .unset, .unset, .unset, .unset] [(.int (p5 &&& (255 : Int32)))])) _
    refine XS.i2c X0.here hx rfl (hb hby at_22) rfl ?_
    show Steps p.tables e below (s₁.setTop (mkF m 23 #[.val (.int p1), .val (.long q2), .second, .val (.int p3), .val (.long q4), .second, .val (.int p5), .val (.int (own_ch p1)), .val (.int (own_ch p3)), .unset, .unset, .unset, .unset, .unset, .unset, .unset, .unset, .unset, .unset, .unset, .unset, .unset, .unset, .unset] [(.int (own_ch p5))])) _
    refine XS.istore X0.here hx rfl (hb hby at_23) rfl (l' := #[.val (.int p1), .val (.long q2), .second, .val (.int p3), .val (.long q4), .second, .val (.int p5), .val (.int (own_ch p1)), .val (.int (own_ch p3)), .val (.int (own_ch p5)), .unset, .unset, .unset, .unset, .unset, .unset, .unset, .unset, .unset, .unset, .unset, .unset, .unset, .unset]) rfl ?_
    show Steps p.tables e below (s₁.setTop (mkF m 25 #[.val (.int p1), .val (.long q2), .second, .val (.int p3), .val (.long q4), .second, .val (.int p5), .val (.int (own_ch p1)), .val (.int (own_ch p3)), .val (.int (own_ch p5)), .unset, .unset, .unset, .unset, .unset, .unset, .unset, .unset, .unset, .unset, .unset, .unset, .unset, .unset] [])) _
    refine st6 _ ?_
    show Steps p.tables e below (T6.setTop (mkF m 28 #[.val (.int p1), .val (.long q2), .second, .val (.int p3), .val (.long q4), .second, .val (.int p5), .val (.int (own_ch p1)), .val (.int (own_ch p3)), .val (.int (own_ch p5)), .unset, .unset, .unset, .unset, .unset, .unset, .unset, .unset, .unset, .unset, .unset, .unset, .unset, .unset] [(.ref b6)])) _
    refine XS.dup X6.here hx rfl (hb hby at_28) rfl rfl ?_
    show Steps p.tables e below (T6.setTop (mkF m 29 #[.val (.int p1), .val (.long q2), .second, .val (.int p3), .val (.long q4), .second, .val (.int p5), .val (.int (own_ch p1)), .val (.int (own_ch p3)), .val (.int (own_ch p5)), .unset, .unset, .unset, .unset, .unset, .unset, .unset, .unset, .unset, .unset, .unset, .unset, .unset, .unset] [(.ref b6), (.ref b6)])) _
    refine st7.trans ?_
    show Steps p.tables e below (T7.setTop (mkF m 32 #[.val (.int p1), .val (.long q2), .second, .val (.int p3), .val (.long q4), .second, .val (.int p5), .val (.int (own_ch p1)), .val (.int (own_ch p3)), .val (.int (own_ch p5)), .unset, .unset, .unset, .unset, .unset, .unset, .unset, .unset, .unset, .unset, .unset, .unset, .unset, .unset] [(.ref b6)])) _
    refine XS.astore X7.here hx rfl (hb hby at_32) rfl rfl (l' := #[.val (.int p1), .val (.long q2), .second, .val (.int p3), .val (.long q4), .second, .val (.int p5), .val (.int (own_ch p1)), .val (.int (own_ch p3)), .val (.int (own_ch p5)), .val (.ref b6), .unset, .unset, .unset, .unset, .unset, .unset, .unset, .unset, .unset, .unset, .unset, .unset, .unset]) rfl ?_
    show Steps p.tables e below (T7.setTop (mkF m 34 #[.val (.int p1), .val (.long q2), .second, .val (.int p3), .val (.long q4), .second, .val (.int p5), .val (.int (own_ch p1)), .val (.int (own_ch p3)), .val (.int (own_ch p5)), .val (.ref b6), .unset, .unset, .unset, .unset, .unset, .unset, .unset, .unset, .unset, .unset, .unset, .unset, .unset] [])) _
    refine XS.aload X7.here hx rfl (hb hby at_34) rfl rfl ?_
    show Steps p.tables e below (T7.setTop (mkF m 36 #[.val (.int p1), .val (.long q2), .second, .val (.int p3), .val (.long q4), .second, .val (.int p5), .val (.int (own_ch p1)), .val (.int (own_ch p3)), .val (.int (own_ch p5)), .val (.ref b6), .unset, .unset, .unset, .unset, .unset, .unset, .unset, .unset, .unset, .unset, .unset, .unset, .unset] [(.ref b6)])) _
    refine XS.iload X7.here hx rfl (hb hby at_36) rfl ?_
    show Steps p.tables e below (T7.setTop (mkF m 38 #[.val (.int p1), .val (.long q2), .second, .val (.int p3), .val (.long q4), .second, .val (.int p5), .val (.int (own_ch p1)), .val (.int (own_ch p3)), .val (.int (own_ch p5)), .val (.ref b6), .unset, .unset, .unset, .unset, .unset, .unset, .unset, .unset, .unset, .unset, .unset, .unset, .unset] [(.int (own_ch p1)), (.ref b6)])) _
    refine XS.lloadN X7.here hx rfl (hb hby at_38) rfl ?_
    show Steps p.tables e below (T7.setTop (mkF m 39 #[.val (.int p1), .val (.long q2), .second, .val (.int p3), .val (.long q4), .second, .val (.int p5), .val (.int (own_ch p1)), .val (.int (own_ch p3)), .val (.int (own_ch p5)), .val (.ref b6), .unset, .unset, .unset, .unset, .unset, .unset, .unset, .unset, .unset, .unset, .unset, .unset, .unset] [(.long q2), (.int (own_ch p1)), (.ref b6)])) _
    refine st8.trans ?_
    show Steps p.tables e below (T8.setTop (mkF m 42 #[.val (.int p1), .val (.long q2), .second, .val (.int p3), .val (.long q4), .second, .val (.int p5), .val (.int (own_ch p1)), .val (.int (own_ch p3)), .val (.int (own_ch p5)), .val (.ref b6), .unset, .unset, .unset, .unset, .unset, .unset, .unset, .unset, .unset, .unset, .unset, .unset, .unset] [])) _
    refine st9 _ ?_
    show Steps p.tables e below (T9.setTop (mkF m 45 #[.val (.int p1), .val (.long q2), .second, .val (.int p3), .val (.long q4), .second, .val (.int p5), .val (.int (own_ch p1)), .val (.int (own_ch p3)), .val (.int (own_ch p5)), .val (.ref b6), .unset, .unset, .unset, .unset, .unset, .unset, .unset, .unset, .unset, .unset, .unset, .unset, .unset] [(.ref b9)])) _
    refine XS.dup X9.here hx rfl (hb hby at_45) rfl rfl ?_
    show Steps p.tables e below (T9.setTop (mkF m 46 #[.val (.int p1), .val (.long q2), .second, .val (.int p3), .val (.long q4), .second, .val (.int p5), .val (.int (own_ch p1)), .val (.int (own_ch p3)), .val (.int (own_ch p5)), .val (.ref b6), .unset, .unset, .unset, .unset, .unset, .unset, .unset, .unset, .unset, .unset, .unset, .unset, .unset] [(.ref b9), (.ref b9)])) _
    refine st10.trans ?_
    show Steps p.tables e below (T10.setTop (mkF m 49 #[.val (.int p1), .val (.long q2), .second, .val (.int p3), .val (.long q4), .second, .val (.int p5), .val (.int (own_ch p1)), .val (.int (own_ch p3)), .val (.int (own_ch p5)), .val (.ref b6), .unset, .unset, .unset, .unset, .unset, .unset, .unset, .unset, .unset, .unset, .unset, .unset, .unset] [(.ref b9)])) _
    refine XS.astore X10.here hx rfl (hb hby at_49) rfl rfl (l' := #[.val (.int p1), .val (.long q2), .second, .val (.int p3), .val (.long q4), .second, .val (.int p5), .val (.int (own_ch p1)), .val (.int (own_ch p3)), .val (.int (own_ch p5)), .val (.ref b6), .val (.ref b9), .unset, .unset, .unset, .unset, .unset, .unset, .unset, .unset, .unset, .unset, .unset, .unset]) rfl ?_
    show Steps p.tables e below (T10.setTop (mkF m 51 #[.val (.int p1), .val (.long q2), .second, .val (.int p3), .val (.long q4), .second, .val (.int p5), .val (.int (own_ch p1)), .val (.int (own_ch p3)), .val (.int (own_ch p5)), .val (.ref b6), .val (.ref b9), .unset, .unset, .unset, .unset, .unset, .unset, .unset, .unset, .unset, .unset, .unset, .unset] [])) _
    refine XS.aload X10.here hx rfl (hb hby at_51) rfl rfl ?_
    show Steps p.tables e below (T10.setTop (mkF m 53 #[.val (.int p1), .val (.long q2), .second, .val (.int p3), .val (.long q4), .second, .val (.int p5), .val (.int (own_ch p1)), .val (.int (own_ch p3)), .val (.int (own_ch p5)), .val (.ref b6), .val (.ref b9), .unset, .unset, .unset, .unset, .unset, .unset, .unset, .unset, .unset, .unset, .unset, .unset] [(.ref b9)])) _
    refine XS.iload X10.here hx rfl (hb hby at_53) rfl ?_
    show Steps p.tables e below (T10.setTop (mkF m 55 #[.val (.int p1), .val (.long q2), .second, .val (.int p3), .val (.long q4), .second, .val (.int p5), .val (.int (own_ch p1)), .val (.int (own_ch p3)), .val (.int (own_ch p5)), .val (.ref b6), .val (.ref b9), .unset, .unset, .unset, .unset, .unset, .unset, .unset, .unset, .unset, .unset, .unset, .unset] [(.int (own_ch p3)), (.ref b9)])) _
    refine XS.lload X10.here hx rfl (hb hby at_55) rfl ?_
    show Steps p.tables e below (T10.setTop (mkF m 57 #[.val (.int p1), .val (.long q2), .second, .val (.int p3), .val (.long q4), .second, .val (.int p5), .val (.int (own_ch p1)), .val (.int (own_ch p3)), .val (.int (own_ch p5)), .val (.ref b6), .val (.ref b9), .unset, .unset, .unset, .unset, .unset, .unset, .unset, .unset, .unset, .unset, .unset, .unset] [(.long q4), (.int (own_ch p3)), (.ref b9)])) _
    refine st11.trans ?_
    show Steps p.tables e below (T11.setTop (mkF m 60 #[.val (.int p1), .val (.long q2), .second, .val (.int p3), .val (.long q4), .second, .val (.int p5), .val (.int (own_ch p1)), .val (.int (own_ch p3)), .val (.int (own_ch p5)), .val (.ref b6), .val (.ref b9), .unset, .unset, .unset, .unset, .unset, .unset, .unset, .unset, .unset, .unset, .unset, .unset] [])) _
    refine st12 _ ?_
    show Steps p.tables e below (T12.setTop (mkF m 63 #[.val (.int p1), .val (.long q2), .second, .val (.int p3), .val (.long q4), .second, .val (.int p5), .val (.int (own_ch p1)), .val (.int (own_ch p3)), .val (.int (own_ch p5)), .val (.ref b6), .val (.ref b9), .unset, .unset, .unset, .unset, .unset, .unset, .unset, .unset, .unset, .unset, .unset, .unset] [(.ref b12)])) _
    refine XS.dup X12.here hx rfl (hb hby at_63) rfl rfl ?_
    show Steps p.tables e below (T12.setTop (mkF m 64 #[.val (.int p1), .val (.long q2), .second, .val (.int p3), .val (.long q4), .second, .val (.int p5), .val (.int (own_ch p1)), .val (.int (own_ch p3)), .val (.int (own_ch p5)), .val (.ref b6), .val (.ref b9), .unset, .unset, .unset, .unset, .unset, .unset, .unset, .unset, .unset, .unset, .unset, .unset] [(.ref b12), (.ref b12)])) _
    refine st13.trans ?_
    show Steps p.tables e below (T13.setTop (mkF m 67 #[.val (.int p1), .val (.long q2), .second, .val (.int p3), .val (.long q4), .second, .val (.int p5), .val (.int (own_ch p1)), .val (.int (own_ch p3)), .val (.int (own_ch p5)), .val (.ref b6), .val (.ref b9), .unset, .unset, .unset, .unset, .unset, .unset, .unset, .unset, .unset, .unset, .unset, .unset] [(.ref b12)])) _
    refine XS.astore X13.here hx rfl (hb hby at_67) rfl rfl (l' := #[.val (.int p1), .val (.long q2), .second, .val (.int p3), .val (.long q4), .second, .val (.int p5), .val (.int (own_ch p1)), .val (.int (own_ch p3)), .val (.int (own_ch p5)), .val (.ref b6), .val (.ref b9), .val (.ref b12), .unset, .unset, .unset, .unset, .unset, .unset, .unset, .unset, .unset, .unset, .unset]) rfl ?_
    show Steps p.tables e below (T13.setTop (mkF m 69 #[.val (.int p1), .val (.long q2), .second, .val (.int p3), .val (.long q4), .second, .val (.int p5), .val (.int (own_ch p1)), .val (.int (own_ch p3)), .val (.int (own_ch p5)), .val (.ref b6), .val (.ref b9), .val (.ref b12), .unset, .unset, .unset, .unset, .unset, .unset, .unset, .unset, .unset, .unset, .unset] [])) _
    refine XS.aload X13.here hx rfl (hb hby at_69) rfl rfl ?_
    show Steps p.tables e below (T13.setTop (mkF m 71 #[.val (.int p1), .val (.long q2), .second, .val (.int p3), .val (.long q4), .second, .val (.int p5), .val (.int (own_ch p1)), .val (.int (own_ch p3)), .val (.int (own_ch p5)), .val (.ref b6), .val (.ref b9), .val (.ref b12), .unset, .unset, .unset, .unset, .unset, .unset, .unset, .unset, .unset, .unset, .unset] [(.ref b12)])) _
    refine XS.iload X13.here hx rfl (hb hby at_71) rfl ?_
    show Steps p.tables e below (T13.setTop (mkF m 73 #[.val (.int p1), .val (.long q2), .second, .val (.int p3), .val (.long q4), .second, .val (.int p5), .val (.int (own_ch p1)), .val (.int (own_ch p3)), .val (.int (own_ch p5)), .val (.ref b6), .val (.ref b9), .val (.ref b12), .unset, .unset, .unset, .unset, .unset, .unset, .unset, .unset, .unset, .unset, .unset] [(.int (own_ch p5)), (.ref b12)])) _
    refine XS.lconst X13.here hx rfl (hb hby at_73) ?_
    show Steps p.tables e below (T13.setTop (mkF m 74 #[.val (.int p1), .val (.long q2), .second, .val (.int p3), .val (.long q4), .second, .val (.int p5), .val (.int (own_ch p1)), .val (.int (own_ch p3)), .val (.int (own_ch p5)), .val (.ref b6), .val (.ref b9), .val (.ref b12), .unset, .unset, .unset, .unset, .unset, .unset, .unset, .unset, .unset, .unset, .unset] [(.long (1 : Int64)), (.int (own_ch p5)), (.ref b12)])) _
    refine st14.trans ?_
    show Steps p.tables e below (T14.setTop (mkF m 77 #[.val (.int p1), .val (.long q2), .second, .val (.int p3), .val (.long q4), .second, .val (.int p5), .val (.int (own_ch p1)), .val (.int (own_ch p3)), .val (.int (own_ch p5)), .val (.ref b6), .val (.ref b9), .val (.ref b12), .unset, .unset, .unset, .unset, .unset, .unset, .unset, .unset, .unset, .unset, .unset] [])) _
    refine XS.aload X14.here hx rfl (hb hby at_77) rfl rfl ?_
    show Steps p.tables e below (T14.setTop (mkF m 79 #[.val (.int p1), .val (.long q2), .second, .val (.int p3), .val (.long q4), .second, .val (.int p5), .val (.int (own_ch p1)), .val (.int (own_ch p3)), .val (.int (own_ch p5)), .val (.ref b6), .val (.ref b9), .val (.ref b12), .unset, .unset, .unset, .unset, .unset, .unset, .unset, .unset, .unset, .unset, .unset] [(.ref b6)])) _
    refine XS.aload X14.here hx rfl (hb hby at_79) rfl rfl ?_
    show Steps p.tables e below (T14.setTop (mkF m 81 #[.val (.int p1), .val (.long q2), .second, .val (.int p3), .val (.long q4), .second, .val (.int p5), .val (.int (own_ch p1)), .val (.int (own_ch p3)), .val (.int (own_ch p5)), .val (.ref b6), .val (.ref b9), .val (.ref b12), .unset, .unset, .unset, .unset, .unset, .unset, .unset, .unset, .unset, .unset, .unset] [(.ref b9), (.ref b6)])) _
    refine st15.trans ?_
    show Steps p.tables e below (T15.setTop (mkF m 84 #[.val (.int p1), .val (.long q2), .second, .val (.int p3), .val (.long q4), .second, .val (.int p5), .val (.int (own_ch p1)), .val (.int (own_ch p3)), .val (.int (own_ch p5)), .val (.ref b6), .val (.ref b9), .val (.ref b12), .unset, .unset, .unset, .unset, .unset, .unset, .unset, .unset, .unset, .unset, .unset] [])) _
    refine sg84 p1 q2 p3 q4 p5 b6 b9 b12 X15 hx hby _ ?_
    refine sg97 p1 q2 p3 q4 p5 b6 b9 b12 X15 hx hby _ ?_
    refine sg112 p1 q2 p3 q4 p5 b6 b9 b12 X15 hx hby _ ?_
    refine sg119 p1 q2 p3 q4 p5 b6 b9 b12 X15 hx hby _ ?_
    refine sg148 p1 q2 p3 q4 p5 b6 b9 b12 X15 hx hby _ ?_
    refine sg177 p1 q2 p3 q4 p5 b6 b9 b12 X15 hx hby _ ?_
    show Steps p.tables e below (T15.setTop (mkF m 220 #[.val (.int p1), .val (.long q2), .second, .val (.int p3), .val (.long q4), .second, .val (.int p5), .val (.int (own_ch p1)), .val (.int (own_ch p3)), .val (.int (own_ch p5)), .val (.ref b6), .val (.ref b9), .val (.ref b12), .val (.long (own_pos q2)), .second, .val (.long (own_pos q4)), .second, .val (.long ((own_pos q2) + (own_pos q4))), .second, .val (.long (own_eq (own_ch p1) (34 : Int32) (own_pos q2) + own_eq (own_ch p3) (34 : Int32) (own_pos q4))), .second, .val (.long (own_eq (own_ch p1) (92 : Int32) (own_pos q2) + own_eq (own_ch p3) (92 : Int32) (own_pos q4))), .second, .val (.int (own_h (own_ch p5) (own_pos q2) (own_ch p1) (own_pos q4) (own_ch p3)))] [])) _
    refine XS.aload X15.here hx rfl (hb hby at_220) rfl rfl ?_
    show Steps p.tables e below (T15.setTop (mkF m 222 #[.val (.int p1), .val (.long q2), .second, .val (.int p3), .val (.long q4), .second, .val (.int p5), .val (.int (own_ch p1)), .val (.int (own_ch p3)), .val (.int (own_ch p5)), .val (.ref b6), .val (.ref b9), .val (.ref b12), .val (.long (own_pos q2)), .second, .val (.long (own_pos q4)), .second, .val (.long ((own_pos q2) + (own_pos q4))), .second, .val (.long (own_eq (own_ch p1) (34 : Int32) (own_pos q2) + own_eq (own_ch p3) (34 : Int32) (own_pos q4))), .second, .val (.long (own_eq (own_ch p1) (92 : Int32) (own_pos q2) + own_eq (own_ch p3) (92 : Int32) (own_pos q4))), .second, .val (.int (own_h (own_ch p5) (own_pos q2) (own_ch p1) (own_pos q4) (own_ch p3)))] [(.ref b6)])) _
    refine st16.trans ?_
    show Steps p.tables e below (T16.setTop (mkF m 225 #[.val (.int p1), .val (.long q2), .second, .val (.int p3), .val (.long q4), .second, .val (.int p5), .val (.int (own_ch p1)), .val (.int (own_ch p3)), .val (.int (own_ch p5)), .val (.ref b6), .val (.ref b9), .val (.ref b12), .val (.long (own_pos q2)), .second, .val (.long (own_pos q4)), .second, .val (.long ((own_pos q2) + (own_pos q4))), .second, .val (.long (own_eq (own_ch p1) (34 : Int32) (own_pos q2) + own_eq (own_ch p3) (34 : Int32) (own_pos q4))), .second, .val (.long (own_eq (own_ch p1) (92 : Int32) (own_pos q2) + own_eq (own_ch p3) (92 : Int32) (own_pos q4))), .second, .val (.int (own_h (own_ch p5) (own_pos q2) (own_ch p1) (own_pos q4) (own_ch p3)))] [(.long ((0 + own_pos q2) + (0 + own_pos q4)))])) _
    refine XS.lload X16.here hx rfl (hb hby at_225) rfl ?_
    show Steps p.tables e below (T16.setTop (mkF m 227 #[.val (.int p1), .val (.long q2), .second, .val (.int p3), .val (.long q4), .second, .val (.int p5), .val (.int (own_ch p1)), .val (.int (own_ch p3)), .val (.int (own_ch p5)), .val (.ref b6), .val (.ref b9), .val (.ref b12), .val (.long (own_pos q2)), .second, .val (.long (own_pos q4)), .second, .val (.long ((own_pos q2) + (own_pos q4))), .second, .val (.long (own_eq (own_ch p1) (34 : Int32) (own_pos q2) + own_eq (own_ch p3) (34 : Int32) (own_pos q4))), .second, .val (.long (own_eq (own_ch p1) (92 : Int32) (own_pos q2) + own_eq (own_ch p3) (92 : Int32) (own_pos q4))), .second, .val (.int (own_h (own_ch p5) (own_pos q2) (own_ch p1) (own_pos q4) (own_ch p3)))] [(.long ((own_pos q2) + (own_pos q4))), (.long ((0 + own_pos q2) + (0 + own_pos q4)))])) _
    refine XS.lcmp X16.here hx rfl (hb hby at_227) rfl ?_
    show Steps p.tables e below (T16.setTop (mkF m 228 #[.val (.int p1), .val (.long q2), .second, .val (.int p3), .val (.long q4), .second, .val (.int p5), .val (.int (own_ch p1)), .val (.int (own_ch p3)), .val (.int (own_ch p5)), .val (.ref b6), .val (.ref b9), .val (.ref b12), .val (.long (own_pos q2)), .second, .val (.long (own_pos q4)), .second, .val (.long ((own_pos q2) + (own_pos q4))), .second, .val (.long (own_eq (own_ch p1) (34 : Int32) (own_pos q2) + own_eq (own_ch p3) (34 : Int32) (own_pos q4))), .second, .val (.long (own_eq (own_ch p1) (92 : Int32) (own_pos q2) + own_eq (own_ch p3) (92 : Int32) (own_pos q4))), .second, .val (.int (own_h (own_ch p5) (own_pos q2) (own_ch p1) (own_pos q4) (own_ch p3)))] [(.int (lcmpW ((0 + own_pos q2) + (0 + own_pos q4)) ((own_pos q2) + (own_pos q4))))])) _
    refine XS.ifNo X16.here hx rfl (hb hby at_228) rfl ((if0 _ _).trans (teq ((lw_eq _ _).mpr (by simp only [Int64.zero_add]))).2) ?_
    show Steps p.tables e below (T16.setTop (mkF m 231 #[.val (.int p1), .val (.long q2), .second, .val (.int p3), .val (.long q4), .second, .val (.int p5), .val (.int (own_ch p1)), .val (.int (own_ch p3)), .val (.int (own_ch p5)), .val (.ref b6), .val (.ref b9), .val (.ref b12), .val (.long (own_pos q2)), .second, .val (.long (own_pos q4)), .second, .val (.long ((own_pos q2) + (own_pos q4))), .second, .val (.long (own_eq (own_ch p1) (34 : Int32) (own_pos q2) + own_eq (own_ch p3) (34 : Int32) (own_pos q4))), .second, .val (.long (own_eq (own_ch p1) (92 : Int32) (own_pos q2) + own_eq (own_ch p3) (92 : Int32) (own_pos q4))), .second, .val (.int (own_h (own_ch p5) (own_pos q2) (own_ch p1) (own_pos q4) (own_ch p3)))] [])) _
    refine XS.aload X16.here hx rfl (hb hby at_231) rfl rfl ?_
    show Steps p.tables e below (T16.setTop (mkF m 233 #[.val (.int p1), .val (.long q2), .second, .val (.int p3), .val (.long q4), .second, .val (.int p5), .val (.int (own_ch p1)), .val (.int (own_ch p3)), .val (.int (own_ch p5)), .val (.ref b6), .val (.ref b9), .val (.ref b12), .val (.long (own_pos q2)), .second, .val (.long (own_pos q4)), .second, .val (.long ((own_pos q2) + (own_pos q4))), .second, .val (.long (own_eq (own_ch p1) (34 : Int32) (own_pos q2) + own_eq (own_ch p3) (34 : Int32) (own_pos q4))), .second, .val (.long (own_eq (own_ch p1) (92 : Int32) (own_pos q2) + own_eq (own_ch p3) (92 : Int32) (own_pos q4))), .second, .val (.int (own_h (own_ch p5) (own_pos q2) (own_ch p1) (own_pos q4) (own_ch p3)))] [(.ref b6)])) _
    refine st17.trans ?_
    show Steps p.tables e below (T17.setTop (mkF m 236 #[.val (.int p1), .val (.long q2), .second, .val (.int p3), .val (.long q4), .second, .val (.int p5), .val (.int (own_ch p1)), .val (.int (own_ch p3)), .val (.int (own_ch p5)), .val (.ref b6), .val (.ref b9), .val (.ref b12), .val (.long (own_pos q2)), .second, .val (.long (own_pos q4)), .second, .val (.long ((own_pos q2) + (own_pos q4))), .second, .val (.long (own_eq (own_ch p1) (34 : Int32) (own_pos q2) + own_eq (own_ch p3) (34 : Int32) (own_pos q4))), .second, .val (.long (own_eq (own_ch p1) (92 : Int32) (own_pos q2) + own_eq (own_ch p3) (92 : Int32) (own_pos q4))), .second, .val (.int (own_h (own_ch p5) (own_pos q2) (own_ch p1) (own_pos q4) (own_ch p3)))] [(.long ((0 + own_eq (own_ch p1) 34 (own_pos q2)) + (0 + own_eq (own_ch p3) 34 (own_pos q4))))])) _
    refine XS.lload X17.here hx rfl (hb hby at_236) rfl ?_
    show Steps p.tables e below (T17.setTop (mkF m 238 #[.val (.int p1), .val (.long q2), .second, .val (.int p3), .val (.long q4), .second, .val (.int p5), .val (.int (own_ch p1)), .val (.int (own_ch p3)), .val (.int (own_ch p5)), .val (.ref b6), .val (.ref b9), .val (.ref b12), .val (.long (own_pos q2)), .second, .val (.long (own_pos q4)), .second, .val (.long ((own_pos q2) + (own_pos q4))), .second, .val (.long (own_eq (own_ch p1) (34 : Int32) (own_pos q2) + own_eq (own_ch p3) (34 : Int32) (own_pos q4))), .second, .val (.long (own_eq (own_ch p1) (92 : Int32) (own_pos q2) + own_eq (own_ch p3) (92 : Int32) (own_pos q4))), .second, .val (.int (own_h (own_ch p5) (own_pos q2) (own_ch p1) (own_pos q4) (own_ch p3)))] [(.long (own_eq (own_ch p1) (34 : Int32) (own_pos q2) + own_eq (own_ch p3) (34 : Int32) (own_pos q4))), (.long ((0 + own_eq (own_ch p1) 34 (own_pos q2)) + (0 + own_eq (own_ch p3) 34 (own_pos q4))))])) _
    refine XS.lcmp X17.here hx rfl (hb hby at_238) rfl ?_
    show Steps p.tables e below (T17.setTop (mkF m 239 #[.val (.int p1), .val (.long q2), .second, .val (.int p3), .val (.long q4), .second, .val (.int p5), .val (.int (own_ch p1)), .val (.int (own_ch p3)), .val (.int (own_ch p5)), .val (.ref b6), .val (.ref b9), .val (.ref b12), .val (.long (own_pos q2)), .second, .val (.long (own_pos q4)), .second, .val (.long ((own_pos q2) + (own_pos q4))), .second, .val (.long (own_eq (own_ch p1) (34 : Int32) (own_pos q2) + own_eq (own_ch p3) (34 : Int32) (own_pos q4))), .second, .val (.long (own_eq (own_ch p1) (92 : Int32) (own_pos q2) + own_eq (own_ch p3) (92 : Int32) (own_pos q4))), .second, .val (.int (own_h (own_ch p5) (own_pos q2) (own_ch p1) (own_pos q4) (own_ch p3)))] [(.int (lcmpW ((0 + own_eq (own_ch p1) 34 (own_pos q2)) + (0 + own_eq (own_ch p3) 34 (own_pos q4))) (own_eq (own_ch p1) (34 : Int32) (own_pos q2) + own_eq (own_ch p3) (34 : Int32) (own_pos q4))))])) _
    refine XS.ifNo X17.here hx rfl (hb hby at_239) rfl ((if0 _ _).trans (teq ((lw_eq _ _).mpr (by simp only [Int64.zero_add]))).2) ?_
    show Steps p.tables e below (T17.setTop (mkF m 242 #[.val (.int p1), .val (.long q2), .second, .val (.int p3), .val (.long q4), .second, .val (.int p5), .val (.int (own_ch p1)), .val (.int (own_ch p3)), .val (.int (own_ch p5)), .val (.ref b6), .val (.ref b9), .val (.ref b12), .val (.long (own_pos q2)), .second, .val (.long (own_pos q4)), .second, .val (.long ((own_pos q2) + (own_pos q4))), .second, .val (.long (own_eq (own_ch p1) (34 : Int32) (own_pos q2) + own_eq (own_ch p3) (34 : Int32) (own_pos q4))), .second, .val (.long (own_eq (own_ch p1) (92 : Int32) (own_pos q2) + own_eq (own_ch p3) (92 : Int32) (own_pos q4))), .second, .val (.int (own_h (own_ch p5) (own_pos q2) (own_ch p1) (own_pos q4) (own_ch p3)))] [])) _
    refine XS.aload X17.here hx rfl (hb hby at_242) rfl rfl ?_
    show Steps p.tables e below (T17.setTop (mkF m 244 #[.val (.int p1), .val (.long q2), .second, .val (.int p3), .val (.long q4), .second, .val (.int p5), .val (.int (own_ch p1)), .val (.int (own_ch p3)), .val (.int (own_ch p5)), .val (.ref b6), .val (.ref b9), .val (.ref b12), .val (.long (own_pos q2)), .second, .val (.long (own_pos q4)), .second, .val (.long ((own_pos q2) + (own_pos q4))), .second, .val (.long (own_eq (own_ch p1) (34 : Int32) (own_pos q2) + own_eq (own_ch p3) (34 : Int32) (own_pos q4))), .second, .val (.long (own_eq (own_ch p1) (92 : Int32) (own_pos q2) + own_eq (own_ch p3) (92 : Int32) (own_pos q4))), .second, .val (.int (own_h (own_ch p5) (own_pos q2) (own_ch p1) (own_pos q4) (own_ch p3)))] [(.ref b6)])) _
    refine st18.trans ?_
    show Steps p.tables e below (T18.setTop (mkF m 247 #[.val (.int p1), .val (.long q2), .second, .val (.int p3), .val (.long q4), .second, .val (.int p5), .val (.int (own_ch p1)), .val (.int (own_ch p3)), .val (.int (own_ch p5)), .val (.ref b6), .val (.ref b9), .val (.ref b12), .val (.long (own_pos q2)), .second, .val (.long (own_pos q4)), .second, .val (.long ((own_pos q2) + (own_pos q4))), .second, .val (.long (own_eq (own_ch p1) (34 : Int32) (own_pos q2) + own_eq (own_ch p3) (34 : Int32) (own_pos q4))), .second, .val (.long (own_eq (own_ch p1) (92 : Int32) (own_pos q2) + own_eq (own_ch p3) (92 : Int32) (own_pos q4))), .second, .val (.int (own_h (own_ch p5) (own_pos q2) (own_ch p1) (own_pos q4) (own_ch p3)))] [(.long ((0 + own_eq (own_ch p1) 92 (own_pos q2)) + (0 + own_eq (own_ch p3) 92 (own_pos q4))))])) _
    refine XS.lload X18.here hx rfl (hb hby at_247) rfl ?_
    show Steps p.tables e below (T18.setTop (mkF m 249 #[.val (.int p1), .val (.long q2), .second, .val (.int p3), .val (.long q4), .second, .val (.int p5), .val (.int (own_ch p1)), .val (.int (own_ch p3)), .val (.int (own_ch p5)), .val (.ref b6), .val (.ref b9), .val (.ref b12), .val (.long (own_pos q2)), .second, .val (.long (own_pos q4)), .second, .val (.long ((own_pos q2) + (own_pos q4))), .second, .val (.long (own_eq (own_ch p1) (34 : Int32) (own_pos q2) + own_eq (own_ch p3) (34 : Int32) (own_pos q4))), .second, .val (.long (own_eq (own_ch p1) (92 : Int32) (own_pos q2) + own_eq (own_ch p3) (92 : Int32) (own_pos q4))), .second, .val (.int (own_h (own_ch p5) (own_pos q2) (own_ch p1) (own_pos q4) (own_ch p3)))] [(.long (own_eq (own_ch p1) (92 : Int32) (own_pos q2) + own_eq (own_ch p3) (92 : Int32) (own_pos q4))), (.long ((0 + own_eq (own_ch p1) 92 (own_pos q2)) + (0 + own_eq (own_ch p3) 92 (own_pos q4))))])) _
    refine XS.lcmp X18.here hx rfl (hb hby at_249) rfl ?_
    show Steps p.tables e below (T18.setTop (mkF m 250 #[.val (.int p1), .val (.long q2), .second, .val (.int p3), .val (.long q4), .second, .val (.int p5), .val (.int (own_ch p1)), .val (.int (own_ch p3)), .val (.int (own_ch p5)), .val (.ref b6), .val (.ref b9), .val (.ref b12), .val (.long (own_pos q2)), .second, .val (.long (own_pos q4)), .second, .val (.long ((own_pos q2) + (own_pos q4))), .second, .val (.long (own_eq (own_ch p1) (34 : Int32) (own_pos q2) + own_eq (own_ch p3) (34 : Int32) (own_pos q4))), .second, .val (.long (own_eq (own_ch p1) (92 : Int32) (own_pos q2) + own_eq (own_ch p3) (92 : Int32) (own_pos q4))), .second, .val (.int (own_h (own_ch p5) (own_pos q2) (own_ch p1) (own_pos q4) (own_ch p3)))] [(.int (lcmpW ((0 + own_eq (own_ch p1) 92 (own_pos q2)) + (0 + own_eq (own_ch p3) 92 (own_pos q4))) (own_eq (own_ch p1) (92 : Int32) (own_pos q2) + own_eq (own_ch p3) (92 : Int32) (own_pos q4))))])) _
    refine XS.ifNo X18.here hx rfl (hb hby at_250) rfl ((if0 _ _).trans (teq ((lw_eq _ _).mpr (by simp only [Int64.zero_add]))).2) ?_
    show Steps p.tables e below (T18.setTop (mkF m 253 #[.val (.int p1), .val (.long q2), .second, .val (.int p3), .val (.long q4), .second, .val (.int p5), .val (.int (own_ch p1)), .val (.int (own_ch p3)), .val (.int (own_ch p5)), .val (.ref b6), .val (.ref b9), .val (.ref b12), .val (.long (own_pos q2)), .second, .val (.long (own_pos q4)), .second, .val (.long ((own_pos q2) + (own_pos q4))), .second, .val (.long (own_eq (own_ch p1) (34 : Int32) (own_pos q2) + own_eq (own_ch p3) (34 : Int32) (own_pos q4))), .second, .val (.long (own_eq (own_ch p1) (92 : Int32) (own_pos q2) + own_eq (own_ch p3) (92 : Int32) (own_pos q4))), .second, .val (.int (own_h (own_ch p5) (own_pos q2) (own_ch p1) (own_pos q4) (own_ch p3)))] [])) _
    refine XS.aload X18.here hx rfl (hb hby at_253) rfl rfl ?_
    show Steps p.tables e below (T18.setTop (mkF m 255 #[.val (.int p1), .val (.long q2), .second, .val (.int p3), .val (.long q4), .second, .val (.int p5), .val (.int (own_ch p1)), .val (.int (own_ch p3)), .val (.int (own_ch p5)), .val (.ref b6), .val (.ref b9), .val (.ref b12), .val (.long (own_pos q2)), .second, .val (.long (own_pos q4)), .second, .val (.long ((own_pos q2) + (own_pos q4))), .second, .val (.long (own_eq (own_ch p1) (34 : Int32) (own_pos q2) + own_eq (own_ch p3) (34 : Int32) (own_pos q4))), .second, .val (.long (own_eq (own_ch p1) (92 : Int32) (own_pos q2) + own_eq (own_ch p3) (92 : Int32) (own_pos q4))), .second, .val (.int (own_h (own_ch p5) (own_pos q2) (own_ch p1) (own_pos q4) (own_ch p3)))] [(.ref b6)])) _
    refine XS.aload X18.here hx rfl (hb hby at_255) rfl rfl ?_
    show Steps p.tables e below (T18.setTop (mkF m 257 #[.val (.int p1), .val (.long q2), .second, .val (.int p3), .val (.long q4), .second, .val (.int p5), .val (.int (own_ch p1)), .val (.int (own_ch p3)), .val (.int (own_ch p5)), .val (.ref b6), .val (.ref b9), .val (.ref b12), .val (.long (own_pos q2)), .second, .val (.long (own_pos q4)), .second, .val (.long ((own_pos q2) + (own_pos q4))), .second, .val (.long (own_eq (own_ch p1) (34 : Int32) (own_pos q2) + own_eq (own_ch p3) (34 : Int32) (own_pos q4))), .second, .val (.long (own_eq (own_ch p1) (92 : Int32) (own_pos q2) + own_eq (own_ch p3) (92 : Int32) (own_pos q4))), .second, .val (.int (own_h (own_ch p5) (own_pos q2) (own_ch p1) (own_pos q4) (own_ch p3)))] [(.ref b12), (.ref b6)])) _
    refine st19.trans ?_
    show Steps p.tables e below (T19.setTop (mkF m 260 #[.val (.int p1), .val (.long q2), .second, .val (.int p3), .val (.long q4), .second, .val (.int p5), .val (.int (own_ch p1)), .val (.int (own_ch p3)), .val (.int (own_ch p5)), .val (.ref b6), .val (.ref b9), .val (.ref b12), .val (.long (own_pos q2)), .second, .val (.long (own_pos q4)), .second, .val (.long ((own_pos q2) + (own_pos q4))), .second, .val (.long (own_eq (own_ch p1) (34 : Int32) (own_pos q2) + own_eq (own_ch p3) (34 : Int32) (own_pos q4))), .second, .val (.long (own_eq (own_ch p1) (92 : Int32) (own_pos q2) + own_eq (own_ch p3) (92 : Int32) (own_pos q4))), .second, .val (.int (own_h (own_ch p5) (own_pos q2) (own_ch p1) (own_pos q4) (own_ch p3)))] [(.int (own_any ((0 ||| own_bit q2 (own_low (own_ch p1))) ||| (0 ||| own_bit q4 (own_low (own_ch p3)))) (0 ||| own_bit 1 (own_low (own_ch p5))) ((0 ||| own_bit q2 (own_high (own_ch p1))) ||| (0 ||| own_bit q4 (own_high (own_ch p3)))) (0 ||| own_bit 1 (own_high (own_ch p5)))))])) _
    refine XS.iload X19.here hx rfl (hb hby at_260) rfl ?_
    show Steps p.tables e below (T19.setTop (mkF m 262 #[.val (.int p1), .val (.long q2), .second, .val (.int p3), .val (.long q4), .second, .val (.int p5), .val (.int (own_ch p1)), .val (.int (own_ch p3)), .val (.int (own_ch p5)), .val (.ref b6), .val (.ref b9), .val (.ref b12), .val (.long (own_pos q2)), .second, .val (.long (own_pos q4)), .second, .val (.long ((own_pos q2) + (own_pos q4))), .second, .val (.long (own_eq (own_ch p1) (34 : Int32) (own_pos q2) + own_eq (own_ch p3) (34 : Int32) (own_pos q4))), .second, .val (.long (own_eq (own_ch p1) (92 : Int32) (own_pos q2) + own_eq (own_ch p3) (92 : Int32) (own_pos q4))), .second, .val (.int (own_h (own_ch p5) (own_pos q2) (own_ch p1) (own_pos q4) (own_ch p3)))] [(.int (own_h (own_ch p5) (own_pos q2) (own_ch p1) (own_pos q4) (own_ch p3))), (.int (own_any ((0 ||| own_bit q2 (own_low (own_ch p1))) ||| (0 ||| own_bit q4 (own_low (own_ch p3)))) (0 ||| own_bit 1 (own_low (own_ch p5))) ((0 ||| own_bit q2 (own_high (own_ch p1))) ||| (0 ||| own_bit q4 (own_high (own_ch p3)))) (0 ||| own_bit 1 (own_high (own_ch p5)))))])) _
    refine XS.icmpNo X19.here hx rfl (hb hby at_262) rfl (teq (by rw [own_bit1, own_bit1]; exact own_hold q2 q4 p1 p3 p5)).2 ?_
    show Steps p.tables e below (T19.setTop (mkF m 265 #[.val (.int p1), .val (.long q2), .second, .val (.int p3), .val (.long q4), .second, .val (.int p5), .val (.int (own_ch p1)), .val (.int (own_ch p3)), .val (.int (own_ch p5)), .val (.ref b6), .val (.ref b9), .val (.ref b12), .val (.long (own_pos q2)), .second, .val (.long (own_pos q4)), .second, .val (.long ((own_pos q2) + (own_pos q4))), .second, .val (.long (own_eq (own_ch p1) (34 : Int32) (own_pos q2) + own_eq (own_ch p3) (34 : Int32) (own_pos q4))), .second, .val (.long (own_eq (own_ch p1) (92 : Int32) (own_pos q2) + own_eq (own_ch p3) (92 : Int32) (own_pos q4))), .second, .val (.int (own_h (own_ch p5) (own_pos q2) (own_ch p1) (own_pos q4) (own_ch p3)))] [])) _
    refine XS.aload X19.here hx rfl (hb hby at_265) rfl rfl ?_
    show Steps p.tables e below (T19.setTop (mkF m 267 #[.val (.int p1), .val (.long q2), .second, .val (.int p3), .val (.long q4), .second, .val (.int p5), .val (.int (own_ch p1)), .val (.int (own_ch p3)), .val (.int (own_ch p5)), .val (.ref b6), .val (.ref b9), .val (.ref b12), .val (.long (own_pos q2)), .second, .val (.long (own_pos q4)), .second, .val (.long ((own_pos q2) + (own_pos q4))), .second, .val (.long (own_eq (own_ch p1) (34 : Int32) (own_pos q2) + own_eq (own_ch p3) (34 : Int32) (own_pos q4))), .second, .val (.long (own_eq (own_ch p1) (92 : Int32) (own_pos q2) + own_eq (own_ch p3) (92 : Int32) (own_pos q4))), .second, .val (.int (own_h (own_ch p5) (own_pos q2) (own_ch p1) (own_pos q4) (own_ch p3)))] [(.ref b9)])) _
    refine st20.trans ?_
    show Steps p.tables e below (T20.setTop (mkF m 270 #[.val (.int p1), .val (.long q2), .second, .val (.int p3), .val (.long q4), .second, .val (.int p5), .val (.int (own_ch p1)), .val (.int (own_ch p3)), .val (.int (own_ch p5)), .val (.ref b6), .val (.ref b9), .val (.ref b12), .val (.long (own_pos q2)), .second, .val (.long (own_pos q4)), .second, .val (.long ((own_pos q2) + (own_pos q4))), .second, .val (.long (own_eq (own_ch p1) (34 : Int32) (own_pos q2) + own_eq (own_ch p3) (34 : Int32) (own_pos q4))), .second, .val (.long (own_eq (own_ch p1) (92 : Int32) (own_pos q2) + own_eq (own_ch p3) (92 : Int32) (own_pos q4))), .second, .val (.int (own_h (own_ch p5) (own_pos q2) (own_ch p1) (own_pos q4) (own_ch p3)))] [(.long (0 + own_pos q4))])) _
    refine XS.lload X20.here hx rfl (hb hby at_270) rfl ?_
    show Steps p.tables e below (T20.setTop (mkF m 272 #[.val (.int p1), .val (.long q2), .second, .val (.int p3), .val (.long q4), .second, .val (.int p5), .val (.int (own_ch p1)), .val (.int (own_ch p3)), .val (.int (own_ch p5)), .val (.ref b6), .val (.ref b9), .val (.ref b12), .val (.long (own_pos q2)), .second, .val (.long (own_pos q4)), .second, .val (.long ((own_pos q2) + (own_pos q4))), .second, .val (.long (own_eq (own_ch p1) (34 : Int32) (own_pos q2) + own_eq (own_ch p3) (34 : Int32) (own_pos q4))), .second, .val (.long (own_eq (own_ch p1) (92 : Int32) (own_pos q2) + own_eq (own_ch p3) (92 : Int32) (own_pos q4))), .second, .val (.int (own_h (own_ch p5) (own_pos q2) (own_ch p1) (own_pos q4) (own_ch p3)))] [(.long (own_pos q4)), (.long (0 + own_pos q4))])) _
    refine XS.lcmp X20.here hx rfl (hb hby at_272) rfl ?_
    show Steps p.tables e below (T20.setTop (mkF m 273 #[.val (.int p1), .val (.long q2), .second, .val (.int p3), .val (.long q4), .second, .val (.int p5), .val (.int (own_ch p1)), .val (.int (own_ch p3)), .val (.int (own_ch p5)), .val (.ref b6), .val (.ref b9), .val (.ref b12), .val (.long (own_pos q2)), .second, .val (.long (own_pos q4)), .second, .val (.long ((own_pos q2) + (own_pos q4))), .second, .val (.long (own_eq (own_ch p1) (34 : Int32) (own_pos q2) + own_eq (own_ch p3) (34 : Int32) (own_pos q4))), .second, .val (.long (own_eq (own_ch p1) (92 : Int32) (own_pos q2) + own_eq (own_ch p3) (92 : Int32) (own_pos q4))), .second, .val (.int (own_h (own_ch p5) (own_pos q2) (own_ch p1) (own_pos q4) (own_ch p3)))] [(.int (lcmpW (0 + own_pos q4) (own_pos q4)))])) _
    refine XS.ifNo X20.here hx rfl (hb hby at_273) rfl ((if0 _ _).trans (teq ((lw_eq _ _).mpr (by simp only [Int64.zero_add]))).2) ?_
    show Steps p.tables e below (T20.setTop (mkF m 276 #[.val (.int p1), .val (.long q2), .second, .val (.int p3), .val (.long q4), .second, .val (.int p5), .val (.int (own_ch p1)), .val (.int (own_ch p3)), .val (.int (own_ch p5)), .val (.ref b6), .val (.ref b9), .val (.ref b12), .val (.long (own_pos q2)), .second, .val (.long (own_pos q4)), .second, .val (.long ((own_pos q2) + (own_pos q4))), .second, .val (.long (own_eq (own_ch p1) (34 : Int32) (own_pos q2) + own_eq (own_ch p3) (34 : Int32) (own_pos q4))), .second, .val (.long (own_eq (own_ch p1) (92 : Int32) (own_pos q2) + own_eq (own_ch p3) (92 : Int32) (own_pos q4))), .second, .val (.int (own_h (own_ch p5) (own_pos q2) (own_ch p1) (own_pos q4) (own_ch p3)))] [])) _
    refine XS.iconst X20.here hx rfl (hb hby at_276) ?_
    show Steps p.tables e below (T20.setTop (mkF m 277 #[.val (.int p1), .val (.long q2), .second, .val (.int p3), .val (.long q4), .second, .val (.int p5), .val (.int (own_ch p1)), .val (.int (own_ch p3)), .val (.int (own_ch p5)), .val (.ref b6), .val (.ref b9), .val (.ref b12), .val (.long (own_pos q2)), .second, .val (.long (own_pos q4)), .second, .val (.long ((own_pos q2) + (own_pos q4))), .second, .val (.long (own_eq (own_ch p1) (34 : Int32) (own_pos q2) + own_eq (own_ch p3) (34 : Int32) (own_pos q4))), .second, .val (.long (own_eq (own_ch p1) (92 : Int32) (own_pos q2) + own_eq (own_ch p3) (92 : Int32) (own_pos q4))), .second, .val (.int (own_h (own_ch p5) (own_pos q2) (own_ch p1) (own_pos q4) (own_ch p3)))] [(.int (1 : Int32))])) _
    refine XS.goto X20.here hx rfl (pc0 := 277) (pc' := 281) rfl (hb hby at_277) (by decide) (by decide) ?_
    show Steps p.tables e below (T20.setTop (mkF m 281 #[.val (.int p1), .val (.long q2), .second, .val (.int p3), .val (.long q4), .second, .val (.int p5), .val (.int (own_ch p1)), .val (.int (own_ch p3)), .val (.int (own_ch p5)), .val (.ref b6), .val (.ref b9), .val (.ref b12), .val (.long (own_pos q2)), .second, .val (.long (own_pos q4)), .second, .val (.long ((own_pos q2) + (own_pos q4))), .second, .val (.long (own_eq (own_ch p1) (34 : Int32) (own_pos q2) + own_eq (own_ch p3) (34 : Int32) (own_pos q4))), .second, .val (.long (own_eq (own_ch p1) (92 : Int32) (own_pos q2) + own_eq (own_ch p3) (92 : Int32) (own_pos q4))), .second, .val (.int (own_h (own_ch p5) (own_pos q2) (own_ch p1) (own_pos q4) (own_ch p3)))] [(.int (1 : Int32))])) _
    exact retN X20 hx (t := .boolean) Bd.returns (by simp) (hb hby at_281) hr
  · show Q0 Z p1 q2 p3 q4 p5 h0 n0 _ T20.heap _
    exact ⟨rfl, N20⟩
set_option maxRecDepth 65536 in
set_option maxHeartbeats 40000000 in
theorem comes_1 {Post : Tables → Env → Array Value → State → Outcome → State → Prop} (hpost : ∀ tb e args s v u, (limb_1_1.after args s (.returned v) u = true ∧ limb_1_2.after args s (.returned v) u = true ∧ True) → FrameEnd s (.returned v) u (Jvm.fieldLocs frame_1_writes args s ++ Jvm.arrayLocs frame_1_arrays args s ++ Jvm.staticLocs frame_1_statics s) 16 128 → Post tb e args s (.returned v) u) :
    ArmFor flags0 classFile x code maxLocals ret World_1 tables_1 room_1 Calls_1 rest_1 Pre_1 Post := by
  intro l hfl _ _ p e ha hc hk s m args below hf hA hF happ hP
  obtain ⟨hcalls, hrest, hpre⟩ := hP
  obtain ⟨-, -, -, hnamed, -, -, -, hat⟩ := (Spec.applies_iff hf).mp happ
  obtain ⟨hg, hn⟩ := and_e (Cond.before_iff.mp (show (Jvm.Cond.and given_1 narrow_1).before args s = true from hpre))
  obtain ⟨g21, g22⟩ := and_e hg
  obtain ⟨g23, g24⟩ := and_e g22
  obtain ⟨g25, g26⟩ := and_e g24
  obtain ⟨g27, g28⟩ := and_e g26
  obtain ⟨g29, g30⟩ := and_e g28
  obtain ⟨w0, w1, w2, w3, w4, rfl⟩ : ∃ w0 w1 w2 w3 w4 : Value, args = #[w0, w1, w2, w3, w4] := by
    have hs : args.size = 5 := by simpa [Cond.value, given_1] using g21
    obtain ⟨L⟩ := args
    match L, hs with
    | [w0, w1, w2, w3, w4], _ => exact ⟨w0, w1, w2, w3, w4, rfl⟩
  have hw := fun d (hd : d ∈ tables_1) => atoms_spec (ws := Jvm.Cond.code x code maxLocals ret :: tables_1) hat d (List.mem_cons_of_mem _ hd)
  have hfit : Fit s := fun {y c} hc i hi => by
    obtain ⟨ha, rfl⟩ := Array.getElem?_eq_some_iff.mp hc
    have q := List.all_eq_true.mp ((Array.all_eq_true_iff_forall_mem.mp hF) _ (Array.getElem_mem ha)) i (List.mem_range.mpr hi)
    simpa [Array.getElem?_eq_getElem hi] using q
  obtain ⟨i0, ei0⟩ := is_v g23
  obtain rfl : w0 = (.int i0) := Option.some.inj ei0
  obtain ⟨i1, ei1⟩ := isL_v g25
  obtain rfl : w1 = (.long i1) := Option.some.inj ei1
  obtain ⟨i2, ei2⟩ := is_v g27
  obtain rfl : w2 = (.int i2) := Option.some.inj ei2
  obtain ⟨i3, ei3⟩ := isL_v g29
  obtain rfl : w3 = (.long i3) := Option.some.inj ei3
  obtain ⟨i4, ei4⟩ := is_v g30
  obtain rfl : w4 = (.int i4) := Option.some.inj ei4
  obtain ⟨n, o, h1, h2, h3, _, L, rfl, ⟨rfl, N⟩, hq⟩ := rm0 l s _ hw tables_1 i0 i1 i2 i3 i4 s.heap s.heap.size (Nat.le_refl _) p e ha hc hk s m _ below hf ((Spec.applies_iff_loose hf).mp happ).1 ⟨rfl, State.Warmed39.refl s, rfl⟩ trivial
  refine ⟨n, _, h1, h2, h3, hpost _ _ _ _ _ _ ⟨Cond.after_iff.mpr rfl, Cond.after_iff.mpr (eq_i res_at (Term.int_eval (1)) rfl), trivial⟩ ⟨hq.1, hq.2.1, (hq.2.2.sift fun y hy => Or.inr (N y hy)).mono (by decide) (by decide)⟩⟩
theorem main_1_1 : Claimed_1_1 := comes_1 fun _ _ _ _ _ _ h hF => ⟨h.1, hF⟩
theorem main_1_2 : Claimed_1_2 := comes_1 fun _ _ _ _ _ _ h hF => ⟨h.2.1, hF⟩
end Jvm.Pilot.@@N@@
namespace Jvm.Pilot.@@N@@
open Jvm Jvm.ClassFile Sem Op Lib Jvm.Free Jvm.Stand Jvm.Pilot.@@N@@.Jvm.D
/-! MADE BY PROGRAM (witnessworld.py) out of the Statement's table words and the real class files: 10 classes; the members and pool entries that the words name. The judged class is class 1, her method 1. -/
namespace start1
open Jvm.ClassFile
def u (s : String) : CpInfo := .utf8 (stringToUtf16 s)
/-- a pool by its gaps: so many unusable entries, then the entry; so many at the end -/
def gap : Nat → List CpInfo → List CpInfo
  | 0, r => r
  | n + 1, r => .unusable :: gap n r
def poolList (es : List (Nat × CpInfo)) (last : Nat) : List CpInfo := es.foldr (fun e r => gap e.1 (e.2 :: r)) (gap last [])
def pool (es : List (Nat × CpInfo)) (last : Nat) : Array CpInfo := ⟨poolList es last⟩
def fileOf (pool : Array CpInfo) (this : Nat) (attrs : Array Attribute := #[]) (ms : Array MethodInfo := #[]) (fl : Nat := 33) (sup : Nat := 0) (ifs : Array Nat := #[]) (fds : Array FieldInfo := #[]) : ClassFile where
  minorVersion := 0
  majorVersion := 65
  constantPool := pool
  accessFlags := fl
  thisClass := this
  superClass := sup
  interfaces := ifs
  fields := fds
  methods := ms
  attributes := attrs
def plain (name : String) (sup : Option ClassId) : Class where
  name := name
  kind := .ordinary
  loader := none
  accessFlags := 33
  super := sup
  interfaces := #[]
  cf := none
  fields := #[]
  methods := #[]
  instanceTypes := #[]
  staticTypes := #[]
  resolved := #[]
  callSites := []
  init := .initialized
  statics := none
  mirror := none

def pool0 : Array CpInfo := pool [(5, u "<init>"), (0, u "()V"), (1, .class_ 10), (1, u "java/lang/Object")] 113

def k0c0 : Code := { maxStack := 0, maxLocals := 1, code := object_method_1_code, exceptionTable := #[], attributes := #[] }
def k0m0 : Method := { name := "<init>", desc := "()V", sig := { parameters := [], returnType := none }, accessFlags := 1, code := some k0c0 }
/-- java/lang/Object -/
def k0 : Class := { plain "java/lang/Object" none with
  accessFlags := 33
  interfaces := #[]
  cf := some (fileOf pool0 8 #[] #[{ accessFlags := 1, nameIndex := 5, descriptorIndex := 6, attributes := #[] }] 33 0 #[] #[])
  fields := #[]
  methods := #[k0m0]
  instanceTypes := #[]
  staticTypes := #[]
  resolved := Array.replicate 124 none
  statics := none }

def pool1 : Array CpInfo := pool [(2, .class_ 4), (0, .nameAndType 5 6), (0, u "java/lang/Object"), (0, u "<init>"), (0, u "()V"), (0, .class_ 8), (0, u "com/example/transmute/transmute/MeasuredText"), (0, .methodref 7 3), (0, .methodref 7 11), (0, .nameAndType 12 13), (0, u "addRepeated"), (0, u "(CJ)V"), (0, .methodref 7 15), (0, .nameAndType 16 17), (0, u "add"), (0, u "(Lcom/example/transmute/transmute/MeasuredText;)V"), (0, .methodref 7 19), (0, .nameAndType 20 21), (0, u "length"), (0, u "()J"), (0, .methodref 7 23), (0, .nameAndType 24 21), (0, u "quotes"), (0, .methodref 7 26), (0, .nameAndType 27 21), (0, u "backslashes"), (0, .methodref 7 29), (0, .nameAndType 30 31), (0, u "holdsAnyOf"), (0, u "(Lcom/example/transmute/transmute/MeasuredText;)Z"), (0, .class_ 33), (0, u "com/example/transmute/transmute/MeasuredTextAddPinLaw"), (2, u "law"), (0, u "(IJIJI)Z")] 3

def k1m0 : Method := { name := "<init>", desc := "()V", sig := { parameters := [], returnType := none }, accessFlags := 1, code := none }
def k1c1 : Code := { maxStack := 4, maxLocals := 24, code := code, exceptionTable := #[], attributes := #[] }
def k1m1 : Method := { name := "law", desc := "(IJIJI)Z", sig := { parameters := [.int, .long, .int, .long, .int], returnType := some .boolean }, accessFlags := 9, code := some k1c1 }
/-- com/example/transmute/transmute/MeasuredTextAddPinLaw -/
def k1 : Class := { plain "com/example/transmute/transmute/MeasuredTextAddPinLaw" (some 0) with
  accessFlags := 49
  interfaces := #[]
  cf := some (fileOf pool1 32 #[] #[{ accessFlags := 1, nameIndex := 5, descriptorIndex := 6, attributes := #[] }, { accessFlags := 9, nameIndex := 36, descriptorIndex := 37, attributes := #[] }] 49 2 #[] #[])
  fields := #[]
  methods := #[k1m0, k1m1]
  instanceTypes := #[]
  staticTypes := #[]
  resolved := Array.replicate 41 none
  statics := none }

def pool2 : Array CpInfo := pool [(1, .class_ 2), (0, u "com/example/transmute/transmute/TextOut"), (0, .class_ 4), (0, u "java/lang/Object"), (8, .class_ 14), (0, u "com/example/transmute/transmute/TextOut$Builder")] 2

/-- com/example/transmute/transmute/TextOut -/
def k2 : Class := { plain "com/example/transmute/transmute/TextOut" (some 0) with
  accessFlags := 1536
  interfaces := #[]
  cf := some (fileOf pool2 1 #[.nestMembers #[13]] #[] 1536 3 #[] #[])
  fields := #[]
  methods := #[]
  instanceTypes := #[]
  staticTypes := #[]
  resolved := Array.replicate 17 none
  statics := none }

def pool3 : Array CpInfo := pool [(1, .methodref 2 3), (0, .class_ 4), (0, .nameAndType 5 6), (0, u "java/lang/Object"), (0, u "<init>"), (0, u "()V"), (0, .class_ 8), (0, u "com/example/transmute/transmute/MeasuredText"), (7, u "m_sText"), (0, u "Ljava/lang/String;"), (2, u "addRepeated"), (0, u "(CJ)V"), (4, u "length"), (5, .methodref 7 33), (0, .nameAndType 34 35), (0, u "_lowBit"), (0, u "(C)J"), (0, .methodref 7 37), (0, .nameAndType 38 35), (0, u "_highBit"), (0, .fieldref 7 40), (0, .nameAndType 41 42), (0, u "m_nLength"), (0, u "J"), (0, .fieldref 7 44), (0, .nameAndType 45 42), (0, u "m_nQuotes"), (0, .fieldref 7 47), (0, .nameAndType 48 42), (0, u "m_nBackslashes"), (0, .fieldref 7 50), (0, .nameAndType 51 42), (0, u "m_nLowChars"), (0, .fieldref 7 53), (0, .nameAndType 54 42), (0, u "m_nHighChars"), (14, .class_ 70), (0, u "com/example/transmute/transmute/TextOut"), (8, u "add"), (0, u "(Lcom/example/transmute/transmute/MeasuredText;)V"), (0, u "()J"), (0, u "quotes"), (0, u "backslashes"), (0, u "holdsAnyOf"), (0, u "(Lcom/example/transmute/transmute/MeasuredText;)Z")] 7

def k3c0 : Code := { maxStack := 1, maxLocals := 1, code := prog_86_method_1_code, exceptionTable := #[], attributes := #[] }
def k3m0 : Method := { name := "<init>", desc := "()V", sig := { parameters := [], returnType := none }, accessFlags := 0, code := some k3c0 }
def k3c1 : Code := { maxStack := 5, maxLocals := 2, code := prog_86_method_6_code, exceptionTable := #[], attributes := #[] }
def k3m1 : Method := { name := "add", desc := "(Lcom/example/transmute/transmute/MeasuredText;)V", sig := { parameters := [(.object "com/example/transmute/transmute/MeasuredText")], returnType := none }, accessFlags := 0, code := some k3c1 }
def k3c2 : Code := { maxStack := 5, maxLocals := 4, code := prog_86_method_7_code, exceptionTable := #[], attributes := #[] }
def k3m2 : Method := { name := "addRepeated", desc := "(CJ)V", sig := { parameters := [.char, .long], returnType := none }, accessFlags := 0, code := some k3c2 }
def k3c3 : Code := { maxStack := 2, maxLocals := 1, code := prog_86_method_8_code, exceptionTable := #[], attributes := #[] }
def k3m3 : Method := { name := "length", desc := "()J", sig := { parameters := [], returnType := some .long }, accessFlags := 0, code := some k3c3 }
def k3c4 : Code := { maxStack := 2, maxLocals := 1, code := prog_86_method_9_code, exceptionTable := #[], attributes := #[] }
def k3m4 : Method := { name := "quotes", desc := "()J", sig := { parameters := [], returnType := some .long }, accessFlags := 0, code := some k3c4 }
def k3c5 : Code := { maxStack := 2, maxLocals := 1, code := prog_86_method_10_code, exceptionTable := #[], attributes := #[] }
def k3m5 : Method := { name := "backslashes", desc := "()J", sig := { parameters := [], returnType := some .long }, accessFlags := 0, code := some k3c5 }
def k3c6 : Code := { maxStack := 6, maxLocals := 2, code := prog_86_method_11_code, exceptionTable := #[], attributes := #[] }
def k3m6 : Method := { name := "holdsAnyOf", desc := "(Lcom/example/transmute/transmute/MeasuredText;)Z", sig := { parameters := [(.object "com/example/transmute/transmute/MeasuredText")], returnType := some .boolean }, accessFlags := 0, code := some k3c6 }
def k3c7 : Code := { maxStack := 3, maxLocals := 1, code := prog_86_method_15_code, exceptionTable := #[], attributes := #[] }
def k3m7 : Method := { name := "_lowBit", desc := "(C)J", sig := { parameters := [.char], returnType := some .long }, accessFlags := 10, code := some k3c7 }
def k3c8 : Code := { maxStack := 4, maxLocals := 1, code := prog_86_method_16_code, exceptionTable := #[], attributes := #[] }
def k3m8 : Method := { name := "_highBit", desc := "(C)J", sig := { parameters := [.char], returnType := some .long }, accessFlags := 10, code := some k3c8 }
/-- com/example/transmute/transmute/MeasuredText -/
def k3 : Class := { plain "com/example/transmute/transmute/MeasuredText" (some 0) with
  accessFlags := 48
  interfaces := #[2]
  cf := some (fileOf pool3 7 #[] #[{ accessFlags := 0, nameIndex := 5, descriptorIndex := 6, attributes := #[] }, { accessFlags := 0, nameIndex := 79, descriptorIndex := 80, attributes := #[] }, { accessFlags := 0, nameIndex := 20, descriptorIndex := 21, attributes := #[] }, { accessFlags := 0, nameIndex := 26, descriptorIndex := 81, attributes := #[] }, { accessFlags := 0, nameIndex := 82, descriptorIndex := 81, attributes := #[] }, { accessFlags := 0, nameIndex := 83, descriptorIndex := 81, attributes := #[] }, { accessFlags := 0, nameIndex := 84, descriptorIndex := 85, attributes := #[] }, { accessFlags := 10, nameIndex := 34, descriptorIndex := 35, attributes := #[] }, { accessFlags := 10, nameIndex := 38, descriptorIndex := 35, attributes := #[] }] 48 2 #[69] #[{ accessFlags := 2, nameIndex := 41, descriptorIndex := 42, attributes := #[] }, { accessFlags := 2, nameIndex := 45, descriptorIndex := 42, attributes := #[] }, { accessFlags := 2, nameIndex := 48, descriptorIndex := 42, attributes := #[] }, { accessFlags := 2, nameIndex := 51, descriptorIndex := 42, attributes := #[] }, { accessFlags := 2, nameIndex := 54, descriptorIndex := 42, attributes := #[] }, { accessFlags := 2, nameIndex := 16, descriptorIndex := 17, attributes := #[] }])
  fields := #[{ name := "m_nLength", type := .long, accessFlags := 2, slot := 0, constantValue := 0 }, { name := "m_nQuotes", type := .long, accessFlags := 2, slot := 1, constantValue := 0 }, { name := "m_nBackslashes", type := .long, accessFlags := 2, slot := 2, constantValue := 0 }, { name := "m_nLowChars", type := .long, accessFlags := 2, slot := 3, constantValue := 0 }, { name := "m_nHighChars", type := .long, accessFlags := 2, slot := 4, constantValue := 0 }, { name := "m_sText", type := (.object "java/lang/String"), accessFlags := 2, slot := 5, constantValue := 0 }]
  methods := #[k3m0, k3m1, k3m2, k3m3, k3m4, k3m5, k3m6, k3m7, k3m8]
  instanceTypes := #[.long, .long, .long, .long, .long, (.object "java/lang/String")]
  staticTypes := #[]
  resolved := Array.replicate 93 none
  statics := none }

def pool4 : Array CpInfo := pool [(1, u "java/lang/Cloneable"), (0, .class_ 1), (0, u "java/lang/Object"), (0, .class_ 3)] 3

/-- java/lang/Cloneable -/
def k4 : Class := { plain "java/lang/Cloneable" (some 0) with
  accessFlags := 1537
  interfaces := #[]
  cf := some (fileOf pool4 2 #[] #[] 1537 4 #[] #[])
  fields := #[]
  methods := #[]
  instanceTypes := #[]
  staticTypes := #[]
  resolved := Array.replicate 8 none
  statics := none }

def pool5 : Array CpInfo := pool [(1, u "java/io/Serializable"), (0, .class_ 1), (0, u "java/lang/Object"), (0, .class_ 3)] 3

/-- java/io/Serializable -/
def k5 : Class := { plain "java/io/Serializable" (some 0) with
  accessFlags := 1537
  interfaces := #[]
  cf := some (fileOf pool5 2 #[] #[] 1537 4 #[] #[])
  fields := #[]
  methods := #[]
  instanceTypes := #[]
  staticTypes := #[]
  resolved := Array.replicate 8 none
  statics := none }

/-- the primitive byte -/
def k6 : Class := { plain "byte" none with kind := .primitive 'B', accessFlags := 0x411 }
/-- [B -/
def k7 : Class := { plain "[B" (some 0) with kind := .array 6 .byte, interfaces := #[4, 5], accessFlags := 1041 }

/-- the primitive int -/
def k8 : Class := { plain "int" none with kind := .primitive 'I', accessFlags := 0x411 }
/-- [I -/
def k9 : Class := { plain "[I" (some 0) with kind := .array 8 .int, interfaces := #[4, 5], accessFlags := 1041 }

def heap : Heap := #[]
def classes : Array Class := #[k0, k1, k2, k3, k4, k5, k6, k7, k8, k9]
def interned : List (Array UInt16 × Addr) := []
def slotsUsed : Nat := 0
def theMethod : MethodId := ⟨1, 1⟩
def args0 : Array Value := #[.int 5, .long 2, .int 77, .long 3, .int 9]
def aboutOver (below : List Frame) : State where
  vm := { classes := classes, interned := interned.toArray }
  heap := heap
  slotsUsed := slotsUsed
  threads := #[{ frames := .invoking theMethod args0 :: below }]
def below0 : List Frame := [.native { method := ⟨0, 0⟩, args := #[] }]
def about1 : State := aboutOver below0
def p0 : Program := .bare "" "" ""
def e0 : Env := launch0.env 0 0 0
theorem w_frames : about1.frames = Frame.invoking theMethod args0 :: below0 := rfl
set_option maxRecDepth 65536 in
theorem w_args : argsFit about1.vm theMethod args0 = true := by decide +kernel
set_option maxRecDepth 65536 in
theorem w_heap : heapFits about1 = true := by decide +kernel
set_option maxRecDepth 65536 in
theorem w_runnable : about1.curStatus? = some .runnable := by decide +kernel
set_option maxRecDepth 65536 in
theorem w_alone : about1.alone = true := by decide +kernel
set_option maxRecDepth 65536 in
theorem w_named : about1.methodNamed? x = some theMethod := by decide +kernel
set_option maxRecDepth 65536 in
theorem w_hears : about1.hears theMethod below0 = true := by decide +kernel
set_option maxRecDepth 65536 in
theorem w_ripe : about1.ripe theMethod args0 below0 = true := by decide +kernel
theorem w_running : about1.status = .running := rfl
set_option maxRecDepth 65536 in
theorem w_room : about1.hasRoom e0.platform room_1 = true :=
  launch0.hasRoom_least _ room_1 (by decide +kernel) (by decide +kernel) (by decide +kernel) (by decide +kernel) (by decide +kernel) (by decide +kernel)
theorem allAtoms_all (ts : List Jvm.Cond) (a : Array Jvm.Value) (st : Jvm.State) : (allAtoms ts).before a st = ts.all (fun c => c.before a st) := by
  induction ts with
  | nil => rfl
  | cons c t ih =>
    show (Jvm.Cond.and c (allAtoms t)).before a st = _
    rw [Jvm.Cond.before_and, ih, List.all_cons]
def words1 : List Jvm.Cond := Jvm.Cond.code x code maxLocals ret :: tables_1
/-- a 'code' word, met by the world's own term for the bytes: nothing is compared byte by byte -/
theorem code_word {y : MethodName} {bytes : ByteArray} {mx : Nat} {rt : Option FieldType} {a : Array Value} {s : State} {m : MethodId} {meth : Method} {c : Code} (h1 : s.methodNamed? y = some m) (h2 : s.vm.method? m = some meth) (h3 : meth.code = some c) (h4 : c.code = bytes)
    (h5 : (c.maxLocals == mx && c.exceptionTable.isEmpty && decide (c.maxStack ≤ mostOperands) && decide (meth.sig.returnType = rt) && !meth.locks && decide (parseMethodDescriptor y.desc = some meth.sig)) = true) : (Jvm.Cond.code y bytes mx rt).before a s = true := by
  simp only [Bool.and_eq_true, beq_iff_eq, Bool.not_eq_true', decide_eq_true_eq] at h5
  obtain ⟨⟨⟨⟨⟨g1, g2⟩, g3⟩, g4⟩, g5⟩, g6⟩ := h5
  simp [Cond.before, Cond.holds, Cond.value, h1, h2, h3, h4, g1, g2, g3, g4, g5, g6]
def isCode : Jvm.Cond → Bool
  | .code _ _ _ _ => true
  | _ => false
theorem all_split {L : List Jvm.Cond} {P : Jvm.Cond → Bool} (h1 : L.all (fun c => isCode c || P c) = true) (h2 : ∀ c ∈ L.filter isCode, P c = true) : L.all P = true := by
  refine List.all_eq_true.mpr fun c hc => ?_
  have h := List.all_eq_true.mp h1 c hc
  rcases Bool.eq_false_or_eq_true (isCode c) with hi | hi
  · exact h2 c (List.mem_filter.mpr ⟨hc, hi⟩)
  · simpa [hi] using h
set_option maxRecDepth 65536 in
theorem w_c0 : (Jvm.Cond.code x code maxLocals ret).before args0 about1 = true := code_word (m := ⟨1, 1⟩) (meth := k1m1) (c := k1c1) (by decide +kernel) rfl rfl rfl (by decide +kernel)
set_option maxRecDepth 65536 in
theorem w_c1 : (Jvm.Cond.code ({ cls := "com/example/transmute/transmute/MeasuredText", name := "<init>", desc := "()V" } : Jvm.MethodName) prog_86_method_1_code (1 : Nat) (Option.none : Option Jvm.ClassFile.FieldType)).before args0 about1 = true := code_word (m := ⟨3, 0⟩) (meth := k3m0) (c := k3c0) (by decide +kernel) rfl rfl rfl (by decide +kernel)
set_option maxRecDepth 65536 in
theorem w_c2 : (Jvm.Cond.code ({ cls := "java/lang/Object", name := "<init>", desc := "()V" } : Jvm.MethodName) object_method_1_code (1 : Nat) (Option.none : Option Jvm.ClassFile.FieldType)).before args0 about1 = true := code_word (m := ⟨0, 0⟩) (meth := k0m0) (c := k0c0) (by decide +kernel) rfl rfl rfl (by decide +kernel)
set_option maxRecDepth 65536 in
theorem w_c3 : (Jvm.Cond.code ({ cls := "com/example/transmute/transmute/MeasuredText", name := "addRepeated", desc := "(CJ)V" } : Jvm.MethodName) prog_86_method_7_code (4 : Nat) (Option.none : Option Jvm.ClassFile.FieldType)).before args0 about1 = true := code_word (m := ⟨3, 2⟩) (meth := k3m2) (c := k3c2) (by decide +kernel) rfl rfl rfl (by decide +kernel)
set_option maxRecDepth 65536 in
theorem w_c4 : (Jvm.Cond.code ({ cls := "com/example/transmute/transmute/MeasuredText", name := "_lowBit", desc := "(C)J" } : Jvm.MethodName) prog_86_method_15_code (1 : Nat) (Option.some Jvm.ClassFile.FieldType.long)).before args0 about1 = true := code_word (m := ⟨3, 7⟩) (meth := k3m7) (c := k3c7) (by decide +kernel) rfl rfl rfl (by decide +kernel)
set_option maxRecDepth 65536 in
theorem w_c5 : (Jvm.Cond.code ({ cls := "com/example/transmute/transmute/MeasuredText", name := "_highBit", desc := "(C)J" } : Jvm.MethodName) prog_86_method_16_code (1 : Nat) (Option.some Jvm.ClassFile.FieldType.long)).before args0 about1 = true := code_word (m := ⟨3, 8⟩) (meth := k3m8) (c := k3c8) (by decide +kernel) rfl rfl rfl (by decide +kernel)
set_option maxRecDepth 65536 in
theorem w_c6 : (Jvm.Cond.code ({ cls := "com/example/transmute/transmute/MeasuredText", name := "add", desc := "(Lcom/example/transmute/transmute/MeasuredText;)V" } : Jvm.MethodName) prog_86_method_6_code (2 : Nat) (Option.none : Option Jvm.ClassFile.FieldType)).before args0 about1 = true := code_word (m := ⟨3, 1⟩) (meth := k3m1) (c := k3c1) (by decide +kernel) rfl rfl rfl (by decide +kernel)
set_option maxRecDepth 65536 in
theorem w_c7 : (Jvm.Cond.code ({ cls := "com/example/transmute/transmute/MeasuredText", name := "length", desc := "()J" } : Jvm.MethodName) prog_86_method_8_code (1 : Nat) (Option.some Jvm.ClassFile.FieldType.long)).before args0 about1 = true := code_word (m := ⟨3, 3⟩) (meth := k3m3) (c := k3c3) (by decide +kernel) rfl rfl rfl (by decide +kernel)
set_option maxRecDepth 65536 in
theorem w_c8 : (Jvm.Cond.code ({ cls := "com/example/transmute/transmute/MeasuredText", name := "quotes", desc := "()J" } : Jvm.MethodName) prog_86_method_9_code (1 : Nat) (Option.some Jvm.ClassFile.FieldType.long)).before args0 about1 = true := code_word (m := ⟨3, 4⟩) (meth := k3m4) (c := k3c4) (by decide +kernel) rfl rfl rfl (by decide +kernel)
set_option maxRecDepth 65536 in
theorem w_c9 : (Jvm.Cond.code ({ cls := "com/example/transmute/transmute/MeasuredText", name := "backslashes", desc := "()J" } : Jvm.MethodName) prog_86_method_10_code (1 : Nat) (Option.some Jvm.ClassFile.FieldType.long)).before args0 about1 = true := code_word (m := ⟨3, 5⟩) (meth := k3m5) (c := k3c5) (by decide +kernel) rfl rfl rfl (by decide +kernel)
set_option maxRecDepth 65536 in
theorem w_c10 : (Jvm.Cond.code ({ cls := "com/example/transmute/transmute/MeasuredText", name := "holdsAnyOf", desc := "(Lcom/example/transmute/transmute/MeasuredText;)Z" } : Jvm.MethodName) prog_86_method_11_code (2 : Nat) (Option.some Jvm.ClassFile.FieldType.boolean)).before args0 about1 = true := code_word (m := ⟨3, 6⟩) (meth := k3m6) (c := k3c6) (by decide +kernel) rfl rfl rfl (by decide +kernel)
def codes1 : List Jvm.Cond := [Jvm.Cond.code x code maxLocals ret, Jvm.Cond.code ({ cls := "com/example/transmute/transmute/MeasuredText", name := "<init>", desc := "()V" } : Jvm.MethodName) prog_86_method_1_code (1 : Nat) (Option.none : Option Jvm.ClassFile.FieldType), Jvm.Cond.code ({ cls := "java/lang/Object", name := "<init>", desc := "()V" } : Jvm.MethodName) object_method_1_code (1 : Nat) (Option.none : Option Jvm.ClassFile.FieldType), Jvm.Cond.code ({ cls := "com/example/transmute/transmute/MeasuredText", name := "addRepeated", desc := "(CJ)V" } : Jvm.MethodName) prog_86_method_7_code (4 : Nat) (Option.none : Option Jvm.ClassFile.FieldType), Jvm.Cond.code ({ cls := "com/example/transmute/transmute/MeasuredText", name := "_lowBit", desc := "(C)J" } : Jvm.MethodName) prog_86_method_15_code (1 : Nat) (Option.some Jvm.ClassFile.FieldType.long), Jvm.Cond.code ({ cls := "com/example/transmute/transmute/MeasuredText", name := "_highBit", desc := "(C)J" } : Jvm.MethodName) prog_86_method_16_code (1 : Nat) (Option.some Jvm.ClassFile.FieldType.long), Jvm.Cond.code ({ cls := "com/example/transmute/transmute/MeasuredText", name := "add", desc := "(Lcom/example/transmute/transmute/MeasuredText;)V" } : Jvm.MethodName) prog_86_method_6_code (2 : Nat) (Option.none : Option Jvm.ClassFile.FieldType), Jvm.Cond.code ({ cls := "com/example/transmute/transmute/MeasuredText", name := "length", desc := "()J" } : Jvm.MethodName) prog_86_method_8_code (1 : Nat) (Option.some Jvm.ClassFile.FieldType.long), Jvm.Cond.code ({ cls := "com/example/transmute/transmute/MeasuredText", name := "quotes", desc := "()J" } : Jvm.MethodName) prog_86_method_9_code (1 : Nat) (Option.some Jvm.ClassFile.FieldType.long), Jvm.Cond.code ({ cls := "com/example/transmute/transmute/MeasuredText", name := "backslashes", desc := "()J" } : Jvm.MethodName) prog_86_method_10_code (1 : Nat) (Option.some Jvm.ClassFile.FieldType.long), Jvm.Cond.code ({ cls := "com/example/transmute/transmute/MeasuredText", name := "holdsAnyOf", desc := "(Lcom/example/transmute/transmute/MeasuredText;)Z" } : Jvm.MethodName) prog_86_method_11_code (2 : Nat) (Option.some Jvm.ClassFile.FieldType.boolean)]
set_option maxRecDepth 65536 in
theorem codes_eq : words1.filter isCode = codes1 := rfl
theorem w_codes : ∀ c ∈ words1.filter isCode, c.before args0 about1 = true := by
  rw [codes_eq]
  intro c hc
  simp only [codes1, List.mem_cons, List.not_mem_nil, or_false] at hc
  rcases hc with rfl | rfl | rfl | rfl | rfl | rfl | rfl | rfl | rfl | rfl | rfl
  · exact w_c0
  · exact w_c1
  · exact w_c2
  · exact w_c3
  · exact w_c4
  · exact w_c5
  · exact w_c6
  · exact w_c7
  · exact w_c8
  · exact w_c9
  · exact w_c10
set_option maxRecDepth 65536 in
theorem w_t1 : (words1.take 24).all (fun c => isCode c || c.before args0 about1) = true := by decide +kernel
set_option maxRecDepth 65536 in
theorem w_t2 : ((words1.drop 24).take 24).all (fun c => isCode c || c.before args0 about1) = true := by decide +kernel
set_option maxRecDepth 65536 in
theorem w_t3 : ((words1.drop 24).drop 24).all (fun c => isCode c || c.before args0 about1) = true := by decide +kernel
theorem w_tables : (allAtoms (Jvm.Cond.code x code maxLocals ret :: tables_1)).before args0 about1 = true := by
  rw [allAtoms_all]
  show words1.all (fun c => c.before args0 about1) = true
  refine all_split ?_ w_codes
  rw [← List.take_append_drop 24 words1, List.all_append, w_t1, ← List.take_append_drop 24 (words1.drop 24), List.all_append, w_t2, w_t3]
  rfl
set_option maxRecDepth 65536 in
theorem w_case : (Jvm.Cond.and given_1 narrow_1).before args0 about1 = true := by decide +kernel
theorem w_applies : (headSpec (Jvm.Cond.code x code maxLocals ret :: tables_1) room_1).applies x e0.platform about1 = true :=
  (Spec.applies_iff w_frames).mpr ⟨w_running, w_runnable, w_alone, w_named, w_hears, w_ripe, w_room, w_tables⟩
theorem atStart : AtStart classFile x code maxLocals ret World_1 tables_1 room_1 Calls_1 rest_1 Pre_1 launch0 p0 e0 about1 theMethod args0 below0 :=
  ⟨lists_1, trivial, launch0.admits_env _ _ _, launch0.least_env, fairChoices_fair.cas, fairChoices_fair.clock, w_frames, w_args, w_heap, w_applies, trivial, trivial, w_case⟩
end start1
theorem witness_1 : WitnessClaimed_1 := ⟨start1.p0, start1.e0, start1.about1, start1.theMethod, start1.args0, start1.below0, start1.atStart⟩
end Jvm.Pilot.@@N@@
