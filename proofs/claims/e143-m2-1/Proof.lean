import JvmDerived
import JvmDerived.Pilot.@@N@@Statement
import JvmDerived.Pilot.@@N@@Code
set_option linter.unusedVariables false
set_option linter.unusedSimpArgs false
namespace Jvm.RoadKit
open Sem ClassFile Op Lib Jvm.Stand Jvm.Free Jvm.LawKit
section New
variable {p : Program} {l : Launch} {e : Env} {R : Room} {s : State} {m : MethodId} {args : Array Value} {below : List Frame} {meth : Method} {c : Code} {T : State} {locs : List Loc} {cells slots : Nat}
theorem retI (X : Stand p l e R s m args below meth c T locs cells slots) (hx : p.tables.exec = Jvm.exec) {pc : Nat} {Ls : Array Slot} {z : Int32} {rest : List Value} (hret : meth.sig.returnType = some .int) (hd : decode c.code pc = .ok (.ireturn, 1)) {fs : List Frame}
    (hl : ∀ (f : JFrame) (acts : List Action), f.method = m → f.locked = none → f.entered = [] → (doReturn e (T.setTop f) acts (some (.int z))).1 = T.setFrames fs) : Steps p.tables e below (T.setTop (mkF m pc Ls (.int z :: rest))) (T.setFrames fs) := by
  have hm' : T.vm.method? m = some meth := X.method'
  have hn : narrow .int (.int z) = .int z := rfl
  show Steps p.tables e below (T.setTop { method := m, pc := pc, locals := Ls, stack := _ :: rest, locked := none }) _
  jvm_step X.here [X.here.top, hx, hd, hm', hret, hn]
  first | (intro acts; rw [hl _ acts rfl rfl rfl]) | rw [hl _ _ rfl rfl rfl]
  exact Steps.refl _
end New
end Jvm.RoadKit
namespace Jvm.Pilot.@@N@@
open Jvm Jvm.ClassFile Sem Op Lib Jvm.Free Jvm.Stand Jvm.LawKit Jvm.RoadKit Bundle Jvm.Pilot.@@N@@.Jvm.D

def own_W (Z : State) (h : Heap) (b : Addr) (n : Nat) : Prop := ∃ A : Cell, h[b]? = some A ∧ Z.isArrayOf A .long ∧ A.vm = .none ∧ Z.vm.findClass "[J" = some A.cls ∧ A.slots.size = n ∧ Jvm.Free.XT.Typed .long A
theorem own_w_ext {Z : State} {h h' : Heap} {b : Addr} {n : Nat} (M : own_W Z h b n) (E : Ext h h') : own_W Z h' b n := by
  obtain ⟨A, h1, r⟩ := M; exact ⟨A, E.2 _ _ h1, r⟩
theorem own_w_keep {Z : State} {h h' : Heap} {b : Addr} {n : Nat} {ws : List Addr} (M : own_W Z h b n) (K : Keep h h' ws) (q : b ∉ ws) : own_W Z h' b n := by
  obtain ⟨A, h1, r⟩ := M; exact ⟨A, K.2.1 b A h1 q, r⟩
theorem own_push (h : Heap) (B : Cell) : Ext h (h.push B) := ⟨by simp, fun x y q => by
  have := (Array.getElem?_eq_some_iff.mp q).1
  rw [Array.getElem?_push_lt this]; rw [Array.getElem?_eq_getElem this] at q; exact q⟩
def own_DS (Z : State) (h : Heap) (a b : Addr) (n : Nat) : Prop := Exa Z h a "com/example/kestrel_query/kestrelquery/exec/DoubleSums" ∧ Fld Z h a "com/example/kestrel_query/kestrelquery/exec/DoubleSums" "windows" "[J" (.ref b) ∧ Fld Z h a "com/example/kestrel_query/kestrelquery/exec/DoubleSums" "spilledBytes" "J" (.long (0 : Int64)) ∧ Fld Z h a "com/example/kestrel_query/kestrelquery/exec/DoubleSums" "spills" "[Ljava/math/BigInteger;" .null ∧ Fld Z h a "com/example/kestrel_query/kestrelquery/exec/DoubleSums" "notFinite" "[B" .null ∧ own_W Z h b n ∧ b ≠ a
theorem own_ds_keep {Z : State} {h h' : Heap} {a b : Addr} {n : Nat} (M : own_DS Z h a b n) (K : Keep h h' []) : own_DS Z h' a b n :=
  ⟨M.1.keep K, M.2.1.keep K nin0, M.2.2.1.keep K nin0, M.2.2.2.1.keep K nin0, M.2.2.2.2.1.keep K nin0, own_w_keep M.2.2.2.2.2.1 K nin0, M.2.2.2.2.2.2⟩
theorem own_1023 (x : Int32) : ∃ k : Nat, k ≤ 1023 ∧ x &&& (1023 : Int32) = Int32.ofNat k := by
  refine ⟨(x.toBitVec &&& 1023#32).toNat, ?_, ?_⟩
  · rw [BitVec.toNat_and]
    exact Nat.le_trans Nat.and_le_right (by decide)
  · apply Int32.toBitVec_inj.mp
    simp
theorem own_i2l (n : Nat) (h : n < 2 ^ 31) : (Int32.ofNat n).toInt64 = Int64.ofNat n := by
  apply Int64.toInt_inj.mp
  rw [Int32.toInt_toInt64, Int32.toInt_ofNat_of_lt h, Int64.toInt_ofNat_of_lt (by omega)]
theorem own_24 (x : Int32) (k : Nat) (hk : k ≤ 1023) (e : x = Int32.ofNat k) : ((8 : Int64) * ((Int32.ofNat (3 * k)).toInt64)) + (0 : Int64) = (24 : Int64) * x.toInt64 := by
  rw [e, own_i2l _ (by omega), own_i2l _ (by omega), Int64.add_zero, show (8 : Int64) = Int64.ofNat 8 from rfl, show (24 : Int64) = Int64.ofNat 24 from rfl, ← Int64.ofNat_mul, ← Int64.ofNat_mul]
  congr 1; omega
theorem own_cap (n : Nat) (h : n ≤ 3069) : n = (Int32.ofNat n).toNatClampNeg := (Jvm.Free.XT.n32 (by omega)).symm
theorem own_cap0 (n : Nat) (h : n ≤ 3069) : ¬ Int32.ofNat n < 0 := by
  rw [Int32.lt_iff_toInt_lt, Int32.toInt_ofNat_of_lt (by omega)]; show ¬ ((n : Int) < 0); omega
/-- the words of Arrays.copyOf(long[], int), as the library's law asks them -/
theorem own_tab {Z s : State} {a0 args : Array Value} (hZ : Z.Warmed39 s.vm) (hw : ∀ d ∈ tables_1, d.before a0 Z = true) : Jvm.Free.JA.CopyOfJ.tab.before args s = true := by
  refine Jvm.Free.XT.unparts (mvT hZ (hw _ (List.mem_of_getElem? (i := 32) rfl))) ?_
  have hmin : Jvm.Free.JP.Math_min_II.tab.before args s = true := by
    refine Jvm.Free.XT.unparts (mvT hZ (hw _ (List.mem_of_getElem? (i := 45) rfl))) ?_
    intro w hm
    rcases List.mem_cons.mp hm with rfl | hm
    · exact mvT hZ (hw _ (List.mem_of_getElem? (i := 44) rfl))
    · cases hm
  intro w hm
  have hm : w ∈ [Cond.initialized "java/util/Arrays", Cond.classLink "java/util/Arrays" 320 "[J", Cond.castable "[J" "[J", Cond.arrayClass .long, Jvm.Free.JP.Math_min_II.tab, Cond.methodLink "java/util/Arrays" 319 ⟨"[J", "clone", "()Ljava/lang/Object;"⟩, Cond.sameMethod "[J" "java/lang/Object" "clone" "()Ljava/lang/Object;", Cond.native ⟨"java/lang/Object", "clone", "()Ljava/lang/Object;"⟩, Cond.instanceMethod ⟨"java/lang/Object", "clone", "()Ljava/lang/Object;"⟩, Cond.selects "[J" ⟨"[J", "clone", "()Ljava/lang/Object;"⟩ ⟨"java/lang/Object", "clone", "()Ljava/lang/Object;"⟩, Cond.castable "[J" "java/lang/Cloneable", Cond.methodLink "java/util/Arrays" 304 ⟨"java/lang/Math", "min", "(II)I"⟩, Cond.static ⟨"java/lang/Math", "min", "(II)I"⟩, Cond.methodLink "java/util/Arrays" 150 ⟨"java/lang/System", "arraycopy", "(Ljava/lang/Object;ILjava/lang/Object;II)V"⟩, Cond.native ⟨"java/lang/System", "arraycopy", "(Ljava/lang/Object;ILjava/lang/Object;II)V"⟩, Cond.static ⟨"java/lang/System", "arraycopy", "(Ljava/lang/Object;ILjava/lang/Object;II)V"⟩, Cond.initialized "java/lang/System"] := hm
  simp only [List.mem_cons, List.not_mem_nil, or_false] at hm
  rcases hm with rfl | rfl | rfl | rfl | rfl | rfl | rfl | rfl | rfl | rfl | rfl | rfl | rfl | rfl | rfl | rfl | rfl
  · exact mvT hZ (hw _ (List.mem_of_getElem? (i := 31) rfl))
  · exact mvT hZ (hw _ (List.mem_of_getElem? (i := 40) rfl))
  · exact mvT hZ (hw _ (List.mem_of_getElem? (i := 41) rfl))
  · exact mvA hZ (hw _ (List.mem_of_getElem? (i := 9) rfl))
  · exact hmin
  · exact mvT hZ (hw _ (List.mem_of_getElem? (i := 33) rfl))
  · exact mvT hZ (hw _ (List.mem_of_getElem? (i := 34) rfl))
  · exact mvT hZ (hw _ (List.mem_of_getElem? (i := 38) rfl))
  · exact mvT hZ (hw _ (List.mem_of_getElem? (i := 36) rfl))
  · exact mvT hZ (hw _ (List.mem_of_getElem? (i := 37) rfl))
  · exact mvT hZ (hw _ (List.mem_of_getElem? (i := 39) rfl))
  · exact mvT hZ (hw _ (List.mem_of_getElem? (i := 42) rfl))
  · exact mvT hZ (hw _ (List.mem_of_getElem? (i := 43) rfl))
  · exact mvT hZ (hw _ (List.mem_of_getElem? (i := 46) rfl))
  · exact mvT hZ (hw _ (List.mem_of_getElem? (i := 49) rfl))
  · exact mvT hZ (hw _ (List.mem_of_getElem? (i := 47) rfl))
  · exact mvT hZ (hw _ (List.mem_of_getElem? (i := 48) rfl))
theorem d1_0 : decode prog_45_method_1_code 0 = .ok (.aload_n 0, 1) := by decide +kernel
theorem d1_1 : decode prog_45_method_1_code 1 = .ok (.invokespecial 5, 3) := by decide +kernel
theorem d1_4 : decode prog_45_method_1_code 4 = .ok (.aload_n 0, 1) := by decide +kernel
theorem d1_5 : decode prog_45_method_1_code 5 = .ok (.iconst 0, 1) := by decide +kernel
theorem d1_6 : decode prog_45_method_1_code 6 = .ok (.newarray .long, 2) := by decide +kernel
theorem d1_8 : decode prog_45_method_1_code 8 = .ok (.putfield 11, 3) := by decide +kernel
theorem d1_11 : decode prog_45_method_1_code 11 = .ok (.return_, 1) := by decide +kernel
theorem pn_1 : plainName "com/example/kestrel_query/kestrelquery/exec/DoubleSums" = true := by first | (simp [plainName, overriddenIn]; done) | decide +kernel
theorem ef_1 (m : MethodId) (x0 : Addr) : entryFrame m #[(.ref x0)] 1 = mkF m 0 #[.val (.ref x0)] [] := by first | (simp [entryFrame, mkF, argsToLocals, Value.category]; done) | rfl
def Q1 (Z : State) (a1 : Addr) (h0 : Heap) (n0 : Nat) (v : Option Value) (h : Heap) (L : List Loc) : Prop := v = none ∧ Fr n0 L ∧ Keep h0 h [a1] ∧ ∃ b : Addr, own_DS Z h a1 b 0
set_option maxRecDepth 65536 in
set_option maxHeartbeats 40000000 in
theorem rm1 (l : Launch) (Z : State) (a0 : Array Value) (hw : ∀ d ∈ tables_1, d.before a0 Z = true) (ws : List Jvm.Cond) (a1 : Addr) (u_windows_a1 : Value) (h0 : Heap) (n0 : Nat) (Z0 : n0 ≤ h0.size) (E_a1 : Exa Z h0 a1 "com/example/kestrel_query/kestrelquery/exec/DoubleSums") (F_windows_a1 : Fld Z h0 a1 "com/example/kestrel_query/kestrelquery/exec/DoubleSums" "windows" "[J" u_windows_a1) (g_a1 : n0 ≤ a1) (F_1 : Fld Z h0 a1 "com/example/kestrel_query/kestrelquery/exec/DoubleSums" "spilledBytes" "J" (.long (0 : Int64))) (F_2 : Fld Z h0 a1 "com/example/kestrel_query/kestrelquery/exec/DoubleSums" "spills" "[Ljava/math/BigInteger;" .null) (F_3 : Fld Z h0 a1 "com/example/kestrel_query/kestrelquery/exec/DoubleSums" "notFinite" "[B" .null) :
    MetFree l (⟨"com/example/kestrel_query/kestrelquery/exec/DoubleSums", "<init>", "()V"⟩ : MethodName) (head1 (Jvm.Cond.code (⟨"com/example/kestrel_query/kestrelquery/exec/DoubleSums", "<init>", "()V"⟩ : MethodName) prog_45_method_1_code 1 none :: ws) ({ frames := 1, cells := 1, slots := 0, locals := 12 } : Room)) (fun a U => a = #[(.ref a1)] ∧ Z.Warmed39 U.vm ∧ U.heap = h0) (fun _ _ _ _ _ => True) (fun _ U o U' => ∃ v L, o = .returned v ∧ Q1 Z a1 h0 n0 v U'.heap L ∧ FrameEnd U o U' L ({ frames := 1, cells := 1, slots := 0, locals := 12 } : Room).cells ({ frames := 1, cells := 1, slots := 0, locals := 12 } : Room).slots) := by
  refine MetFree.of_bodySF (plainFor_of_name pn_1) hisR ?_
  intro p e s m args below meth c s₁ Bd hml0 hP hK
  obtain ⟨rfl, hZ, hh⟩ := hP
  have hx := Bd.exec
  have hby := Bd.bytes
  have hml : c.maxLocals = 1 := hml0
  have hown : s.vm.findClass "com/example/kestrel_query/kestrelquery/exec/DoubleSums" = some m.cls := findClass_of_methodNamed Bd.named
  have hnm := (name_of_methodNamed Bd.named Bd.method).1
  have X0 : Stand p l e ({ frames := 1, cells := 1, slots := 0, locals := 12 } : Room) s m #[(.ref a1)] below meth c s₁ [] 0 0 := Stand.of_body Bd
  have e0 : s₁.heap = h0 := by rw [← hh, Bd.state]; rfl
  have N0 := Fr.nil n0
  have pre0 : ∀ t, Steps p.tables e below (s₁.setTop (mkF m 0 #[.val (.ref a1)] [])) t → Steps p.tables e below (s₁.setTop (entryFrame m #[(.ref a1)] 1)) t := fun t k => castTop (ef_1 m a1) k
  obtain ⟨T2, X2, e2, st2⟩ := initO X0 hx hZ hown (hw _ (List.mem_of_getElem? (i := 6) rfl)) (hw _ (List.mem_of_getElem? (i := 7) rfl)) (hw _ (List.mem_of_getElem? (i := 8) rfl)) e0 (g := (mkF m 1 #[.val (.ref a1)] [(.ref a1)])) rfl (by rw [hml]; rfl) rfl (hb hby d1_1) (by decide) (W := 0) (by show 2 * 0 + _ ≤ _; exact Nat.le_of_eq rfl) (by decide)
  obtain ⟨T3, B3, X3, ba3, bs3, bv3, bh3, bf3, st3⟩ := X2.anew hx (atype := .long) (mvA hZ (hw _ (List.mem_of_getElem? (i := 9) rfl))) (n := 0) rfl (by decide) (by decide) (g := (mkF m 6 #[.val (.ref a1)] [(.int (0 : Int32)), (.ref a1)])) rfl (hb hby d1_6) (rest := [(.ref a1)]) rfl (by decide) (by decide)
  obtain ⟨h3, e3⟩ : ∃ z, T3.heap = z := ⟨_, rfl⟩
  have E3 : Ext h0 h3 := by rw [← e3, bh3, e2]; exact own_push _ _
  rw [e2] at st3 ba3
  obtain ⟨b3, g3⟩ : ∃ z, z = h0.size := ⟨_, rfl⟩
  rw [← g3] at ba3 st3
  have al3 := hZ.alike.trans X3.warmed.alike
  have w3 : own_W Z h3 b3 0 := ⟨B3, by rw [← e3]; exact ba3.1, State.isArrayOf_alike al3.symm ba3.2.1, bv3, by rw [← hZ.alike.findClass]; exact bf3, by rw [bs3]; rfl, fun i v hv => by rw [bs3] at hv; simp at hv⟩
  have ne3 : b3 ≠ a1 := Ne.symm (Nat.ne_of_lt (g3 ▸ E_a1.lt))
  have g_b3 : n0 ≤ b3 := Nat.le_trans Z0 (Nat.le_of_eq g3.symm)
  have sz_b3 : h0.size ≤ b3 := (Nat.le_trans (Keep.refl h0 [a1]).1 (Nat.le_of_eq g3.symm))
  have K3 : Keep h0 h3 [a1] := (Keep.refl h0 [a1]).ext E3
  obtain ⟨T4, h4, X4, e4, W4, st4⟩ := putF X3 hx hZ hown (host := "") (Or.inl (hw _ (List.mem_of_getElem? (i := 10) rfl))) Via.refl e3 (F_windows_a1.ext E3) (E_a1.ext E3) (Or.inl (hw _ (List.mem_of_getElem? (i := 11) rfl))) (hw _ (List.mem_of_getElem? (i := 1) rfl)) (ty := (.array .long)) (by decide) rfl rfl (g := (mkF m 8 #[.val (.ref a1)] [(.ref b3), (.ref a1)])) rfl rfl (hb hby d1_8)
  have Fw4 := (F_windows_a1.ext E3).same W4
  have K4 : Keep h0 h4 [a1] := K3.wr W4 (Or.inl (List.mem_of_getElem? (i := 0) rfl))
  have w4 := own_w_keep w3 (Keep.of_wr W4) (ninS ne3 nin0)
  have N4 := Fr.snoc X4 N0 g_a1
  obtain ⟨fs, hr, hrun, hended, hW, hsame⟩ := X4.leave (v := none) (fun _ => rfl)
  refine ⟨_, _, pre0 _ ?_, hrun, hended, _, _, rfl, ?_, ⟨_, rfl⟩, hW, hsame.mono (by decide) (by decide)⟩
  · show Steps p.tables e below (s₁.setTop (mkF m 0 #[.val (.ref a1)] [])) _
    refine XS.aloadN X0.here hx rfl (hb hby d1_0) rfl rfl ?_
    show Steps p.tables e below (s₁.setTop (mkF m 1 #[.val (.ref a1)] [(.ref a1)])) _
    refine st2 _ ?_
    show Steps p.tables e below (T2.setTop (mkF m 4 #[.val (.ref a1)] [])) _
    refine XS.aloadN X2.here hx rfl (hb hby d1_4) rfl rfl ?_
    show Steps p.tables e below (T2.setTop (mkF m 5 #[.val (.ref a1)] [(.ref a1)])) _
    refine XS.iconst X2.here hx rfl (hb hby d1_5) ?_
    show Steps p.tables e below (T2.setTop (mkF m 6 #[.val (.ref a1)] [(.int (0 : Int32)), (.ref a1)])) _
    refine st3 _ ?_
    show Steps p.tables e below (T3.setTop (mkF m 8 #[.val (.ref a1)] [(.ref b3), (.ref a1)])) _
    refine st4 _ ?_
    show Steps p.tables e below (T4.setTop (mkF m 11 #[.val (.ref a1)] [])) _
    exact X4.returnOut hx Bd.returns (hb hby d1_11) hr
  · show Q1 Z a1 h0 n0 _ T4.heap _
    rw [e4]
    exact ⟨rfl, N4, K4, b3, ((E_a1.ext E3).wr W4), Fw4, ((F_1.ext E3).other W4 (Or.inr (slot_ne (Or.inl (hw _ (List.mem_of_getElem? (i := 19) rfl))) (Or.inl (hw _ (List.mem_of_getElem? (i := 11) rfl))) (by decide) (t := .long) (t' := (.array .long)) (by decide) (by decide)))), ((F_2.ext E3).other W4 (Or.inr (slot_ne (Or.inl (hw _ (List.mem_of_getElem? (i := 21) rfl))) (Or.inl (hw _ (List.mem_of_getElem? (i := 11) rfl))) (by decide) (t := (.array (.object "java/math/BigInteger"))) (t' := (.array .long)) (by decide) (by decide)))), ((F_3.ext E3).other W4 (Or.inr (slot_ne (Or.inl (hw _ (List.mem_of_getElem? (i := 23) rfl))) (Or.inl (hw _ (List.mem_of_getElem? (i := 11) rfl))) (by decide) (t := (.array .byte)) (t' := (.array .long)) (by decide) (by decide)))), w4, ne3⟩
theorem d3_0 : decode prog_45_method_3_code 0 = .ok (.ldc2_w 36, 3) := by decide +kernel
theorem d3_3 : decode prog_45_method_3_code 3 = .ok (.aload_n 0, 1) := by decide +kernel
theorem d3_4 : decode prog_45_method_3_code 4 = .ok (.getfield 11, 3) := by decide +kernel
theorem d3_7 : decode prog_45_method_3_code 7 = .ok (.arraylength, 1) := by decide +kernel
theorem d3_8 : decode prog_45_method_3_code 8 = .ok (.i2l, 1) := by decide +kernel
theorem d3_9 : decode prog_45_method_3_code 9 = .ok (.lmul, 1) := by decide +kernel
theorem d3_10 : decode prog_45_method_3_code 10 = .ok (.aload_n 0, 1) := by decide +kernel
theorem d3_11 : decode prog_45_method_3_code 11 = .ok (.getfield 38, 3) := by decide +kernel
theorem d3_14 : decode prog_45_method_3_code 14 = .ok (.ladd, 1) := by decide +kernel
theorem d3_15 : decode prog_45_method_3_code 15 = .ok (.lstore_n 1, 1) := by decide +kernel
theorem d3_16 : decode prog_45_method_3_code 16 = .ok (.aload_n 0, 1) := by decide +kernel
theorem d3_17 : decode prog_45_method_3_code 17 = .ok (.getfield 21, 3) := by decide +kernel
theorem d3_20 : decode prog_45_method_3_code 20 = .ok (.ifnull 16, 3) := by decide +kernel
theorem d3_36 : decode prog_45_method_3_code 36 = .ok (.aload_n 0, 1) := by decide +kernel
theorem d3_37 : decode prog_45_method_3_code 37 = .ok (.getfield 29, 3) := by decide +kernel
theorem d3_40 : decode prog_45_method_3_code 40 = .ok (.ifnull 12, 3) := by decide +kernel
theorem d3_52 : decode prog_45_method_3_code 52 = .ok (.lload_n 1, 1) := by decide +kernel
theorem d3_53 : decode prog_45_method_3_code 53 = .ok (.lreturn, 1) := by decide +kernel
theorem pn_3 : plainName "com/example/kestrel_query/kestrelquery/exec/DoubleSums" = true := by first | (simp [plainName, overriddenIn]; done) | decide +kernel
theorem ef_3 (m : MethodId) (x0 : Addr) : entryFrame m #[(.ref x0)] 3 = mkF m 0 #[.val (.ref x0), .unset, .unset] [] := by first | (simp [entryFrame, mkF, argsToLocals, Value.category]; done) | rfl
def Q3 (Z : State) (a1 : Addr) (w2 : Addr) (cl_w2 : Cell) (z_w2 : Int32) (w4 : Int64) (h0 : Heap) (n0 : Nat) (v : Option Value) (h : Heap) (L : List Loc) : Prop := v = some (.long (((8 : Int64) * (z_w2.toInt64)) + w4)) ∧ Fr n0 L ∧ h = h0
set_option maxRecDepth 65536 in
set_option maxHeartbeats 40000000 in
theorem rm3 (l : Launch) (Z : State) (a0 : Array Value) (hw : ∀ d ∈ tables_1, d.before a0 Z = true) (ws : List Jvm.Cond) (a1 : Addr) (w2 : Addr) (cl_w2 : Cell) (z_w2 : Int32) (w4 : Int64) (h0 : Heap) (n0 : Nat) (Z0 : n0 ≤ h0.size) (F_windows_a1 : Fld Z h0 a1 "com/example/kestrel_query/kestrelquery/exec/DoubleSums" "windows" "[J" (.ref w2)) (Ar_w2 : Arr Z h0 w2 cl_w2 .long) (S_w2 : cl_w2.slots.size = z_w2.toNatClampNeg) (N_w2 : ¬ z_w2 < 0) (F_spilledBytes_a1 : Fld Z h0 a1 "com/example/kestrel_query/kestrelquery/exec/DoubleSums" "spilledBytes" "J" (.long w4)) (F_spills_a1 : Fld Z h0 a1 "com/example/kestrel_query/kestrelquery/exec/DoubleSums" "spills" "[Ljava/math/BigInteger;" .null) (F_notFinite_a1 : Fld Z h0 a1 "com/example/kestrel_query/kestrelquery/exec/DoubleSums" "notFinite" "[B" .null) :
    MetFree l (⟨"com/example/kestrel_query/kestrelquery/exec/DoubleSums", "retainedBytes", "()J"⟩ : MethodName) (head1 (Jvm.Cond.code (⟨"com/example/kestrel_query/kestrelquery/exec/DoubleSums", "retainedBytes", "()J"⟩ : MethodName) prog_45_method_3_code 3 (some .long) :: ws) ({ frames := 0, cells := 0, slots := 0, locals := 0 } : Room)) (fun a U => a = #[(.ref a1)] ∧ Z.Warmed39 U.vm ∧ U.heap = h0) (fun _ _ _ _ _ => True) (fun _ U o U' => ∃ v L, o = .returned v ∧ Q3 Z a1 w2 cl_w2 z_w2 w4 h0 n0 v U'.heap L ∧ FrameEnd U o U' L ({ frames := 0, cells := 0, slots := 0, locals := 0 } : Room).cells ({ frames := 0, cells := 0, slots := 0, locals := 0 } : Room).slots) := by
  refine MetFree.of_bodySF (plainFor_of_name pn_3) hisR ?_
  intro p e s m args below meth c s₁ Bd hml0 hP hK
  obtain ⟨rfl, hZ, hh⟩ := hP
  have hx := Bd.exec
  have hby := Bd.bytes
  have hml : c.maxLocals = 3 := hml0
  have hown : s.vm.findClass "com/example/kestrel_query/kestrelquery/exec/DoubleSums" = some m.cls := findClass_of_methodNamed Bd.named
  have hnm := (name_of_methodNamed Bd.named Bd.method).1
  have X0 : Stand p l e ({ frames := 0, cells := 0, slots := 0, locals := 0 } : Room) s m #[(.ref a1)] below meth c s₁ [] 0 0 := Stand.of_body Bd
  have e0 : s₁.heap = h0 := by rw [← hh, Bd.state]; rfl
  have N0 := Fr.nil n0
  have pre0 : ∀ t, Steps p.tables e below (s₁.setTop (mkF m 0 #[.val (.ref a1), .unset, .unset] [])) t → Steps p.tables e below (s₁.setTop (entryFrame m #[(.ref a1)] 3)) t := fun t k => castTop (ef_3 m a1) k
  obtain ⟨T3, X3, e3, st3⟩ := getF X0 hx hZ hown (host := "") (Or.inl (hw _ (List.mem_of_getElem? (i := 10) rfl))) Via.refl e0 F_windows_a1 (g := (mkF m 4 #[.val (.ref a1), .unset, .unset] [(.ref a1), (.long (8 : Int64))])) rfl rfl (hb hby d3_4)
  obtain ⟨T5, X5, e5, st5⟩ := getF X3 hx hZ hown (host := "") (Or.inl (hw _ (List.mem_of_getElem? (i := 18) rfl))) Via.refl e3 F_spilledBytes_a1 (g := (mkF m 11 #[.val (.ref a1), .unset, .unset] [(.ref a1), (.long ((8 : Int64) * (z_w2.toInt64)))])) rfl rfl (hb hby d3_11)
  obtain ⟨T7, X7, e7, st7⟩ := getF X5 hx hZ hown (host := "") (Or.inl (hw _ (List.mem_of_getElem? (i := 20) rfl))) Via.refl e5 F_spills_a1 (g := (mkF m 17 #[.val (.ref a1), .val (.long (((8 : Int64) * (z_w2.toInt64)) + w4)), .second] [(.ref a1)])) rfl rfl (hb hby d3_17)
  obtain ⟨T9, X9, e9, st9⟩ := getF X7 hx hZ hown (host := "") (Or.inl (hw _ (List.mem_of_getElem? (i := 22) rfl))) Via.refl e7 F_notFinite_a1 (g := (mkF m 37 #[.val (.ref a1), .val (.long (((8 : Int64) * (z_w2.toInt64)) + w4)), .second] [(.ref a1)])) rfl rfl (hb hby d3_37)
  obtain ⟨fs, hr, hrun, hended, hW, hsame⟩ := X9.leave (v := some (.long (((8 : Int64) * (z_w2.toInt64)) + w4))) (fun h => by rw [Bd.returns] at h; cases h)
  refine ⟨_, _, pre0 _ ?_, hrun, hended, _, _, rfl, ?_, ⟨_, rfl⟩, hW, hsame.mono (by decide) (by decide)⟩
  · show Steps p.tables e below (s₁.setTop (mkF m 0 #[.val (.ref a1), .unset, .unset] [])) _
    refine X0.ldc2Long hx hown (mvT hZ (hw _ (List.mem_of_getElem? (i := 17) rfl))) (g := (mkF m 0 #[.val (.ref a1), .unset, .unset] [])) rfl (hb hby d3_0) _ ?_
    show Steps p.tables e below (s₁.setTop (mkF m 3 #[.val (.ref a1), .unset, .unset] [(.long (8 : Int64))])) _
    refine XS.aloadN X0.here hx rfl (hb hby d3_3) rfl rfl ?_
    show Steps p.tables e below (s₁.setTop (mkF m 4 #[.val (.ref a1), .unset, .unset] [(.ref a1), (.long (8 : Int64))])) _
    refine st3 _ ?_
    show Steps p.tables e below (T3.setTop (mkF m 7 #[.val (.ref a1), .unset, .unset] [(.ref w2), (.long (8 : Int64))])) _
    refine X3.arraylength hx (by rw [e3]; exact Ar_w2.1) (State.isArrayOf_alike hZ.alike Ar_w2.2.1) (g := (mkF m 7 #[.val (.ref a1), .unset, .unset] [(.ref w2), (.long (8 : Int64))])) rfl rfl (hb hby d3_7) _ ?_
    rw [len_of S_w2 N_w2]
    show Steps p.tables e below (T3.setTop (mkF m 8 #[.val (.ref a1), .unset, .unset] [(.int z_w2), (.long (8 : Int64))])) _
    refine XS.i2l X3.here hx rfl (hb hby d3_8) rfl ?_
    show Steps p.tables e below (T3.setTop (mkF m 9 #[.val (.ref a1), .unset, .unset] [(.long (z_w2.toInt64)), (.long (8 : Int64))])) _
    refine XS.lmul X3.here hx rfl (hb hby d3_9) rfl ?_
    show Steps p.tables e below (T3.setTop (mkF m 10 #[.val (.ref a1), .unset, .unset] [(.long ((8 : Int64) * (z_w2.toInt64)))])) _
    refine XS.aloadN X3.here hx rfl (hb hby d3_10) rfl rfl ?_
    show Steps p.tables e below (T3.setTop (mkF m 11 #[.val (.ref a1), .unset, .unset] [(.ref a1), (.long ((8 : Int64) * (z_w2.toInt64)))])) _
    refine st5 _ ?_
    show Steps p.tables e below (T5.setTop (mkF m 14 #[.val (.ref a1), .unset, .unset] [(.long w4), (.long ((8 : Int64) * (z_w2.toInt64)))])) _
    refine XS.ladd X5.here hx rfl (hb hby d3_14) rfl ?_
    show Steps p.tables e below (T5.setTop (mkF m 15 #[.val (.ref a1), .unset, .unset] [(.long (((8 : Int64) * (z_w2.toInt64)) + w4))])) _
    refine XS.lstoreN X5.here hx rfl (hb hby d3_15) rfl (l' := #[.val (.ref a1), .val (.long (((8 : Int64) * (z_w2.toInt64)) + w4)), .second]) rfl ?_
    show Steps p.tables e below (T5.setTop (mkF m 16 #[.val (.ref a1), .val (.long (((8 : Int64) * (z_w2.toInt64)) + w4)), .second] [])) _
    refine XS.aloadN X5.here hx rfl (hb hby d3_16) rfl rfl ?_
    show Steps p.tables e below (T5.setTop (mkF m 17 #[.val (.ref a1), .val (.long (((8 : Int64) * (z_w2.toInt64)) + w4)), .second] [(.ref a1)])) _
    refine st7 _ ?_
    show Steps p.tables e below (T7.setTop (mkF m 20 #[.val (.ref a1), .val (.long (((8 : Int64) * (z_w2.toInt64)) + w4)), .second] [.null])) _
    refine XS.ifnullYes X7.here hx rfl (pc0 := 20) (pc' := 36) rfl (hb hby d3_20) rfl (by decide) (by decide) ?_
    show Steps p.tables e below (T7.setTop (mkF m 36 #[.val (.ref a1), .val (.long (((8 : Int64) * (z_w2.toInt64)) + w4)), .second] [])) _
    refine XS.aloadN X7.here hx rfl (hb hby d3_36) rfl rfl ?_
    show Steps p.tables e below (T7.setTop (mkF m 37 #[.val (.ref a1), .val (.long (((8 : Int64) * (z_w2.toInt64)) + w4)), .second] [(.ref a1)])) _
    refine st9 _ ?_
    show Steps p.tables e below (T9.setTop (mkF m 40 #[.val (.ref a1), .val (.long (((8 : Int64) * (z_w2.toInt64)) + w4)), .second] [.null])) _
    refine XS.ifnullYes X9.here hx rfl (pc0 := 40) (pc' := 52) rfl (hb hby d3_40) rfl (by decide) (by decide) ?_
    show Steps p.tables e below (T9.setTop (mkF m 52 #[.val (.ref a1), .val (.long (((8 : Int64) * (z_w2.toInt64)) + w4)), .second] [])) _
    refine XS.lloadN X9.here hx rfl (hb hby d3_52) rfl ?_
    show Steps p.tables e below (T9.setTop (mkF m 53 #[.val (.ref a1), .val (.long (((8 : Int64) * (z_w2.toInt64)) + w4)), .second] [(.long (((8 : Int64) * (z_w2.toInt64)) + w4))])) _
    jvm_step X9.here [X9.here.top, hx, (hb hby d3_53), X9.method', Bd.returns, narrow]
    first | (intro acts; rw [hr _ acts rfl rfl rfl]) | rw [hr _ _ rfl rfl rfl]
    exact Steps.refl _
  · show Q3 Z a1 w2 cl_w2 z_w2 w4 h0 n0 _ T9.heap _
    rw [e9]
    exact ⟨rfl, N0, rfl⟩
theorem d4_0 : decode prog_45_method_2_code 0 = .ok (.aload_n 0, 1) := by decide +kernel
theorem d4_1 : decode prog_45_method_2_code 1 = .ok (.aload_n 0, 1) := by decide +kernel
theorem d4_2 : decode prog_45_method_2_code 2 = .ok (.getfield 11, 3) := by decide +kernel
theorem d4_5 : decode prog_45_method_2_code 5 = .ok (.iconst 3, 1) := by decide +kernel
theorem d4_6 : decode prog_45_method_2_code 6 = .ok (.iload_n 1, 1) := by decide +kernel
theorem d4_7 : decode prog_45_method_2_code 7 = .ok (.imul, 1) := by decide +kernel
theorem d4_8 : decode prog_45_method_2_code 8 = .ok (.invokestatic 15, 3) := by decide +kernel
theorem d4_11 : decode prog_45_method_2_code 11 = .ok (.putfield 11, 3) := by decide +kernel
theorem d4_14 : decode prog_45_method_2_code 14 = .ok (.aload_n 0, 1) := by decide +kernel
theorem d4_15 : decode prog_45_method_2_code 15 = .ok (.getfield 21, 3) := by decide +kernel
theorem d4_18 : decode prog_45_method_2_code 18 = .ok (.ifnull 18, 3) := by decide +kernel
theorem d4_36 : decode prog_45_method_2_code 36 = .ok (.aload_n 0, 1) := by decide +kernel
theorem d4_37 : decode prog_45_method_2_code 37 = .ok (.getfield 29, 3) := by decide +kernel
theorem d4_40 : decode prog_45_method_2_code 40 = .ok (.ifnull 15, 3) := by decide +kernel
theorem d4_55 : decode prog_45_method_2_code 55 = .ok (.return_, 1) := by decide +kernel
theorem pn_4 : plainName "com/example/kestrel_query/kestrelquery/exec/DoubleSums" = true := by first | (simp [plainName, overriddenIn]; done) | decide +kernel
theorem pd_4_3 : parseMethodDescriptor "([JI)[J" = some ⟨[(.array .long), .int], some (.array .long)⟩ := by decide +kernel
theorem ef_4 (m : MethodId) (x0 : Addr) (x1 : Int32) : entryFrame m #[(.ref x0), (.int x1)] 2 = mkF m 0 #[.val (.ref x0), .val (.int x1)] [] := by first | (simp [entryFrame, mkF, argsToLocals, Value.category]; done) | rfl
def Q4 (Z : State) (a1 : Addr) (p2 : Int32) (k : Nat) (h0 : Heap) (n0 : Nat) (v : Option Value) (h : Heap) (L : List Loc) : Prop := v = none ∧ Fr n0 L ∧ Keep h0 h [a1] ∧ ∃ b : Addr, own_DS Z h a1 b (3 * k)
set_option maxRecDepth 65536 in
set_option maxHeartbeats 40000000 in
theorem rm4 (l : Launch) (Z : State) (a0 : Array Value) (hw : ∀ d ∈ tables_1, d.before a0 Z = true) (ws : List Jvm.Cond) (a1 : Addr) (p2 : Int32) (k : Nat) (w3 : Addr) (m0 : Nat) (h0 : Heap) (n0 : Nat) (Z0 : n0 ≤ h0.size) (hk : k ≤ 1023) (ek : p2 = Int32.ofNat k) (hm : m0 ≤ 3069) (M : own_DS Z h0 a1 w3 m0) (g_a1 : n0 ≤ a1) :
    MetFree l (⟨"com/example/kestrel_query/kestrelquery/exec/DoubleSums", "grow", "(I)V"⟩ : MethodName) (head1 (Jvm.Cond.code (⟨"com/example/kestrel_query/kestrelquery/exec/DoubleSums", "grow", "(I)V"⟩ : MethodName) prog_45_method_2_code 2 none :: ws) ({ frames := 2, cells := 1, slots := 3069, locals := 55 } : Room)) (fun a U => a = #[(.ref a1), (.int p2)] ∧ Z.Warmed39 U.vm ∧ U.heap = h0) (fun _ _ _ _ _ => True) (fun _ U o U' => ∃ v L, o = .returned v ∧ Q4 Z a1 p2 k h0 n0 v U'.heap L ∧ FrameEnd U o U' L ({ frames := 2, cells := 1, slots := 3069, locals := 55 } : Room).cells ({ frames := 2, cells := 1, slots := 3069, locals := 55 } : Room).slots) := by
  refine MetFree.of_bodySF (plainFor_of_name pn_4) hisR ?_
  intro p e s m args below meth c s₁ Bd hml0 hP hK
  obtain ⟨rfl, hZ, hh⟩ := hP
  have hx := Bd.exec
  have hby := Bd.bytes
  have hml : c.maxLocals = 2 := hml0
  have hown : s.vm.findClass "com/example/kestrel_query/kestrelquery/exec/DoubleSums" = some m.cls := findClass_of_methodNamed Bd.named
  have hnm := (name_of_methodNamed Bd.named Bd.method).1
  have X0 : Stand p l e ({ frames := 2, cells := 1, slots := 3069, locals := 55 } : Room) s m #[(.ref a1), (.int p2)] below meth c s₁ [] 0 0 := Stand.of_body Bd
  have e0 : s₁.heap = h0 := by rw [← hh, Bd.state]; rfl
  have N0 := Fr.nil n0
  have pre0 : ∀ t, Steps p.tables e below (s₁.setTop (mkF m 0 #[.val (.ref a1), .val (.int p2)] [])) t → Steps p.tables e below (s₁.setTop (entryFrame m #[(.ref a1), (.int p2)] 2)) t := fun t k => castTop (ef_4 m a1 p2) k
  obtain ⟨E_a1, F_windows_a1, F_1, F_spills_a1, F_notFinite_a1, ⟨A, a1', a2', a3', a4', a5', a6'⟩, -⟩ := M
  have e3k : (3 : Int32) * p2 = Int32.ofNat (3 * k) := by rw [ek, show (3 : Int32) = Int32.ofNat 3 from rfl, ← Int32.ofNat_mul]
  obtain ⟨T4, X4, e4, st4⟩ := getF X0 hx hZ hown (host := "") (Or.inl (hw _ (List.mem_of_getElem? (i := 10) rfl))) Via.refl e0 F_windows_a1 (g := (mkF m 2 #[.val (.ref a1), .val (.int p2)] [(.ref a1), (.ref a1)])) rfl rfl (hb hby d4_2)
  obtain ⟨v5, vm5, ⟨T5, L5, k5, n5⟩, hv5, X5, ⟨hQ5, l5, y5, z5⟩, st5⟩ := Jvm.LawKit.callS X4 hx (y := (⟨"java/util/Arrays", "copyOf", "([JI)[J"⟩ : MethodName)) hown (mvT hZ (hw _ (List.mem_of_getElem? (i := 29) rfl))) (mvT hZ (hw _ (List.mem_of_getElem? (i := 30) rfl))) (mvT hZ (hw _ (List.mem_of_getElem? (i := 31) rfl))) (mvT hZ (hw _ (List.mem_of_getElem? (i := 32) rfl))) (by decide) (Jvm.Free.JA.CopyOfJ.pays (W := 1) w3 A (3 * k) (own_tab hZ hw) (by decide) (by decide)) (g := (mkF m 8 #[.val (.ref a1), .val (.int p2)] [(.int ((3 : Int32) * p2)), (.ref w3), (.ref a1)])) rfl (by rw [hml]; rfl) (argsL := [(.ref w3), (.int ((3 : Int32) * p2))]) (rest := [(.ref a1)]) (lenOf pd_4_3 rfl) rfl (by show 2 * 0 + _ ≤ _; exact Nat.le_of_eq rfl) (hb hby d4_8) (fun vm₁ hv => ⟨(by decide : (0 : Nat) + 1 ≤ 1), (by show 0 + 3 * k ≤ 3069; omega), by show #[Value.ref w3, .int ((3 : Int32) * p2)] = _; rw [e3k], ⟨by show T4.heap[w3]? = some A; rw [e4]; exact a1', State.isArrayOf_alike (hZ.alike.trans hv.alike) a2', by rw [a3']; exact (fun h => by cases h), by rw [a5']; omega⟩, by show vm₁.findClass "[J" = _; rw [hv.alike.findClass, hZ.alike.findClass]; exact a4', a6', by omega⟩)
  dsimp only [Pt.U, Pt.locs, Pt.cells, Pt.slots] at X5 l5 y5 z5 st5 hQ5
  subst l5 y5 z5
  obtain ⟨rfl, B5, ba5, bv5, bc5, bs5, bg5, bk5⟩ := hQ5
  obtain ⟨b5, g5⟩ : ∃ z, z = h0.size := ⟨_, rfl⟩
  have hs5 : (T4.setVm vm5).heap.size = b5 := by rw [g5]; show T4.heap.size = _; rw [e4]
  rw [hs5] at st5 ba5
  have E5 : Ext h0 T5.heap := ⟨by rw [← g5]; exact Nat.le_of_lt (Array.getElem?_eq_some_iff.mp ba5.1).1, fun x y q => bk5 x y (by show T4.heap[x]? = some y; rw [e4]; exact q)⟩
  have al5 := hZ.alike.trans X5.warmed.alike
  have w5 : own_W Z T5.heap b5 (3 * k) := ⟨B5, ba5.1, State.isArrayOf_alike al5.symm ba5.2.1, bv5, by rw [← al5.findClass]; exact bc5, bs5, fun i v hi => by
    have hlt : i < 3 * k := by rw [← bs5]; exact (Array.getElem?_eq_some_iff.mp hi).1
    rw [bg5 i hlt] at hi
    obtain rfl := Option.some.inj hi
    show fits .long (A.slots.getD i (defaultValue .long)) = true
    rw [Array.getD_eq_getD_getElem?]
    cases hA : A.slots[i]? with
    | none => rfl
    | some u => exact a6' i u hA⟩
  have ne5 : b5 ≠ a1 := Ne.symm (Nat.ne_of_lt (g5 ▸ E_a1.lt))
  have N5q := Fr.nil n0
  have N5 := Fr.app N0 N5q
  obtain ⟨T6, h6, X6, e6, W6, st6⟩ := putF X5 hx hZ hown (host := "") (Or.inl (hw _ (List.mem_of_getElem? (i := 10) rfl))) Via.refl rfl (F_windows_a1.ext E5) (E_a1.ext E5) (Or.inl (hw _ (List.mem_of_getElem? (i := 11) rfl))) (hw _ (List.mem_of_getElem? (i := 1) rfl)) (ty := (.array .long)) (by decide) rfl rfl (g := (mkF m 11 #[.val (.ref a1), .val (.int p2)] [(.ref b5), (.ref a1)])) rfl rfl (hb hby d4_11)
  have Fw6 := (F_windows_a1.ext E5).same W6
  have K6 : Keep h0 h6 [a1] := ((Keep.refl h0 [a1]).ext E5).wr W6 (Or.inl (List.mem_of_getElem? (i := 0) rfl))
  have w6 := own_w_keep w5 (Keep.of_wr W6) (ninS ne5 nin0)
  have N6 := Fr.snoc X6 N5 g_a1
  obtain ⟨T8, X8, e8, st8⟩ := getF X6 hx hZ hown (host := "") (Or.inl (hw _ (List.mem_of_getElem? (i := 20) rfl))) Via.refl e6 ((F_spills_a1.ext E5).other W6 (Or.inr (slot_ne (Or.inl (hw _ (List.mem_of_getElem? (i := 21) rfl))) (Or.inl (hw _ (List.mem_of_getElem? (i := 11) rfl))) (by decide) (t := (.array (.object "java/math/BigInteger"))) (t' := (.array .long)) (by decide) (by decide)))) (g := (mkF m 15 #[.val (.ref a1), .val (.int p2)] [(.ref a1)])) rfl rfl (hb hby d4_15)
  obtain ⟨T10, X10, e10, st10⟩ := getF X8 hx hZ hown (host := "") (Or.inl (hw _ (List.mem_of_getElem? (i := 22) rfl))) Via.refl e8 ((F_notFinite_a1.ext E5).other W6 (Or.inr (slot_ne (Or.inl (hw _ (List.mem_of_getElem? (i := 23) rfl))) (Or.inl (hw _ (List.mem_of_getElem? (i := 11) rfl))) (by decide) (t := (.array .byte)) (t' := (.array .long)) (by decide) (by decide)))) (g := (mkF m 37 #[.val (.ref a1), .val (.int p2)] [(.ref a1)])) rfl rfl (hb hby d4_37)
  obtain ⟨fs, hr, hrun, hended, hW, hsame⟩ := X10.leave (v := none) (fun _ => rfl)
  refine ⟨_, _, pre0 _ ?_, hrun, hended, _, _, rfl, ?_, ⟨_, rfl⟩, hW, hsame.mono (by decide) (by show 0 + 3 * k ≤ 3069; omega)⟩
  · show Steps p.tables e below (s₁.setTop (mkF m 0 #[.val (.ref a1), .val (.int p2)] [])) _
    refine XS.aloadN X0.here hx rfl (hb hby d4_0) rfl rfl ?_
    show Steps p.tables e below (s₁.setTop (mkF m 1 #[.val (.ref a1), .val (.int p2)] [(.ref a1)])) _
    refine XS.aloadN X0.here hx rfl (hb hby d4_1) rfl rfl ?_
    show Steps p.tables e below (s₁.setTop (mkF m 2 #[.val (.ref a1), .val (.int p2)] [(.ref a1), (.ref a1)])) _
    refine st4 _ ?_
    show Steps p.tables e below (T4.setTop (mkF m 5 #[.val (.ref a1), .val (.int p2)] [(.ref w3), (.ref a1)])) _
    refine XS.iconst X4.here hx rfl (hb hby d4_5) ?_
    show Steps p.tables e below (T4.setTop (mkF m 6 #[.val (.ref a1), .val (.int p2)] [(.int (3 : Int32)), (.ref w3), (.ref a1)])) _
    refine XS.iloadN X4.here hx rfl (hb hby d4_6) rfl ?_
    show Steps p.tables e below (T4.setTop (mkF m 7 #[.val (.ref a1), .val (.int p2)] [(.int p2), (.int (3 : Int32)), (.ref w3), (.ref a1)])) _
    refine XS.imul X4.here hx rfl (hb hby d4_7) rfl ?_
    show Steps p.tables e below (T4.setTop (mkF m 8 #[.val (.ref a1), .val (.int p2)] [(.int ((3 : Int32) * p2)), (.ref w3), (.ref a1)])) _
    refine st5 _ ?_
    show Steps p.tables e below (T5.setTop (mkF m 11 #[.val (.ref a1), .val (.int p2)] [(.ref b5), (.ref a1)])) _
    refine st6 _ ?_
    show Steps p.tables e below (T6.setTop (mkF m 14 #[.val (.ref a1), .val (.int p2)] [])) _
    refine XS.aloadN X6.here hx rfl (hb hby d4_14) rfl rfl ?_
    show Steps p.tables e below (T6.setTop (mkF m 15 #[.val (.ref a1), .val (.int p2)] [(.ref a1)])) _
    refine st8 _ ?_
    show Steps p.tables e below (T8.setTop (mkF m 18 #[.val (.ref a1), .val (.int p2)] [.null])) _
    refine XS.ifnullYes X8.here hx rfl (pc0 := 18) (pc' := 36) rfl (hb hby d4_18) rfl (by decide) (by decide) ?_
    show Steps p.tables e below (T8.setTop (mkF m 36 #[.val (.ref a1), .val (.int p2)] [])) _
    refine XS.aloadN X8.here hx rfl (hb hby d4_36) rfl rfl ?_
    show Steps p.tables e below (T8.setTop (mkF m 37 #[.val (.ref a1), .val (.int p2)] [(.ref a1)])) _
    refine st10 _ ?_
    show Steps p.tables e below (T10.setTop (mkF m 40 #[.val (.ref a1), .val (.int p2)] [.null])) _
    refine XS.ifnullYes X10.here hx rfl (pc0 := 40) (pc' := 55) rfl (hb hby d4_40) rfl (by decide) (by decide) ?_
    show Steps p.tables e below (T10.setTop (mkF m 55 #[.val (.ref a1), .val (.int p2)] [])) _
    exact X10.returnOut hx Bd.returns (hb hby d4_55) hr
  · show Q4 Z a1 p2 k h0 n0 _ T10.heap _
    rw [e10]
    exact ⟨rfl, N6, K6, b5, ((E_a1.ext E5).wr W6), Fw6, ((F_1.ext E5).other W6 (Or.inr (slot_ne (Or.inl (hw _ (List.mem_of_getElem? (i := 19) rfl))) (Or.inl (hw _ (List.mem_of_getElem? (i := 11) rfl))) (by decide) (t := .long) (t' := (.array .long)) (by decide) (by decide)))), ((F_spills_a1.ext E5).other W6 (Or.inr (slot_ne (Or.inl (hw _ (List.mem_of_getElem? (i := 21) rfl))) (Or.inl (hw _ (List.mem_of_getElem? (i := 11) rfl))) (by decide) (t := (.array (.object "java/math/BigInteger"))) (t' := (.array .long)) (by decide) (by decide)))), ((F_notFinite_a1.ext E5).other W6 (Or.inr (slot_ne (Or.inl (hw _ (List.mem_of_getElem? (i := 23) rfl))) (Or.inl (hw _ (List.mem_of_getElem? (i := 11) rfl))) (by decide) (t := (.array .byte)) (t' := (.array .long)) (by decide) (by decide)))), w6, ne5⟩
theorem pn_0 : plainName "com/example/kestrel_query/kestrelquery/exec/DoubleSumsRetainedBytesPinLaw" = true := by first | (simp [plainName, overriddenIn]; done) | decide +kernel
theorem pd_0_0 : parseMethodDescriptor "()V" = some ⟨[], none⟩ := by decide +kernel
theorem pd_0_1 : parseMethodDescriptor "()J" = some ⟨[], some .long⟩ := by decide +kernel
theorem pd_0_2 : parseMethodDescriptor "(I)V" = some ⟨[.int], none⟩ := by decide +kernel
theorem ef_0 (m : MethodId) (x0 : Int32) (x1 : Int32) : entryFrame m #[(.int x0), (.int x1)] maxLocals = mkF m 0 #[.val (.int x0), .val (.int x1), .unset, .unset, .unset, .unset, .unset, .unset, .unset, .unset, .unset] [] := by first | (simp [entryFrame, mkF, argsToLocals, Value.category, maxLocals]; done) | rfl
def Q0 (Z : State) (p1 : Int32) (p2 : Int32) (h0 : Heap) (n0 : Nat) (v : Option Value) (h : Heap) (L : List Loc) : Prop := v = some (.int (1 : Int32)) ∧ Fr n0 L
set_option maxRecDepth 65536 in
set_option maxHeartbeats 40000000 in
theorem rm0 (l : Launch) (Z : State) (a0 : Array Value) (hw : ∀ d ∈ tables_1, d.before a0 Z = true) (ws : List Jvm.Cond) (p1 : Int32) (p2 : Int32) (h0 : Heap) (n0 : Nat) (Z0 : n0 ≤ h0.size) :
    MetFree l x (head1 (Jvm.Cond.code x code maxLocals ret :: ws) room_1) (fun a U => a = #[(.int p1), (.int p2)] ∧ Z.Warmed39 U.vm ∧ U.heap = h0) (fun _ _ _ _ _ => True) (fun _ U o U' => ∃ v L, o = .returned v ∧ Q0 Z p1 p2 h0 n0 v U'.heap L ∧ FrameEnd U o U' L room_1.cells room_1.slots) := by
  refine MetFree.of_bodySF (plainFor_of_name pn_0) hisR ?_
  intro p e s m args below meth c s₁ Bd hml0 hP hK
  obtain ⟨rfl, hZ, hh⟩ := hP
  have hx := Bd.exec
  have hby := Bd.bytes
  have hml : c.maxLocals = 11 := hml0
  have hown : s.vm.findClass "com/example/kestrel_query/kestrelquery/exec/DoubleSumsRetainedBytesPinLaw" = some m.cls := findClass_of_methodNamed Bd.named
  have hnm := (name_of_methodNamed Bd.named Bd.method).1
  have X0 : Stand p l e room_1 s m #[(.int p1), (.int p2)] below meth c s₁ [] 0 0 := Stand.of_body Bd
  have e0 : s₁.heap = h0 := by rw [← hh, Bd.state]; rfl
  have N0 := Fr.nil n0
  have pre0 : ∀ t, Steps p.tables e below (s₁.setTop (mkF m 0 #[.val (.int p1), .val (.int p2), .unset, .unset, .unset, .unset, .unset, .unset, .unset, .unset, .unset] [])) t → Steps p.tables e below (s₁.setTop (entryFrame m #[(.int p1), (.int p2)] maxLocals)) t := fun t k => castTop (ef_0 m p1 p2) k
  obtain ⟨k1, hk1, ek1⟩ := own_1023 p1
  obtain ⟨k2, hk2, ek2⟩ := own_1023 p2
  obtain ⟨T3, h3, X3, e3, E3, A3, D3, -, st3⟩ := newO X0 hx hZ hown (hw _ (List.mem_of_getElem? (i := 0) rfl)) (hw _ (List.mem_of_getElem? (i := 1) rfl)) (hw _ (List.mem_of_getElem? (i := 2) rfl)) e0 (g := (mkF m 12 #[.val (.int p1), .val (.int p2), .val (.int (p1 &&& (1023 : Int32))), .val (.int (p2 &&& (1023 : Int32))), .unset, .unset, .unset, .unset, .unset, .unset, .unset] [])) rfl (hb hby at_12) (by decide) (by decide)
  obtain ⟨b3, g3⟩ : ∃ z, z = h0.size := ⟨_, rfl⟩
  rw [← g3] at A3 D3 st3
  have F_windows_b3 : Fld Z h3 b3 "com/example/kestrel_query/kestrelquery/exec/DoubleSums" "windows" "[J" .null := D3 (Or.inl (hw _ (List.mem_of_getElem? (i := 11) rfl))) (ty := (.array .long)) (by decide)
  have F_spilledBytes_b3 : Fld Z h3 b3 "com/example/kestrel_query/kestrelquery/exec/DoubleSums" "spilledBytes" "J" (.long (0 : Int64)) := D3 (Or.inl (hw _ (List.mem_of_getElem? (i := 19) rfl))) (ty := .long) (by decide)
  have F_spills_b3 : Fld Z h3 b3 "com/example/kestrel_query/kestrelquery/exec/DoubleSums" "spills" "[Ljava/math/BigInteger;" .null := D3 (Or.inl (hw _ (List.mem_of_getElem? (i := 21) rfl))) (ty := (.array (.object "java/math/BigInteger"))) (by decide)
  have F_notFinite_b3 : Fld Z h3 b3 "com/example/kestrel_query/kestrelquery/exec/DoubleSums" "notFinite" "[B" .null := D3 (Or.inl (hw _ (List.mem_of_getElem? (i := 23) rfl))) (ty := (.array .byte)) (by decide)
  have E_b3 := A3
  have g_b3 : n0 ≤ b3 := Nat.le_trans Z0 (Nat.le_of_eq g3.symm)
  have sz_b3 : h0.size ≤ b3 := (Nat.le_trans (Keep.refl h0 []).1 (Nat.le_of_eq g3.symm))
  have K3 : Keep h0 h3 [] := (Keep.refl h0 []).ext E3
  obtain ⟨_, _, ⟨T4, L4, k4, n4⟩, -, X4, ⟨Lc4, hQ4, l4, y4, z4⟩, st4⟩ := X3.specialBack hx (y := (⟨"com/example/kestrel_query/kestrelquery/exec/DoubleSums", "<init>", "()V"⟩ : MethodName)) rfl hown (mvT hZ (hw _ (List.mem_of_getElem? (i := 3) rfl))) (mvT hZ (hw _ (List.mem_of_getElem? (i := 4) rfl))) (mvT hZ (hw _ (List.mem_of_getElem? (i := 5) rfl))) (by decide) (backOf (W := 1) (rm1 l Z a0 hw [] b3 _ h3 n0 (Nat.le_trans Z0 K3.1) E_b3 F_windows_b3 g_b3 F_spilledBytes_b3 F_spills_b3 F_notFinite_b3) hZ (hw _ (List.mem_of_getElem? (i := 5) rfl)) (hw _ (List.mem_of_getElem? (i := 2) rfl)) (by decide) (by decide)) (g := (mkF m 16 #[.val (.int p1), .val (.int p2), .val (.int (p1 &&& (1023 : Int32))), .val (.int (p2 &&& (1023 : Int32))), .unset, .unset, .unset, .unset, .unset, .unset, .unset] [(.ref b3), (.ref b3)])) rfl (by rw [hml]; rfl) (Steps.refl _) (a := b3) (argsL := []) (rest := [(.ref b3)]) (lenOf pd_0_0 rfl) rfl (by show 2 * 0 + _ ≤ _; exact Nat.le_of_eq rfl) (hb hby at_16) (fun _ _ => ⟨rfl, e3, (by decide : 1 + 1 ≤ _), (by decide : 4 + 0 ≤ _)⟩)
  dsimp only [Pt.U, Pt.locs, Pt.cells, Pt.slots] at X4 l4 y4 z4 st4 hQ4
  subst l4 y4 z4
  obtain ⟨rfl, N4q, kc4, c4, M4⟩ := hQ4
  have N4 := Fr.app N0 N4q
  obtain ⟨A5, x5a, x5b, x5c, x5d, x5e, x5f⟩ := M4.2.2.2.2.2.1
  have kh4 : Keep h0 T4.heap [] := K3.trans kc4 (allS (Or.inr sz_b3) all0)
  obtain ⟨cq5, kq5, q5a, q5b, q5c⟩ := isOf hZ rfl M4.1
  obtain ⟨_, _, ⟨T5, L5, k5, n5⟩, -, X5, ⟨Lc5, hQ5, l5, y5, z5⟩, st5⟩ := X4.virtualBack hx (y := (⟨"com/example/kestrel_query/kestrelquery/exec/DoubleSums", "retainedBytes", "()J"⟩ : MethodName)) (z := (⟨"com/example/kestrel_query/kestrelquery/exec/DoubleSums", "retainedBytes", "()J"⟩ : MethodName)) hown (mvT hZ (hw _ (List.mem_of_getElem? (i := 12) rfl))) (mvT hZ (hw _ (List.mem_of_getElem? (i := 13) rfl))) (notFace_of_selects (args := #[]) (mvT hZ (hw _ (List.mem_of_getElem? (i := 15) rfl)))) (mvT hZ (hw _ (List.mem_of_getElem? (i := 15) rfl))) (mvT hZ (hw _ (List.mem_of_getElem? (i := 14) rfl))) (by decide) (backOf (W := 0) (rm3 l Z a0 hw [] b3 c4 A5 (Int32.ofNat 0) (0 : Int64) T4.heap n0 (Nat.le_trans Z0 kh4.1) M4.2.1 ⟨x5a, x5b, by rw [x5c]; exact (fun h => by cases h)⟩ (x5e.trans (own_cap _ (by decide))) (own_cap0 _ (by decide)) M4.2.2.1 M4.2.2.2.1 M4.2.2.2.2.1) hZ (hw _ (List.mem_of_getElem? (i := 16) rfl)) (hw _ (List.mem_of_getElem? (i := 2) rfl)) (by decide) (by decide)) q5a q5c (g := (mkF m 23 #[.val (.int p1), .val (.int p2), .val (.int (p1 &&& (1023 : Int32))), .val (.int (p2 &&& (1023 : Int32))), .val (.ref b3), .unset, .unset, .unset, .unset, .unset, .unset] [(.ref b3)])) rfl (by rw [hml]; rfl) (Steps.refl _) (argsL := []) (rest := []) (lenOf pd_0_1 rfl) rfl (by show 2 * 0 + _ ≤ _; exact Nat.le_of_eq rfl) (hb hby at_23) (fun _ _ => ⟨rfl, rfl, (by decide : 2 + 0 ≤ _), (by decide : 4 + 0 ≤ _)⟩)
  dsimp only [Pt.U, Pt.locs, Pt.cells, Pt.slots] at X5 l5 y5 z5 st5 hQ5
  subst l5 y5 z5
  obtain ⟨rfl, N5q, eh5⟩ := hQ5
  have N5 := Fr.app N4 N5q
  have kc5 : Keep T4.heap T5.heap [] := by rw [eh5]; exact Keep.refl _ _
  have kh5 : Keep h0 T5.heap [] := by rw [eh5]; exact kh4
  have M5 := own_ds_keep M4 kc5
  obtain ⟨cq6, kq6, q6a, q6b, q6c⟩ := isOf hZ rfl M5.1
  obtain ⟨_, _, ⟨T6, L6, k6, n6⟩, -, X6, ⟨Lc6, hQ6, l6, y6, z6⟩, st6⟩ := X5.virtualBack hx (y := (⟨"com/example/kestrel_query/kestrelquery/exec/DoubleSums", "grow", "(I)V"⟩ : MethodName)) (z := (⟨"com/example/kestrel_query/kestrelquery/exec/DoubleSums", "grow", "(I)V"⟩ : MethodName)) hown (mvT hZ (hw _ (List.mem_of_getElem? (i := 24) rfl))) (mvT hZ (hw _ (List.mem_of_getElem? (i := 25) rfl))) (notFace_of_selects (args := #[]) (mvT hZ (hw _ (List.mem_of_getElem? (i := 27) rfl)))) (mvT hZ (hw _ (List.mem_of_getElem? (i := 27) rfl))) (mvT hZ (hw _ (List.mem_of_getElem? (i := 26) rfl))) (by decide) (backOf (W := 0) (rm4 l Z a0 hw [] b3 (p1 &&& (1023 : Int32)) k1 c4 0 T5.heap n0 (Nat.le_trans Z0 kh5.1) hk1 ek1 (by decide) M5 g_b3) hZ (hw _ (List.mem_of_getElem? (i := 28) rfl)) (hw _ (List.mem_of_getElem? (i := 2) rfl)) (by decide) (by decide)) q6a q6c (g := (mkF m 31 #[.val (.int p1), .val (.int p2), .val (.int (p1 &&& (1023 : Int32))), .val (.int (p2 &&& (1023 : Int32))), .val (.ref b3), .val (.long (((8 : Int64) * ((Int32.ofNat 0).toInt64)) + (0 : Int64))), .second, .unset, .unset, .unset, .unset] [(.int (p1 &&& (1023 : Int32))), (.ref b3)])) rfl (by rw [hml]; rfl) (Steps.refl _) (argsL := [(.int (p1 &&& (1023 : Int32)))]) (rest := []) (lenOf pd_0_2 rfl) rfl (by show 2 * 0 + _ ≤ _; exact Nat.le_of_eq rfl) (hb hby at_31) (fun _ _ => ⟨rfl, rfl, (by decide : 2 + 1 ≤ _), (by decide : 4 + 3069 ≤ _)⟩)
  dsimp only [Pt.U, Pt.locs, Pt.cells, Pt.slots] at X6 l6 y6 z6 st6 hQ6
  subst l6 y6 z6
  obtain ⟨rfl, N6q, kc6, c6, M6⟩ := hQ6
  have N6 := Fr.app N5 N6q
  obtain ⟨A7, x7a, x7b, x7c, x7d, x7e, x7f⟩ := M6.2.2.2.2.2.1
  have kh6 : Keep h0 T6.heap [] := kh5.trans kc6 (allS (Or.inr sz_b3) all0)
  obtain ⟨cq7, kq7, q7a, q7b, q7c⟩ := isOf hZ rfl M6.1
  obtain ⟨_, _, ⟨T7, L7, k7, n7⟩, -, X7, ⟨Lc7, hQ7, l7, y7, z7⟩, st7⟩ := X6.virtualBack hx (y := (⟨"com/example/kestrel_query/kestrelquery/exec/DoubleSums", "retainedBytes", "()J"⟩ : MethodName)) (z := (⟨"com/example/kestrel_query/kestrelquery/exec/DoubleSums", "retainedBytes", "()J"⟩ : MethodName)) hown (mvT hZ (hw _ (List.mem_of_getElem? (i := 12) rfl))) (mvT hZ (hw _ (List.mem_of_getElem? (i := 13) rfl))) (notFace_of_selects (args := #[]) (mvT hZ (hw _ (List.mem_of_getElem? (i := 15) rfl)))) (mvT hZ (hw _ (List.mem_of_getElem? (i := 15) rfl))) (mvT hZ (hw _ (List.mem_of_getElem? (i := 14) rfl))) (by decide) (backOf (W := 0) (rm3 l Z a0 hw [] b3 c6 A7 (Int32.ofNat (3 * k1)) (0 : Int64) T6.heap n0 (Nat.le_trans Z0 kh6.1) M6.2.1 ⟨x7a, x7b, by rw [x7c]; exact (fun h => by cases h)⟩ (x7e.trans (own_cap _ (by omega))) (own_cap0 _ (by omega)) M6.2.2.1 M6.2.2.2.1 M6.2.2.2.2.1) hZ (hw _ (List.mem_of_getElem? (i := 16) rfl)) (hw _ (List.mem_of_getElem? (i := 2) rfl)) (by decide) (by decide)) q7a q7c (g := (mkF m 36 #[.val (.int p1), .val (.int p2), .val (.int (p1 &&& (1023 : Int32))), .val (.int (p2 &&& (1023 : Int32))), .val (.ref b3), .val (.long (((8 : Int64) * ((Int32.ofNat 0).toInt64)) + (0 : Int64))), .second, .unset, .unset, .unset, .unset] [(.ref b3)])) rfl (by rw [hml]; rfl) (Steps.refl _) (argsL := []) (rest := []) (lenOf pd_0_1 rfl) rfl (by show 2 * 0 + _ ≤ _; exact Nat.le_of_eq rfl) (hb hby at_36) (fun _ _ => ⟨rfl, rfl, (by decide : 3 + 0 ≤ _), (by decide : 3073 + 0 ≤ _)⟩)
  dsimp only [Pt.U, Pt.locs, Pt.cells, Pt.slots] at X7 l7 y7 z7 st7 hQ7
  subst l7 y7 z7
  obtain ⟨rfl, N7q, eh7⟩ := hQ7
  have N7 := Fr.app N6 N7q
  have kc7 : Keep T6.heap T7.heap [] := by rw [eh7]; exact Keep.refl _ _
  have kh7 : Keep h0 T7.heap [] := by rw [eh7]; exact kh6
  have M7 := own_ds_keep M6 kc7
  obtain ⟨cq8, kq8, q8a, q8b, q8c⟩ := isOf hZ rfl M7.1
  obtain ⟨_, _, ⟨T8, L8, k8, n8⟩, -, X8, ⟨Lc8, hQ8, l8, y8, z8⟩, st8⟩ := X7.virtualBack hx (y := (⟨"com/example/kestrel_query/kestrelquery/exec/DoubleSums", "grow", "(I)V"⟩ : MethodName)) (z := (⟨"com/example/kestrel_query/kestrelquery/exec/DoubleSums", "grow", "(I)V"⟩ : MethodName)) hown (mvT hZ (hw _ (List.mem_of_getElem? (i := 24) rfl))) (mvT hZ (hw _ (List.mem_of_getElem? (i := 25) rfl))) (notFace_of_selects (args := #[]) (mvT hZ (hw _ (List.mem_of_getElem? (i := 27) rfl)))) (mvT hZ (hw _ (List.mem_of_getElem? (i := 27) rfl))) (mvT hZ (hw _ (List.mem_of_getElem? (i := 26) rfl))) (by decide) (backOf (W := 0) (rm4 l Z a0 hw [] b3 (p2 &&& (1023 : Int32)) k2 c6 (3 * k1) T7.heap n0 (Nat.le_trans Z0 kh7.1) hk2 ek2 (by omega) M7 g_b3) hZ (hw _ (List.mem_of_getElem? (i := 28) rfl)) (hw _ (List.mem_of_getElem? (i := 2) rfl)) (by decide) (by decide)) q8a q8c (g := (mkF m 44 #[.val (.int p1), .val (.int p2), .val (.int (p1 &&& (1023 : Int32))), .val (.int (p2 &&& (1023 : Int32))), .val (.ref b3), .val (.long (((8 : Int64) * ((Int32.ofNat 0).toInt64)) + (0 : Int64))), .second, .val (.long (((8 : Int64) * ((Int32.ofNat (3 * k1)).toInt64)) + (0 : Int64))), .second, .unset, .unset] [(.int (p2 &&& (1023 : Int32))), (.ref b3)])) rfl (by rw [hml]; rfl) (Steps.refl _) (argsL := [(.int (p2 &&& (1023 : Int32)))]) (rest := []) (lenOf pd_0_2 rfl) rfl (by show 2 * 0 + _ ≤ _; exact Nat.le_of_eq rfl) (hb hby at_44) (fun _ _ => ⟨rfl, rfl, (by decide : 3 + 1 ≤ _), (by decide : 3073 + 3069 ≤ _)⟩)
  dsimp only [Pt.U, Pt.locs, Pt.cells, Pt.slots] at X8 l8 y8 z8 st8 hQ8
  subst l8 y8 z8
  obtain ⟨rfl, N8q, kc8, c8, M8⟩ := hQ8
  have N8 := Fr.app N7 N8q
  obtain ⟨A9, x9a, x9b, x9c, x9d, x9e, x9f⟩ := M8.2.2.2.2.2.1
  have kh8 : Keep h0 T8.heap [] := kh7.trans kc8 (allS (Or.inr sz_b3) all0)
  obtain ⟨cq9, kq9, q9a, q9b, q9c⟩ := isOf hZ rfl M8.1
  obtain ⟨_, _, ⟨T9, L9, k9, n9⟩, -, X9, ⟨Lc9, hQ9, l9, y9, z9⟩, st9⟩ := X8.virtualBack hx (y := (⟨"com/example/kestrel_query/kestrelquery/exec/DoubleSums", "retainedBytes", "()J"⟩ : MethodName)) (z := (⟨"com/example/kestrel_query/kestrelquery/exec/DoubleSums", "retainedBytes", "()J"⟩ : MethodName)) hown (mvT hZ (hw _ (List.mem_of_getElem? (i := 12) rfl))) (mvT hZ (hw _ (List.mem_of_getElem? (i := 13) rfl))) (notFace_of_selects (args := #[]) (mvT hZ (hw _ (List.mem_of_getElem? (i := 15) rfl)))) (mvT hZ (hw _ (List.mem_of_getElem? (i := 15) rfl))) (mvT hZ (hw _ (List.mem_of_getElem? (i := 14) rfl))) (by decide) (backOf (W := 0) (rm3 l Z a0 hw [] b3 c8 A9 (Int32.ofNat (3 * k2)) (0 : Int64) T8.heap n0 (Nat.le_trans Z0 kh8.1) M8.2.1 ⟨x9a, x9b, by rw [x9c]; exact (fun h => by cases h)⟩ (x9e.trans (own_cap _ (by omega))) (own_cap0 _ (by omega)) M8.2.2.1 M8.2.2.2.1 M8.2.2.2.2.1) hZ (hw _ (List.mem_of_getElem? (i := 16) rfl)) (hw _ (List.mem_of_getElem? (i := 2) rfl)) (by decide) (by decide)) q9a q9c (g := (mkF m 49 #[.val (.int p1), .val (.int p2), .val (.int (p1 &&& (1023 : Int32))), .val (.int (p2 &&& (1023 : Int32))), .val (.ref b3), .val (.long (((8 : Int64) * ((Int32.ofNat 0).toInt64)) + (0 : Int64))), .second, .val (.long (((8 : Int64) * ((Int32.ofNat (3 * k1)).toInt64)) + (0 : Int64))), .second, .unset, .unset] [(.ref b3)])) rfl (by rw [hml]; rfl) (Steps.refl _) (argsL := []) (rest := []) (lenOf pd_0_1 rfl) rfl (by show 2 * 0 + _ ≤ _; exact Nat.le_of_eq rfl) (hb hby at_49) (fun _ _ => ⟨rfl, rfl, (by decide : 4 + 0 ≤ _), (by decide : 6142 + 0 ≤ _)⟩)
  dsimp only [Pt.U, Pt.locs, Pt.cells, Pt.slots] at X9 l9 y9 z9 st9 hQ9
  subst l9 y9 z9
  obtain ⟨rfl, N9q, eh9⟩ := hQ9
  have N9 := Fr.app N8 N9q
  have kc9 : Keep T8.heap T9.heap [] := by rw [eh9]; exact Keep.refl _ _
  have kh9 : Keep h0 T9.heap [] := by rw [eh9]; exact kh8
  have M9 := own_ds_keep M8 kc9
  obtain ⟨fs, hr, hrun, hended, hW, hsame⟩ := X9.leave (v := some (.int (1 : Int32))) (fun h => by rw [Bd.returns] at h; cases h)
  refine ⟨_, _, pre0 _ ?_, hrun, hended, _, _, rfl, ?_, ⟨_, rfl⟩, hW, hsame.mono (by decide) (by decide)⟩
  · show Steps p.tables e below (s₁.setTop (mkF m 0 #[.val (.int p1), .val (.int p2), .unset, .unset, .unset, .unset, .unset, .unset, .unset, .unset, .unset] [])) _
    refine XS.iloadN X0.here hx rfl (hb hby at_0) rfl ?_
    show Steps p.tables e below (s₁.setTop (mkF m 1 #[.val (.int p1), .val (.int p2), .unset, .unset, .unset, .unset, .unset, .unset, .unset, .unset, .unset] [(.int p1)])) _
    refine XS.sipush X0.here hx rfl (hb hby at_1) ?_
    show Steps p.tables e below (s₁.setTop (mkF m 4 #[.val (.int p1), .val (.int p2), .unset, .unset, .unset, .unset, .unset, .unset, .unset, .unset, .unset] [(.int (1023 : Int32)), (.int p1)])) _
    refine XS.iand X0.here hx rfl (hb hby at_4) rfl ?_
    show Steps p.tables e below (s₁.setTop (mkF m 5 #[.val (.int p1), .val (.int p2), .unset, .unset, .unset, .unset, .unset, .unset, .unset, .unset, .unset] [(.int (p1 &&& (1023 : Int32)))])) _
    refine XS.istoreN X0.here hx rfl (hb hby at_5) rfl (l' := #[.val (.int p1), .val (.int p2), .val (.int (p1 &&& (1023 : Int32))), .unset, .unset, .unset, .unset, .unset, .unset, .unset, .unset]) rfl ?_
    show Steps p.tables e below (s₁.setTop (mkF m 6 #[.val (.int p1), .val (.int p2), .val (.int (p1 &&& (1023 : Int32))), .unset, .unset, .unset, .unset, .unset, .unset, .unset, .unset] [])) _
    refine XS.iloadN X0.here hx rfl (hb hby at_6) rfl ?_
    show Steps p.tables e below (s₁.setTop (mkF m 7 #[.val (.int p1), .val (.int p2), .val (.int (p1 &&& (1023 : Int32))), .unset, .unset, .unset, .unset, .unset, .unset, .unset, .unset] [(.int p2)])) _
    refine XS.sipush X0.here hx rfl (hb hby at_7) ?_
    show Steps p.tables e below (s₁.setTop (mkF m 10 #[.val (.int p1), .val (.int p2), .val (.int (p1 &&& (1023 : Int32))), .unset, .unset, .unset, .unset, .unset, .unset, .unset, .unset] [(.int (1023 : Int32)), (.int p2)])) _
    refine XS.iand X0.here hx rfl (hb hby at_10) rfl ?_
    show Steps p.tables e below (s₁.setTop (mkF m 11 #[.val (.int p1), .val (.int p2), .val (.int (p1 &&& (1023 : Int32))), .unset, .unset, .unset, .unset, .unset, .unset, .unset, .unset] [(.int (p2 &&& (1023 : Int32)))])) _
    refine XS.istoreN X0.here hx rfl (hb hby at_11) rfl (l' := #[.val (.int p1), .val (.int p2), .val (.int (p1 &&& (1023 : Int32))), .val (.int (p2 &&& (1023 : Int32))), .unset, .unset, .unset, .unset, .unset, .unset, .unset]) rfl ?_
    show Steps p.tables e below (s₁.setTop (mkF m 12 #[.val (.int p1), .val (.int p2), .val (.int (p1 &&& (1023 : Int32))), .val (.int (p2 &&& (1023 : Int32))), .unset, .unset, .unset, .unset, .unset, .unset, .unset] [])) _
    refine st3 _ ?_
    show Steps p.tables e below (T3.setTop (mkF m 15 #[.val (.int p1), .val (.int p2), .val (.int (p1 &&& (1023 : Int32))), .val (.int (p2 &&& (1023 : Int32))), .unset, .unset, .unset, .unset, .unset, .unset, .unset] [(.ref b3)])) _
    refine XS.dup X3.here hx rfl (hb hby at_15) rfl rfl ?_
    show Steps p.tables e below (T3.setTop (mkF m 16 #[.val (.int p1), .val (.int p2), .val (.int (p1 &&& (1023 : Int32))), .val (.int (p2 &&& (1023 : Int32))), .unset, .unset, .unset, .unset, .unset, .unset, .unset] [(.ref b3), (.ref b3)])) _
    refine st4.trans ?_
    show Steps p.tables e below (T4.setTop (mkF m 19 #[.val (.int p1), .val (.int p2), .val (.int (p1 &&& (1023 : Int32))), .val (.int (p2 &&& (1023 : Int32))), .unset, .unset, .unset, .unset, .unset, .unset, .unset] [(.ref b3)])) _
    refine XS.astore X4.here hx rfl (hb hby at_19) rfl rfl (l' := #[.val (.int p1), .val (.int p2), .val (.int (p1 &&& (1023 : Int32))), .val (.int (p2 &&& (1023 : Int32))), .val (.ref b3), .unset, .unset, .unset, .unset, .unset, .unset]) rfl ?_
    show Steps p.tables e below (T4.setTop (mkF m 21 #[.val (.int p1), .val (.int p2), .val (.int (p1 &&& (1023 : Int32))), .val (.int (p2 &&& (1023 : Int32))), .val (.ref b3), .unset, .unset, .unset, .unset, .unset, .unset] [])) _
    refine XS.aload X4.here hx rfl (hb hby at_21) rfl rfl ?_
    show Steps p.tables e below (T4.setTop (mkF m 23 #[.val (.int p1), .val (.int p2), .val (.int (p1 &&& (1023 : Int32))), .val (.int (p2 &&& (1023 : Int32))), .val (.ref b3), .unset, .unset, .unset, .unset, .unset, .unset] [(.ref b3)])) _
    refine st5.trans ?_
    show Steps p.tables e below (T5.setTop (mkF m 26 #[.val (.int p1), .val (.int p2), .val (.int (p1 &&& (1023 : Int32))), .val (.int (p2 &&& (1023 : Int32))), .val (.ref b3), .unset, .unset, .unset, .unset, .unset, .unset] [(.long (((8 : Int64) * ((Int32.ofNat 0).toInt64)) + (0 : Int64)))])) _
    refine XS.lstore X5.here hx rfl (hb hby at_26) rfl (l' := #[.val (.int p1), .val (.int p2), .val (.int (p1 &&& (1023 : Int32))), .val (.int (p2 &&& (1023 : Int32))), .val (.ref b3), .val (.long (((8 : Int64) * ((Int32.ofNat 0).toInt64)) + (0 : Int64))), .second, .unset, .unset, .unset, .unset]) rfl ?_
    show Steps p.tables e below (T5.setTop (mkF m 28 #[.val (.int p1), .val (.int p2), .val (.int (p1 &&& (1023 : Int32))), .val (.int (p2 &&& (1023 : Int32))), .val (.ref b3), .val (.long (((8 : Int64) * ((Int32.ofNat 0).toInt64)) + (0 : Int64))), .second, .unset, .unset, .unset, .unset] [])) _
    refine XS.aload X5.here hx rfl (hb hby at_28) rfl rfl ?_
    show Steps p.tables e below (T5.setTop (mkF m 30 #[.val (.int p1), .val (.int p2), .val (.int (p1 &&& (1023 : Int32))), .val (.int (p2 &&& (1023 : Int32))), .val (.ref b3), .val (.long (((8 : Int64) * ((Int32.ofNat 0).toInt64)) + (0 : Int64))), .second, .unset, .unset, .unset, .unset] [(.ref b3)])) _
    refine XS.iloadN X5.here hx rfl (hb hby at_30) rfl ?_
    show Steps p.tables e below (T5.setTop (mkF m 31 #[.val (.int p1), .val (.int p2), .val (.int (p1 &&& (1023 : Int32))), .val (.int (p2 &&& (1023 : Int32))), .val (.ref b3), .val (.long (((8 : Int64) * ((Int32.ofNat 0).toInt64)) + (0 : Int64))), .second, .unset, .unset, .unset, .unset] [(.int (p1 &&& (1023 : Int32))), (.ref b3)])) _
    refine st6.trans ?_
    show Steps p.tables e below (T6.setTop (mkF m 34 #[.val (.int p1), .val (.int p2), .val (.int (p1 &&& (1023 : Int32))), .val (.int (p2 &&& (1023 : Int32))), .val (.ref b3), .val (.long (((8 : Int64) * ((Int32.ofNat 0).toInt64)) + (0 : Int64))), .second, .unset, .unset, .unset, .unset] [])) _
    refine XS.aload X6.here hx rfl (hb hby at_34) rfl rfl ?_
    show Steps p.tables e below (T6.setTop (mkF m 36 #[.val (.int p1), .val (.int p2), .val (.int (p1 &&& (1023 : Int32))), .val (.int (p2 &&& (1023 : Int32))), .val (.ref b3), .val (.long (((8 : Int64) * ((Int32.ofNat 0).toInt64)) + (0 : Int64))), .second, .unset, .unset, .unset, .unset] [(.ref b3)])) _
    refine st7.trans ?_
    show Steps p.tables e below (T7.setTop (mkF m 39 #[.val (.int p1), .val (.int p2), .val (.int (p1 &&& (1023 : Int32))), .val (.int (p2 &&& (1023 : Int32))), .val (.ref b3), .val (.long (((8 : Int64) * ((Int32.ofNat 0).toInt64)) + (0 : Int64))), .second, .unset, .unset, .unset, .unset] [(.long (((8 : Int64) * ((Int32.ofNat (3 * k1)).toInt64)) + (0 : Int64)))])) _
    refine XS.lstore X7.here hx rfl (hb hby at_39) rfl (l' := #[.val (.int p1), .val (.int p2), .val (.int (p1 &&& (1023 : Int32))), .val (.int (p2 &&& (1023 : Int32))), .val (.ref b3), .val (.long (((8 : Int64) * ((Int32.ofNat 0).toInt64)) + (0 : Int64))), .second, .val (.long (((8 : Int64) * ((Int32.ofNat (3 * k1)).toInt64)) + (0 : Int64))), .second, .unset, .unset]) rfl ?_
    show Steps p.tables e below (T7.setTop (mkF m 41 #[.val (.int p1), .val (.int p2), .val (.int (p1 &&& (1023 : Int32))), .val (.int (p2 &&& (1023 : Int32))), .val (.ref b3), .val (.long (((8 : Int64) * ((Int32.ofNat 0).toInt64)) + (0 : Int64))), .second, .val (.long (((8 : Int64) * ((Int32.ofNat (3 * k1)).toInt64)) + (0 : Int64))), .second, .unset, .unset] [])) _
    refine XS.aload X7.here hx rfl (hb hby at_41) rfl rfl ?_
    show Steps p.tables e below (T7.setTop (mkF m 43 #[.val (.int p1), .val (.int p2), .val (.int (p1 &&& (1023 : Int32))), .val (.int (p2 &&& (1023 : Int32))), .val (.ref b3), .val (.long (((8 : Int64) * ((Int32.ofNat 0).toInt64)) + (0 : Int64))), .second, .val (.long (((8 : Int64) * ((Int32.ofNat (3 * k1)).toInt64)) + (0 : Int64))), .second, .unset, .unset] [(.ref b3)])) _
    refine XS.iloadN X7.here hx rfl (hb hby at_43) rfl ?_
    show Steps p.tables e below (T7.setTop (mkF m 44 #[.val (.int p1), .val (.int p2), .val (.int (p1 &&& (1023 : Int32))), .val (.int (p2 &&& (1023 : Int32))), .val (.ref b3), .val (.long (((8 : Int64) * ((Int32.ofNat 0).toInt64)) + (0 : Int64))), .second, .val (.long (((8 : Int64) * ((Int32.ofNat (3 * k1)).toInt64)) + (0 : Int64))), .second, .unset, .unset] [(.int (p2 &&& (1023 : Int32))), (.ref b3)])) _
    refine st8.trans ?_
    show Steps p.tables e below (T8.setTop (mkF m 47 #[.val (.int p1), .val (.int p2), .val (.int (p1 &&& (1023 : Int32))), .val (.int (p2 &&& (1023 : Int32))), .val (.ref b3), .val (.long (((8 : Int64) * ((Int32.ofNat 0).toInt64)) + (0 : Int64))), .second, .val (.long (((8 : Int64) * ((Int32.ofNat (3 * k1)).toInt64)) + (0 : Int64))), .second, .unset, .unset] [])) _
    refine XS.aload X8.here hx rfl (hb hby at_47) rfl rfl ?_
    show Steps p.tables e below (T8.setTop (mkF m 49 #[.val (.int p1), .val (.int p2), .val (.int (p1 &&& (1023 : Int32))), .val (.int (p2 &&& (1023 : Int32))), .val (.ref b3), .val (.long (((8 : Int64) * ((Int32.ofNat 0).toInt64)) + (0 : Int64))), .second, .val (.long (((8 : Int64) * ((Int32.ofNat (3 * k1)).toInt64)) + (0 : Int64))), .second, .unset, .unset] [(.ref b3)])) _
    refine st9.trans ?_
    show Steps p.tables e below (T9.setTop (mkF m 52 #[.val (.int p1), .val (.int p2), .val (.int (p1 &&& (1023 : Int32))), .val (.int (p2 &&& (1023 : Int32))), .val (.ref b3), .val (.long (((8 : Int64) * ((Int32.ofNat 0).toInt64)) + (0 : Int64))), .second, .val (.long (((8 : Int64) * ((Int32.ofNat (3 * k1)).toInt64)) + (0 : Int64))), .second, .unset, .unset] [(.long (((8 : Int64) * ((Int32.ofNat (3 * k2)).toInt64)) + (0 : Int64)))])) _
    refine XS.lstore X9.here hx rfl (hb hby at_52) rfl (l' := #[.val (.int p1), .val (.int p2), .val (.int (p1 &&& (1023 : Int32))), .val (.int (p2 &&& (1023 : Int32))), .val (.ref b3), .val (.long (((8 : Int64) * ((Int32.ofNat 0).toInt64)) + (0 : Int64))), .second, .val (.long (((8 : Int64) * ((Int32.ofNat (3 * k1)).toInt64)) + (0 : Int64))), .second, .val (.long (((8 : Int64) * ((Int32.ofNat (3 * k2)).toInt64)) + (0 : Int64))), .second]) rfl ?_
    show Steps p.tables e below (T9.setTop (mkF m 54 #[.val (.int p1), .val (.int p2), .val (.int (p1 &&& (1023 : Int32))), .val (.int (p2 &&& (1023 : Int32))), .val (.ref b3), .val (.long (((8 : Int64) * ((Int32.ofNat 0).toInt64)) + (0 : Int64))), .second, .val (.long (((8 : Int64) * ((Int32.ofNat (3 * k1)).toInt64)) + (0 : Int64))), .second, .val (.long (((8 : Int64) * ((Int32.ofNat (3 * k2)).toInt64)) + (0 : Int64))), .second] [])) _
    refine XS.lload X9.here hx rfl (hb hby at_54) rfl ?_
    show Steps p.tables e below (T9.setTop (mkF m 56 #[.val (.int p1), .val (.int p2), .val (.int (p1 &&& (1023 : Int32))), .val (.int (p2 &&& (1023 : Int32))), .val (.ref b3), .val (.long (((8 : Int64) * ((Int32.ofNat 0).toInt64)) + (0 : Int64))), .second, .val (.long (((8 : Int64) * ((Int32.ofNat (3 * k1)).toInt64)) + (0 : Int64))), .second, .val (.long (((8 : Int64) * ((Int32.ofNat (3 * k2)).toInt64)) + (0 : Int64))), .second] [(.long (((8 : Int64) * ((Int32.ofNat 0).toInt64)) + (0 : Int64)))])) _
    refine XS.lconst X9.here hx rfl (hb hby at_56) ?_
    show Steps p.tables e below (T9.setTop (mkF m 57 #[.val (.int p1), .val (.int p2), .val (.int (p1 &&& (1023 : Int32))), .val (.int (p2 &&& (1023 : Int32))), .val (.ref b3), .val (.long (((8 : Int64) * ((Int32.ofNat 0).toInt64)) + (0 : Int64))), .second, .val (.long (((8 : Int64) * ((Int32.ofNat (3 * k1)).toInt64)) + (0 : Int64))), .second, .val (.long (((8 : Int64) * ((Int32.ofNat (3 * k2)).toInt64)) + (0 : Int64))), .second] [(.long (0 : Int64)), (.long (((8 : Int64) * ((Int32.ofNat 0).toInt64)) + (0 : Int64)))])) _
    refine XS.lcmp X9.here hx rfl (hb hby at_57) rfl ?_
    show Steps p.tables e below (T9.setTop (mkF m 58 #[.val (.int p1), .val (.int p2), .val (.int (p1 &&& (1023 : Int32))), .val (.int (p2 &&& (1023 : Int32))), .val (.ref b3), .val (.long (((8 : Int64) * ((Int32.ofNat 0).toInt64)) + (0 : Int64))), .second, .val (.long (((8 : Int64) * ((Int32.ofNat (3 * k1)).toInt64)) + (0 : Int64))), .second, .val (.long (((8 : Int64) * ((Int32.ofNat (3 * k2)).toInt64)) + (0 : Int64))), .second] [(.int (lcmpW (((8 : Int64) * ((Int32.ofNat 0).toInt64)) + (0 : Int64)) (0 : Int64)))])) _
    refine XS.ifNo X9.here hx rfl (hb hby at_58) rfl ((if0 _ _).trans (teq ((lw_eq _ _).mpr (by decide) : (lcmpW (((8 : Int64) * ((Int32.ofNat 0).toInt64)) + (0 : Int64)) (0 : Int64)) = (0 : Int32))).2) ?_
    show Steps p.tables e below (T9.setTop (mkF m 61 #[.val (.int p1), .val (.int p2), .val (.int (p1 &&& (1023 : Int32))), .val (.int (p2 &&& (1023 : Int32))), .val (.ref b3), .val (.long (((8 : Int64) * ((Int32.ofNat 0).toInt64)) + (0 : Int64))), .second, .val (.long (((8 : Int64) * ((Int32.ofNat (3 * k1)).toInt64)) + (0 : Int64))), .second, .val (.long (((8 : Int64) * ((Int32.ofNat (3 * k2)).toInt64)) + (0 : Int64))), .second] [])) _
    refine XS.lload X9.here hx rfl (hb hby at_61) rfl ?_
    show Steps p.tables e below (T9.setTop (mkF m 63 #[.val (.int p1), .val (.int p2), .val (.int (p1 &&& (1023 : Int32))), .val (.int (p2 &&& (1023 : Int32))), .val (.ref b3), .val (.long (((8 : Int64) * ((Int32.ofNat 0).toInt64)) + (0 : Int64))), .second, .val (.long (((8 : Int64) * ((Int32.ofNat (3 * k1)).toInt64)) + (0 : Int64))), .second, .val (.long (((8 : Int64) * ((Int32.ofNat (3 * k2)).toInt64)) + (0 : Int64))), .second] [(.long (((8 : Int64) * ((Int32.ofNat (3 * k1)).toInt64)) + (0 : Int64)))])) _
    refine X9.ldc2Long hx hown (mvT hZ (hw _ (List.mem_of_getElem? (i := 50) rfl))) (g := (mkF m 63 #[.val (.int p1), .val (.int p2), .val (.int (p1 &&& (1023 : Int32))), .val (.int (p2 &&& (1023 : Int32))), .val (.ref b3), .val (.long (((8 : Int64) * ((Int32.ofNat 0).toInt64)) + (0 : Int64))), .second, .val (.long (((8 : Int64) * ((Int32.ofNat (3 * k1)).toInt64)) + (0 : Int64))), .second, .val (.long (((8 : Int64) * ((Int32.ofNat (3 * k2)).toInt64)) + (0 : Int64))), .second] [(.long (((8 : Int64) * ((Int32.ofNat (3 * k1)).toInt64)) + (0 : Int64)))])) rfl (hb hby at_63) _ ?_
    show Steps p.tables e below (T9.setTop (mkF m 66 #[.val (.int p1), .val (.int p2), .val (.int (p1 &&& (1023 : Int32))), .val (.int (p2 &&& (1023 : Int32))), .val (.ref b3), .val (.long (((8 : Int64) * ((Int32.ofNat 0).toInt64)) + (0 : Int64))), .second, .val (.long (((8 : Int64) * ((Int32.ofNat (3 * k1)).toInt64)) + (0 : Int64))), .second, .val (.long (((8 : Int64) * ((Int32.ofNat (3 * k2)).toInt64)) + (0 : Int64))), .second] [(.long (24 : Int64)), (.long (((8 : Int64) * ((Int32.ofNat (3 * k1)).toInt64)) + (0 : Int64)))])) _
    refine XS.iloadN X9.here hx rfl (hb hby at_66) rfl ?_
    show Steps p.tables e below (T9.setTop (mkF m 67 #[.val (.int p1), .val (.int p2), .val (.int (p1 &&& (1023 : Int32))), .val (.int (p2 &&& (1023 : Int32))), .val (.ref b3), .val (.long (((8 : Int64) * ((Int32.ofNat 0).toInt64)) + (0 : Int64))), .second, .val (.long (((8 : Int64) * ((Int32.ofNat (3 * k1)).toInt64)) + (0 : Int64))), .second, .val (.long (((8 : Int64) * ((Int32.ofNat (3 * k2)).toInt64)) + (0 : Int64))), .second] [(.int (p1 &&& (1023 : Int32))), (.long (24 : Int64)), (.long (((8 : Int64) * ((Int32.ofNat (3 * k1)).toInt64)) + (0 : Int64)))])) _
    refine XS.i2l X9.here hx rfl (hb hby at_67) rfl ?_
    show Steps p.tables e below (T9.setTop (mkF m 68 #[.val (.int p1), .val (.int p2), .val (.int (p1 &&& (1023 : Int32))), .val (.int (p2 &&& (1023 : Int32))), .val (.ref b3), .val (.long (((8 : Int64) * ((Int32.ofNat 0).toInt64)) + (0 : Int64))), .second, .val (.long (((8 : Int64) * ((Int32.ofNat (3 * k1)).toInt64)) + (0 : Int64))), .second, .val (.long (((8 : Int64) * ((Int32.ofNat (3 * k2)).toInt64)) + (0 : Int64))), .second] [(.long ((p1 &&& (1023 : Int32)).toInt64)), (.long (24 : Int64)), (.long (((8 : Int64) * ((Int32.ofNat (3 * k1)).toInt64)) + (0 : Int64)))])) _
    refine XS.lmul X9.here hx rfl (hb hby at_68) rfl ?_
    show Steps p.tables e below (T9.setTop (mkF m 69 #[.val (.int p1), .val (.int p2), .val (.int (p1 &&& (1023 : Int32))), .val (.int (p2 &&& (1023 : Int32))), .val (.ref b3), .val (.long (((8 : Int64) * ((Int32.ofNat 0).toInt64)) + (0 : Int64))), .second, .val (.long (((8 : Int64) * ((Int32.ofNat (3 * k1)).toInt64)) + (0 : Int64))), .second, .val (.long (((8 : Int64) * ((Int32.ofNat (3 * k2)).toInt64)) + (0 : Int64))), .second] [(.long ((24 : Int64) * ((p1 &&& (1023 : Int32)).toInt64))), (.long (((8 : Int64) * ((Int32.ofNat (3 * k1)).toInt64)) + (0 : Int64)))])) _
    refine XS.lcmp X9.here hx rfl (hb hby at_69) rfl ?_
    show Steps p.tables e below (T9.setTop (mkF m 70 #[.val (.int p1), .val (.int p2), .val (.int (p1 &&& (1023 : Int32))), .val (.int (p2 &&& (1023 : Int32))), .val (.ref b3), .val (.long (((8 : Int64) * ((Int32.ofNat 0).toInt64)) + (0 : Int64))), .second, .val (.long (((8 : Int64) * ((Int32.ofNat (3 * k1)).toInt64)) + (0 : Int64))), .second, .val (.long (((8 : Int64) * ((Int32.ofNat (3 * k2)).toInt64)) + (0 : Int64))), .second] [(.int (lcmpW (((8 : Int64) * ((Int32.ofNat (3 * k1)).toInt64)) + (0 : Int64)) ((24 : Int64) * ((p1 &&& (1023 : Int32)).toInt64))))])) _
    refine XS.ifNo X9.here hx rfl (hb hby at_70) rfl ((if0 _ _).trans (teq ((lw_eq _ _).mpr (own_24 _ k1 hk1 ek1) : (lcmpW (((8 : Int64) * ((Int32.ofNat (3 * k1)).toInt64)) + (0 : Int64)) ((24 : Int64) * ((p1 &&& (1023 : Int32)).toInt64))) = (0 : Int32))).2) ?_
    show Steps p.tables e below (T9.setTop (mkF m 73 #[.val (.int p1), .val (.int p2), .val (.int (p1 &&& (1023 : Int32))), .val (.int (p2 &&& (1023 : Int32))), .val (.ref b3), .val (.long (((8 : Int64) * ((Int32.ofNat 0).toInt64)) + (0 : Int64))), .second, .val (.long (((8 : Int64) * ((Int32.ofNat (3 * k1)).toInt64)) + (0 : Int64))), .second, .val (.long (((8 : Int64) * ((Int32.ofNat (3 * k2)).toInt64)) + (0 : Int64))), .second] [])) _
    refine XS.lload X9.here hx rfl (hb hby at_73) rfl ?_
    show Steps p.tables e below (T9.setTop (mkF m 75 #[.val (.int p1), .val (.int p2), .val (.int (p1 &&& (1023 : Int32))), .val (.int (p2 &&& (1023 : Int32))), .val (.ref b3), .val (.long (((8 : Int64) * ((Int32.ofNat 0).toInt64)) + (0 : Int64))), .second, .val (.long (((8 : Int64) * ((Int32.ofNat (3 * k1)).toInt64)) + (0 : Int64))), .second, .val (.long (((8 : Int64) * ((Int32.ofNat (3 * k2)).toInt64)) + (0 : Int64))), .second] [(.long (((8 : Int64) * ((Int32.ofNat (3 * k2)).toInt64)) + (0 : Int64)))])) _
    refine X9.ldc2Long hx hown (mvT hZ (hw _ (List.mem_of_getElem? (i := 50) rfl))) (g := (mkF m 75 #[.val (.int p1), .val (.int p2), .val (.int (p1 &&& (1023 : Int32))), .val (.int (p2 &&& (1023 : Int32))), .val (.ref b3), .val (.long (((8 : Int64) * ((Int32.ofNat 0).toInt64)) + (0 : Int64))), .second, .val (.long (((8 : Int64) * ((Int32.ofNat (3 * k1)).toInt64)) + (0 : Int64))), .second, .val (.long (((8 : Int64) * ((Int32.ofNat (3 * k2)).toInt64)) + (0 : Int64))), .second] [(.long (((8 : Int64) * ((Int32.ofNat (3 * k2)).toInt64)) + (0 : Int64)))])) rfl (hb hby at_75) _ ?_
    show Steps p.tables e below (T9.setTop (mkF m 78 #[.val (.int p1), .val (.int p2), .val (.int (p1 &&& (1023 : Int32))), .val (.int (p2 &&& (1023 : Int32))), .val (.ref b3), .val (.long (((8 : Int64) * ((Int32.ofNat 0).toInt64)) + (0 : Int64))), .second, .val (.long (((8 : Int64) * ((Int32.ofNat (3 * k1)).toInt64)) + (0 : Int64))), .second, .val (.long (((8 : Int64) * ((Int32.ofNat (3 * k2)).toInt64)) + (0 : Int64))), .second] [(.long (24 : Int64)), (.long (((8 : Int64) * ((Int32.ofNat (3 * k2)).toInt64)) + (0 : Int64)))])) _
    refine XS.iloadN X9.here hx rfl (hb hby at_78) rfl ?_
    show Steps p.tables e below (T9.setTop (mkF m 79 #[.val (.int p1), .val (.int p2), .val (.int (p1 &&& (1023 : Int32))), .val (.int (p2 &&& (1023 : Int32))), .val (.ref b3), .val (.long (((8 : Int64) * ((Int32.ofNat 0).toInt64)) + (0 : Int64))), .second, .val (.long (((8 : Int64) * ((Int32.ofNat (3 * k1)).toInt64)) + (0 : Int64))), .second, .val (.long (((8 : Int64) * ((Int32.ofNat (3 * k2)).toInt64)) + (0 : Int64))), .second] [(.int (p2 &&& (1023 : Int32))), (.long (24 : Int64)), (.long (((8 : Int64) * ((Int32.ofNat (3 * k2)).toInt64)) + (0 : Int64)))])) _
    refine XS.i2l X9.here hx rfl (hb hby at_79) rfl ?_
    show Steps p.tables e below (T9.setTop (mkF m 80 #[.val (.int p1), .val (.int p2), .val (.int (p1 &&& (1023 : Int32))), .val (.int (p2 &&& (1023 : Int32))), .val (.ref b3), .val (.long (((8 : Int64) * ((Int32.ofNat 0).toInt64)) + (0 : Int64))), .second, .val (.long (((8 : Int64) * ((Int32.ofNat (3 * k1)).toInt64)) + (0 : Int64))), .second, .val (.long (((8 : Int64) * ((Int32.ofNat (3 * k2)).toInt64)) + (0 : Int64))), .second] [(.long ((p2 &&& (1023 : Int32)).toInt64)), (.long (24 : Int64)), (.long (((8 : Int64) * ((Int32.ofNat (3 * k2)).toInt64)) + (0 : Int64)))])) _
    refine XS.lmul X9.here hx rfl (hb hby at_80) rfl ?_
    show Steps p.tables e below (T9.setTop (mkF m 81 #[.val (.int p1), .val (.int p2), .val (.int (p1 &&& (1023 : Int32))), .val (.int (p2 &&& (1023 : Int32))), .val (.ref b3), .val (.long (((8 : Int64) * ((Int32.ofNat 0).toInt64)) + (0 : Int64))), .second, .val (.long (((8 : Int64) * ((Int32.ofNat (3 * k1)).toInt64)) + (0 : Int64))), .second, .val (.long (((8 : Int64) * ((Int32.ofNat (3 * k2)).toInt64)) + (0 : Int64))), .second] [(.long ((24 : Int64) * ((p2 &&& (1023 : Int32)).toInt64))), (.long (((8 : Int64) * ((Int32.ofNat (3 * k2)).toInt64)) + (0 : Int64)))])) _
    refine XS.lcmp X9.here hx rfl (hb hby at_81) rfl ?_
    show Steps p.tables e below (T9.setTop (mkF m 82 #[.val (.int p1), .val (.int p2), .val (.int (p1 &&& (1023 : Int32))), .val (.int (p2 &&& (1023 : Int32))), .val (.ref b3), .val (.long (((8 : Int64) * ((Int32.ofNat 0).toInt64)) + (0 : Int64))), .second, .val (.long (((8 : Int64) * ((Int32.ofNat (3 * k1)).toInt64)) + (0 : Int64))), .second, .val (.long (((8 : Int64) * ((Int32.ofNat (3 * k2)).toInt64)) + (0 : Int64))), .second] [(.int (lcmpW (((8 : Int64) * ((Int32.ofNat (3 * k2)).toInt64)) + (0 : Int64)) ((24 : Int64) * ((p2 &&& (1023 : Int32)).toInt64))))])) _
    refine XS.ifNo X9.here hx rfl (hb hby at_82) rfl ((if0 _ _).trans (teq ((lw_eq _ _).mpr (own_24 _ k2 hk2 ek2) : (lcmpW (((8 : Int64) * ((Int32.ofNat (3 * k2)).toInt64)) + (0 : Int64)) ((24 : Int64) * ((p2 &&& (1023 : Int32)).toInt64))) = (0 : Int32))).2) ?_
    show Steps p.tables e below (T9.setTop (mkF m 85 #[.val (.int p1), .val (.int p2), .val (.int (p1 &&& (1023 : Int32))), .val (.int (p2 &&& (1023 : Int32))), .val (.ref b3), .val (.long (((8 : Int64) * ((Int32.ofNat 0).toInt64)) + (0 : Int64))), .second, .val (.long (((8 : Int64) * ((Int32.ofNat (3 * k1)).toInt64)) + (0 : Int64))), .second, .val (.long (((8 : Int64) * ((Int32.ofNat (3 * k2)).toInt64)) + (0 : Int64))), .second] [])) _
    refine XS.iconst X9.here hx rfl (hb hby at_85) ?_
    show Steps p.tables e below (T9.setTop (mkF m 86 #[.val (.int p1), .val (.int p2), .val (.int (p1 &&& (1023 : Int32))), .val (.int (p2 &&& (1023 : Int32))), .val (.ref b3), .val (.long (((8 : Int64) * ((Int32.ofNat 0).toInt64)) + (0 : Int64))), .second, .val (.long (((8 : Int64) * ((Int32.ofNat (3 * k1)).toInt64)) + (0 : Int64))), .second, .val (.long (((8 : Int64) * ((Int32.ofNat (3 * k2)).toInt64)) + (0 : Int64))), .second] [(.int (1 : Int32))])) _
    refine XS.goto X9.here hx rfl (pc0 := 86) (pc' := 90) rfl (hb hby at_86) (by decide) (by decide) ?_
    show Steps p.tables e below (T9.setTop (mkF m 90 #[.val (.int p1), .val (.int p2), .val (.int (p1 &&& (1023 : Int32))), .val (.int (p2 &&& (1023 : Int32))), .val (.ref b3), .val (.long (((8 : Int64) * ((Int32.ofNat 0).toInt64)) + (0 : Int64))), .second, .val (.long (((8 : Int64) * ((Int32.ofNat (3 * k1)).toInt64)) + (0 : Int64))), .second, .val (.long (((8 : Int64) * ((Int32.ofNat (3 * k2)).toInt64)) + (0 : Int64))), .second] [(.int (1 : Int32))])) _
    exact retN X9 hx (t := .boolean) Bd.returns (by simp) (hb hby at_90) hr
  · show Q0 Z p1 p2 h0 n0 _ T9.heap _
    exact ⟨rfl, N9⟩
set_option maxRecDepth 65536 in
set_option maxHeartbeats 40000000 in
theorem comes_1 {Post : Tables → Env → Array Value → State → Outcome → State → Prop} (hpost : ∀ tb e args s v u, (limb_1_1.after args s (.returned v) u = true ∧ limb_1_2.after args s (.returned v) u = true ∧ True) → FrameEnd s (.returned v) u (Jvm.fieldLocs frame_1_writes args s ++ Jvm.arrayLocs frame_1_arrays args s ++ Jvm.staticLocs frame_1_statics s) 16 12352 → Post tb e args s (.returned v) u) :
    ArmFor flags0 classFile x code maxLocals ret World_1 tables_1 room_1 Calls_1 rest_1 Pre_1 Post := by
  intro l hfl _ _ p e ha hc hk s m args below hf hA hF happ hP
  obtain ⟨hcalls, hrest, hpre⟩ := hP
  obtain ⟨-, -, -, hnamed, -, -, -, hat⟩ := (Spec.applies_iff hf).mp happ
  obtain ⟨hg, hn⟩ := and_e (Cond.before_iff.mp (show (Jvm.Cond.and given_1 narrow_1).before args s = true from hpre))
  obtain ⟨g10, g11⟩ := and_e hg
  obtain ⟨g12, g13⟩ := and_e g11
  obtain ⟨w0, w1, rfl⟩ : ∃ w0 w1 : Value, args = #[w0, w1] := by
    have hs : args.size = 2 := by simpa [Cond.value, given_1] using g10
    obtain ⟨L⟩ := args
    match L, hs with
    | [w0, w1], _ => exact ⟨w0, w1, rfl⟩
  have hw := fun d (hd : d ∈ tables_1) => atoms_spec (ws := Jvm.Cond.code x code maxLocals ret :: tables_1) hat d (List.mem_cons_of_mem _ hd)
  have hfit : Fit s := fun {y c} hc i hi => by
    obtain ⟨ha, rfl⟩ := Array.getElem?_eq_some_iff.mp hc
    have q := List.all_eq_true.mp ((Array.all_eq_true_iff_forall_mem.mp hF) _ (Array.getElem_mem ha)) i (List.mem_range.mpr hi)
    simpa [Array.getElem?_eq_getElem hi] using q
  obtain ⟨i0, ei0⟩ := is_v g12
  obtain rfl : w0 = (.int i0) := Option.some.inj ei0
  obtain ⟨i1, ei1⟩ := is_v g13
  obtain rfl : w1 = (.int i1) := Option.some.inj ei1
  obtain ⟨n, o, h1, h2, h3, _, L, rfl, ⟨rfl, N⟩, hq⟩ := rm0 l s _ hw tables_1 i0 i1 s.heap s.heap.size (Nat.le_refl _) p e ha hc hk s m _ below hf ((Spec.applies_iff_loose hf).mp happ).1 ⟨rfl, State.Warmed39.refl s, rfl⟩ trivial
  refine ⟨n, _, h1, h2, h3, hpost _ _ _ _ _ _ ⟨Cond.after_iff.mpr rfl, Cond.after_iff.mpr (eq_i res_at (Term.int_eval (1)) rfl), trivial⟩ ⟨hq.1, hq.2.1, (hq.2.2.sift fun y hy => Or.inr (N y hy)).mono (by decide) (by decide)⟩⟩
theorem main_1_1 : Claimed_1_1 := comes_1 fun _ _ _ _ _ _ h hF => ⟨h.1, hF⟩
theorem main_1_2 : Claimed_1_2 := comes_1 fun _ _ _ _ _ _ h hF => ⟨h.2.1, hF⟩
end Jvm.Pilot.@@N@@
namespace Jvm.Pilot.@@N@@
open Jvm Jvm.ClassFile Sem Op Lib Jvm.Free Jvm.Stand Jvm.Pilot.@@N@@.Jvm.D
/-! MADE BY PROGRAM (witnessworld.py) out of the Statement's table words and the real class files: 14 classes; the members and pool entries that the words name. The judged class is class 1, her method 1. -/
namespace start1
open Jvm.ClassFile
def u (s : String) : CpInfo := .utf8 (stringToUtf16 s)
/-- a pool by its gaps: so many unusable entries, then the entry; so many at the end -/
def gap : Nat → List CpInfo → List CpInfo
  | 0, r => r
  | n + 1, r => .unusable :: gap n r
def poolList (es : List (Nat × CpInfo)) (last : Nat) : List CpInfo := es.foldr (fun e r => gap e.1 (e.2 :: r)) (gap last [])
def pool (es : List (Nat × CpInfo)) (last : Nat) : Array CpInfo := ⟨poolList es last⟩
def fileOf (pool : Array CpInfo) (this : Nat) (attrs : Array Attribute := #[]) (ms : Array MethodInfo := #[]) (fl : Nat := 33) (sup : Nat := 0) (ifs : Array Nat := #[]) (fds : Array FieldInfo := #[]) : ClassFile where
  minorVersion := 0
  majorVersion := 65
  constantPool := pool
  accessFlags := fl
  thisClass := this
  superClass := sup
  interfaces := ifs
  fields := fds
  methods := ms
  attributes := attrs
def plain (name : String) (sup : Option ClassId) : Class where
  name := name
  kind := .ordinary
  loader := none
  accessFlags := 33
  super := sup
  interfaces := #[]
  cf := none
  fields := #[]
  methods := #[]
  instanceTypes := #[]
  staticTypes := #[]
  resolved := #[]
  callSites := []
  init := .initialized
  statics := none
  mirror := none

def pool0 : Array CpInfo := pool [(5, u "<init>"), (0, u "()V"), (1, .class_ 10), (1, u "java/lang/Object"), (85, u "clone"), (0, u "()Ljava/lang/Object;")] 26

def k0c0 : Code := { maxStack := 0, maxLocals := 1, code := object_method_1_code, exceptionTable := #[], attributes := #[] }
def k0m0 : Method := { name := "<init>", desc := "()V", sig := { parameters := [], returnType := none }, accessFlags := 1, code := some k0c0 }
def k0m1 : Method := { name := "clone", desc := "()Ljava/lang/Object;", sig := { parameters := [], returnType := some (.object "java/lang/Object") }, accessFlags := 260, code := none }
/-- java/lang/Object -/
def k0 : Class := { plain "java/lang/Object" none with
  accessFlags := 33
  interfaces := #[]
  cf := some (fileOf pool0 8 #[] #[{ accessFlags := 1, nameIndex := 5, descriptorIndex := 6, attributes := #[] }, { accessFlags := 260, nameIndex := 96, descriptorIndex := 97, attributes := #[] }] 33 0 #[] #[])
  fields := #[]
  methods := #[k0m0, k0m1]
  instanceTypes := #[]
  staticTypes := #[]
  resolved := Array.replicate 124 none
  statics := none }

def pool1 : Array CpInfo := pool [(2, .class_ 4), (0, .nameAndType 5 6), (0, u "java/lang/Object"), (0, u "<init>"), (0, u "()V"), (0, .class_ 8), (0, u "com/example/kestrel_query/kestrelquery/exec/DoubleSums"), (0, .methodref 7 3), (0, .methodref 7 11), (0, .nameAndType 12 13), (0, u "retainedBytes"), (0, u "()J"), (0, .methodref 7 15), (0, .nameAndType 16 17), (0, u "grow"), (0, u "(I)V"), (0, .long 24), (1, .class_ 21), (0, u "com/example/kestrel_query/kestrelquery/exec/DoubleSumsRetainedBytesPinLaw"), (2, u "law"), (0, u "(II)Z")] 3

def k1m0 : Method := { name := "<init>", desc := "()V", sig := { parameters := [], returnType := none }, accessFlags := 1, code := none }
def k1c1 : Code := { maxStack := 6, maxLocals := 11, code := code, exceptionTable := #[], attributes := #[] }
def k1m1 : Method := { name := "law", desc := "(II)Z", sig := { parameters := [.int, .int], returnType := some .boolean }, accessFlags := 9, code := some k1c1 }
/-- com/example/kestrel_query/kestrelquery/exec/DoubleSumsRetainedBytesPinLaw -/
def k1 : Class := { plain "com/example/kestrel_query/kestrelquery/exec/DoubleSumsRetainedBytesPinLaw" (some 0) with
  accessFlags := 49
  interfaces := #[]
  cf := some (fileOf pool1 20 #[] #[{ accessFlags := 1, nameIndex := 5, descriptorIndex := 6, attributes := #[] }, { accessFlags := 9, nameIndex := 24, descriptorIndex := 25, attributes := #[] }] 49 2 #[] #[])
  fields := #[]
  methods := #[k1m0, k1m1]
  instanceTypes := #[]
  staticTypes := #[]
  resolved := Array.replicate 29 none
  statics := none }

def pool2 : Array CpInfo := pool [(3, .class_ 4), (0, u "com/example/kestrel_query/kestrelquery/exec/DoubleSums"), (0, .methodref 6 7), (0, .class_ 8), (0, .nameAndType 9 10), (0, u "java/lang/Object"), (0, u "<init>"), (0, u "()V"), (0, .fieldref 3 12), (0, .nameAndType 13 14), (0, u "windows"), (0, u "[J"), (0, .methodref 16 17), (0, .class_ 18), (0, .nameAndType 19 20), (0, u "java/util/Arrays"), (0, u "copyOf"), (0, u "([JI)[J"), (0, .fieldref 3 22), (0, .nameAndType 23 24), (0, u "spills"), (0, u "[Ljava/math/BigInteger;"), (4, .fieldref 3 30), (0, .nameAndType 31 32), (0, u "notFinite"), (0, u "[B"), (3, .long 8), (1, .fieldref 3 39), (0, .nameAndType 40 41), (0, u "spilledBytes"), (0, u "J"), (182, u "FRACTION_BITS"), (0, u "I"), (2, u "FRACTION_MASK"), (0, u "IMPLICIT_BIT"), (0, u "NOT_FINITE"), (1, u "BIAS"), (1, u "SIGNIFICAND_ROOM"), (1, u "ROOM_BELOW"), (1, u "WINDOW_DIVISOR_LIMIT"), (0, u "NAN"), (0, u "B"), (1, u "POSITIVE_INFINITY"), (1, u "NEGATIVE_INFINITY"), (3, u "grow"), (0, u "(I)V"), (1, u "retainedBytes"), (0, u "()J")] 9

def k2c0 : Code := { maxStack := 2, maxLocals := 1, code := prog_45_method_1_code, exceptionTable := #[], attributes := #[] }
def k2m0 : Method := { name := "<init>", desc := "()V", sig := { parameters := [], returnType := none }, accessFlags := 0, code := some k2c0 }
def k2c1 : Code := { maxStack := 4, maxLocals := 2, code := prog_45_method_2_code, exceptionTable := #[], attributes := #[] }
def k2m1 : Method := { name := "grow", desc := "(I)V", sig := { parameters := [.int], returnType := none }, accessFlags := 0, code := some k2c1 }
def k2c2 : Code := { maxStack := 6, maxLocals := 3, code := prog_45_method_3_code, exceptionTable := #[], attributes := #[] }
def k2m2 : Method := { name := "retainedBytes", desc := "()J", sig := { parameters := [], returnType := some .long }, accessFlags := 0, code := some k2c2 }
/-- com/example/kestrel_query/kestrelquery/exec/DoubleSums -/
def k2 : Class := { plain "com/example/kestrel_query/kestrelquery/exec/DoubleSums" (some 0) with
  accessFlags := 48
  interfaces := #[]
  cf := some (fileOf pool2 3 #[] #[{ accessFlags := 0, nameIndex := 9, descriptorIndex := 10, attributes := #[] }, { accessFlags := 0, nameIndex := 248, descriptorIndex := 249, attributes := #[] }, { accessFlags := 0, nameIndex := 251, descriptorIndex := 252, attributes := #[] }] 48 6 #[] #[{ accessFlags := 26, nameIndex := 224, descriptorIndex := 225, attributes := #[] }, { accessFlags := 26, nameIndex := 228, descriptorIndex := 41, attributes := #[] }, { accessFlags := 26, nameIndex := 229, descriptorIndex := 41, attributes := #[] }, { accessFlags := 26, nameIndex := 230, descriptorIndex := 225, attributes := #[] }, { accessFlags := 26, nameIndex := 232, descriptorIndex := 225, attributes := #[] }, { accessFlags := 26, nameIndex := 234, descriptorIndex := 225, attributes := #[] }, { accessFlags := 26, nameIndex := 236, descriptorIndex := 225, attributes := #[] }, { accessFlags := 26, nameIndex := 238, descriptorIndex := 41, attributes := #[] }, { accessFlags := 26, nameIndex := 239, descriptorIndex := 240, attributes := #[] }, { accessFlags := 26, nameIndex := 242, descriptorIndex := 240, attributes := #[] }, { accessFlags := 26, nameIndex := 244, descriptorIndex := 240, attributes := #[] }, { accessFlags := 2, nameIndex := 13, descriptorIndex := 14, attributes := #[] }, { accessFlags := 2, nameIndex := 23, descriptorIndex := 24, attributes := #[] }, { accessFlags := 2, nameIndex := 31, descriptorIndex := 32, attributes := #[] }, { accessFlags := 2, nameIndex := 40, descriptorIndex := 41, attributes := #[] }])
  fields := #[{ name := "FRACTION_BITS", type := .int, accessFlags := 26, slot := 0, constantValue := 0 }, { name := "FRACTION_MASK", type := .long, accessFlags := 26, slot := 1, constantValue := 0 }, { name := "IMPLICIT_BIT", type := .long, accessFlags := 26, slot := 2, constantValue := 0 }, { name := "NOT_FINITE", type := .int, accessFlags := 26, slot := 3, constantValue := 0 }, { name := "BIAS", type := .int, accessFlags := 26, slot := 4, constantValue := 0 }, { name := "SIGNIFICAND_ROOM", type := .int, accessFlags := 26, slot := 5, constantValue := 0 }, { name := "ROOM_BELOW", type := .int, accessFlags := 26, slot := 6, constantValue := 0 }, { name := "WINDOW_DIVISOR_LIMIT", type := .long, accessFlags := 26, slot := 7, constantValue := 0 }, { name := "NAN", type := .byte, accessFlags := 26, slot := 8, constantValue := 0 }, { name := "POSITIVE_INFINITY", type := .byte, accessFlags := 26, slot := 9, constantValue := 0 }, { name := "NEGATIVE_INFINITY", type := .byte, accessFlags := 26, slot := 10, constantValue := 0 }, { name := "windows", type := (.array .long), accessFlags := 2, slot := 0, constantValue := 0 }, { name := "spills", type := (.array (.object "java/math/BigInteger")), accessFlags := 2, slot := 1, constantValue := 0 }, { name := "notFinite", type := (.array .byte), accessFlags := 2, slot := 2, constantValue := 0 }, { name := "spilledBytes", type := .long, accessFlags := 2, slot := 3, constantValue := 0 }]
  methods := #[k2m0, k2m1, k2m2]
  instanceTypes := #[(.array .long), (.array (.object "java/math/BigInteger")), (.array .byte), .long]
  staticTypes := #[.int, .long, .long, .int, .int, .int, .int, .long, .byte, .byte, .byte]
  resolved := Array.replicate 262 none
  statics := none }

def pool3 : Array CpInfo := pool [(2, .class_ 4), (1, u "java/lang/Object"), (0, u "<init>"), (0, u "()V"), (7, .class_ 16), (1, u "java/util/Arrays"), (57, .class_ 76), (1, u "java/util/Arrays$NaturalOrder"), (32, u "()Ljava/lang/Object;"), (3, .class_ 115), (1, u "java/util/Arrays$LegacyMergeSort"), (1, u "Z"), (10, .nameAndType 129 109), (0, u "clone"), (20, .methodref 151 152), (0, .class_ 153), (0, .nameAndType 154 155), (0, u "java/lang/System"), (0, u "arraycopy"), (0, u "(Ljava/lang/Object;ILjava/lang/Object;II)V"), (146, u "copyOf"), (1, .methodref 305 306), (0, .class_ 307), (0, .nameAndType 308 309), (0, u "java/lang/Math"), (0, u "min"), (0, u "(II)I"), (9, .methodref 320 128), (0, .class_ 321), (0, u "[J"), (53, .class_ 376), (0, u "java/util/Arrays$ArrayList"), (68, u "$assertionsDisabled"), (269, u "MIN_ARRAY_SORT_GRAN"), (0, u "I"), (2, u "INSERTIONSORT_THRESHOLD"), (152, u "([JI)[J"), (102, .class_ 976), (0, u "java/util/Arrays$ArrayItr")] 52

def k3m0 : Method := { name := "<init>", desc := "()V", sig := { parameters := [], returnType := none }, accessFlags := 2, code := none }
def k3c1 : Code := { maxStack := 6, maxLocals := 3, code := jdk_65_method_124_code, exceptionTable := #[], attributes := #[] }
def k3m1 : Method := { name := "copyOf", desc := "([JI)[J", sig := { parameters := [(.array .long), .int], returnType := some (.array .long) }, accessFlags := 9, code := some k3c1 }
/-- java/util/Arrays -/
def k3 : Class := { plain "java/util/Arrays" (some 0) with
  accessFlags := 49
  interfaces := #[]
  cf := some (fileOf pool3 14 #[.nestMembers #[975, 375, 113, 74]] #[{ accessFlags := 2, nameIndex := 5, descriptorIndex := 6, attributes := #[] }, { accessFlags := 9, nameIndex := 302, descriptorIndex := 872, attributes := #[] }] 49 2 #[] #[{ accessFlags := 26, nameIndex := 715, descriptorIndex := 716, attributes := #[] }, { accessFlags := 26, nameIndex := 719, descriptorIndex := 716, attributes := #[] }, { accessFlags := 4120, nameIndex := 445, descriptorIndex := 117, attributes := #[] }])
  fields := #[{ name := "MIN_ARRAY_SORT_GRAN", type := .int, accessFlags := 26, slot := 0, constantValue := 0 }, { name := "INSERTIONSORT_THRESHOLD", type := .int, accessFlags := 26, slot := 1, constantValue := 0 }, { name := "$assertionsDisabled", type := .boolean, accessFlags := 4120, slot := 2, constantValue := 0 }]
  methods := #[k3m0, k3m1]
  instanceTypes := #[]
  staticTypes := #[.int, .int, .boolean]
  resolved := Array.replicate 1029 none
  statics := none }

def pool4 : Array CpInfo := pool [(1, .class_ 2), (0, u "java/lang/Cloneable"), (0, .class_ 4), (0, u "java/lang/Object")] 2

/-- java/lang/Cloneable -/
def k4 : Class := { plain "java/lang/Cloneable" (some 0) with
  accessFlags := 1537
  interfaces := #[]
  cf := some (fileOf pool4 1 #[] #[] 1537 3 #[] #[])
  fields := #[]
  methods := #[]
  instanceTypes := #[]
  staticTypes := #[]
  resolved := Array.replicate 7 none
  statics := none }

def pool5 : Array CpInfo := pool [(1, .class_ 2), (0, u "java/lang/Math"), (1, .class_ 6), (1, u "java/lang/Object"), (0, u "<init>"), (0, u "()V"), (89, .class_ 100), (1, u "java/lang/Math$RandomNumberGeneratorHolder"), (71, u "negativeZeroFloatBits"), (0, u "J"), (2, u "negativeZeroDoubleBits"), (24, u "min"), (43, u "$assertionsDisabled"), (0, u "Z"), (88, u "(II)I"), (2, u "twoToTheDoubleScaleDown"), (0, u "D"), (4, u "twoToTheDoubleScaleUp"), (9, u "E"), (3, u "PI"), (2, u "TAU"), (2, u "DEGREES_TO_RADIANS"), (0, u "RADIANS_TO_DEGREES")] 94

def k5m0 : Method := { name := "<init>", desc := "()V", sig := { parameters := [], returnType := none }, accessFlags := 2, code := none }
def k5c1 : Code := { maxStack := 2, maxLocals := 2, code := jdk_29_method_69_code, exceptionTable := #[], attributes := #[] }
def k5m1 : Method := { name := "min", desc := "(II)I", sig := { parameters := [.int, .int], returnType := some .int }, accessFlags := 9, code := some k5c1 }
/-- java/lang/Math -/
def k5 : Class := { plain "java/lang/Math" (some 0) with
  accessFlags := 49
  interfaces := #[]
  cf := some (fileOf pool5 1 #[.nestMembers #[98]] #[{ accessFlags := 2, nameIndex := 7, descriptorIndex := 8, attributes := #[] }, { accessFlags := 9, nameIndex := 201, descriptorIndex := 335, attributes := #[] }] 49 4 #[] #[{ accessFlags := 25, nameIndex := 354, descriptorIndex := 339, attributes := #[] }, { accessFlags := 25, nameIndex := 358, descriptorIndex := 339, attributes := #[] }, { accessFlags := 25, nameIndex := 361, descriptorIndex := 339, attributes := #[] }, { accessFlags := 26, nameIndex := 364, descriptorIndex := 339, attributes := #[] }, { accessFlags := 26, nameIndex := 365, descriptorIndex := 339, attributes := #[] }, { accessFlags := 26, nameIndex := 172, descriptorIndex := 173, attributes := #[] }, { accessFlags := 26, nameIndex := 176, descriptorIndex := 173, attributes := #[] }, { accessFlags := 8, nameIndex := 344, descriptorIndex := 339, attributes := #[] }, { accessFlags := 8, nameIndex := 338, descriptorIndex := 339, attributes := #[] }, { accessFlags := 4120, nameIndex := 245, descriptorIndex := 246, attributes := #[] }])
  fields := #[{ name := "E", type := .double, accessFlags := 25, slot := 0, constantValue := 0 }, { name := "PI", type := .double, accessFlags := 25, slot := 1, constantValue := 0 }, { name := "TAU", type := .double, accessFlags := 25, slot := 2, constantValue := 0 }, { name := "DEGREES_TO_RADIANS", type := .double, accessFlags := 26, slot := 3, constantValue := 0 }, { name := "RADIANS_TO_DEGREES", type := .double, accessFlags := 26, slot := 4, constantValue := 0 }, { name := "negativeZeroFloatBits", type := .long, accessFlags := 26, slot := 5, constantValue := 0 }, { name := "negativeZeroDoubleBits", type := .long, accessFlags := 26, slot := 6, constantValue := 0 }, { name := "twoToTheDoubleScaleUp", type := .double, accessFlags := 8, slot := 7, constantValue := 0 }, { name := "twoToTheDoubleScaleDown", type := .double, accessFlags := 8, slot := 8, constantValue := 0 }, { name := "$assertionsDisabled", type := .boolean, accessFlags := 4120, slot := 9, constantValue := 0 }]
  methods := #[k5m0, k5m1]
  instanceTypes := #[]
  staticTypes := #[.double, .double, .double, .double, .double, .long, .long, .double, .double, .boolean]
  resolved := Array.replicate 460 none
  statics := none }

def pool6 : Array CpInfo := pool [(2, .class_ 4), (1, u "java/lang/Object"), (0, u "<init>"), (0, u "()V"), (1, .class_ 10), (1, u "java/lang/System"), (0, u "allowSecurityManager"), (0, u "I"), (16, u "cons"), (0, u "Ljava/io/Console;"), (77, .class_ 110), (1, u "java/lang/System$CallersHolder"), (43, u "initialErrStream"), (0, u "Ljava/io/PrintStream;"), (19, u "security"), (0, u "Ljava/lang/SecurityManager;"), (31, .class_ 209), (0, u "java/lang/System$1"), (7, u "props"), (0, u "Ljava/util/Properties;"), (2, u "lineSeparator"), (0, u "Ljava/lang/String;"), (96, .class_ 321), (1, u "java/lang/System$LoggerFinder"), (5, .class_ 328), (0, u "java/lang/System$Logger"), (67, u "err"), (2, u "out"), (91, u "notSupportedJnuEncoding"), (15, u "in"), (17, u "initialIn"), (0, u "Ljava/io/InputStream;"), (35, u "bootLayer"), (0, u "Ljava/lang/ModuleLayer;"), (99, .class_ 664), (0, u "java/lang/System$2"), (9, u "NEVER"), (2, u "MAYBE"), (49, u "arraycopy"), (0, u "(Ljava/lang/Object;ILjava/lang/Object;II)V"), (72, .class_ 802), (0, u "java/lang/System$Logger$Level")] 31

def k6m0 : Method := { name := "<init>", desc := "()V", sig := { parameters := [], returnType := none }, accessFlags := 2, code := none }
def k6m1 : Method := { name := "arraycopy", desc := "(Ljava/lang/Object;ILjava/lang/Object;II)V", sig := { parameters := [(.object "java/lang/Object"), .int, (.object "java/lang/Object"), .int, .int], returnType := none }, accessFlags := 265, code := none }
/-- java/lang/System -/
def k6 : Class := { plain "java/lang/System" (some 0) with
  accessFlags := 49
  interfaces := #[]
  cf := some (fileOf pool6 8 #[.nestMembers #[319, 327, 801, 108, 663, 208]] #[{ accessFlags := 2, nameIndex := 5, descriptorIndex := 6, attributes := #[] }, { accessFlags := 265, nameIndex := 727, descriptorIndex := 728, attributes := #[] }] 49 2 #[] #[{ accessFlags := 25, nameIndex := 507, descriptorIndex := 526, attributes := #[] }, { accessFlags := 25, nameIndex := 399, descriptorIndex := 155, attributes := #[] }, { accessFlags := 25, nameIndex := 396, descriptorIndex := 155, attributes := #[] }, { accessFlags := 10, nameIndex := 525, descriptorIndex := 526, attributes := #[] }, { accessFlags := 26, nameIndex := 674, descriptorIndex := 12, attributes := #[] }, { accessFlags := 26, nameIndex := 677, descriptorIndex := 12, attributes := #[] }, { accessFlags := 10, nameIndex := 11, descriptorIndex := 12, attributes := #[] }, { accessFlags := 74, nameIndex := 175, descriptorIndex := 176, attributes := #[] }, { accessFlags := 10, nameIndex := 491, descriptorIndex := 222, attributes := #[] }, { accessFlags := 74, nameIndex := 29, descriptorIndex := 30, attributes := #[] }, { accessFlags := 74, nameIndex := 154, descriptorIndex := 155, attributes := #[] }, { accessFlags := 10, nameIndex := 217, descriptorIndex := 218, attributes := #[] }, { accessFlags := 10, nameIndex := 221, descriptorIndex := 222, attributes := #[] }, { accessFlags := 8, nameIndex := 562, descriptorIndex := 563, attributes := #[] }])
  fields := #[{ name := "in", type := (.object "java/io/InputStream"), accessFlags := 25, slot := 0, constantValue := 0 }, { name := "out", type := (.object "java/io/PrintStream"), accessFlags := 25, slot := 1, constantValue := 0 }, { name := "err", type := (.object "java/io/PrintStream"), accessFlags := 25, slot := 2, constantValue := 0 }, { name := "initialIn", type := (.object "java/io/InputStream"), accessFlags := 10, slot := 3, constantValue := 0 }, { name := "NEVER", type := .int, accessFlags := 26, slot := 4, constantValue := 0 }, { name := "MAYBE", type := .int, accessFlags := 26, slot := 5, constantValue := 0 }, { name := "allowSecurityManager", type := .int, accessFlags := 10, slot := 6, constantValue := 0 }, { name := "security", type := (.object "java/lang/SecurityManager"), accessFlags := 74, slot := 7, constantValue := 0 }, { name := "notSupportedJnuEncoding", type := (.object "java/lang/String"), accessFlags := 10, slot := 8, constantValue := 0 }, { name := "cons", type := (.object "java/io/Console"), accessFlags := 74, slot := 9, constantValue := 0 }, { name := "initialErrStream", type := (.object "java/io/PrintStream"), accessFlags := 74, slot := 10, constantValue := 0 }, { name := "props", type := (.object "java/util/Properties"), accessFlags := 10, slot := 11, constantValue := 0 }, { name := "lineSeparator", type := (.object "java/lang/String"), accessFlags := 10, slot := 12, constantValue := 0 }, { name := "bootLayer", type := (.object "java/lang/ModuleLayer"), accessFlags := 8, slot := 13, constantValue := 0 }]
  methods := #[k6m0, k6m1]
  instanceTypes := #[]
  staticTypes := #[(.object "java/io/InputStream"), (.object "java/io/PrintStream"), (.object "java/io/PrintStream"), (.object "java/io/InputStream"), .int, .int, .int, (.object "java/lang/SecurityManager"), (.object "java/lang/String"), (.object "java/io/Console"), (.object "java/io/PrintStream"), (.object "java/util/Properties"), (.object "java/lang/String"), (.object "java/lang/ModuleLayer")]
  resolved := Array.replicate 834 none
  statics := none }

def pool7 : Array CpInfo := pool [(1, u "java/io/Serializable"), (0, .class_ 1), (0, u "java/lang/Object"), (0, .class_ 3)] 3

/-- java/io/Serializable -/
def k7 : Class := { plain "java/io/Serializable" (some 0) with
  accessFlags := 1537
  interfaces := #[]
  cf := some (fileOf pool7 2 #[] #[] 1537 4 #[] #[])
  fields := #[]
  methods := #[]
  instanceTypes := #[]
  staticTypes := #[]
  resolved := Array.replicate 8 none
  statics := none }

/-- the primitive byte -/
def k8 : Class := { plain "byte" none with kind := .primitive 'B', accessFlags := 0x411 }
/-- [B -/
def k9 : Class := { plain "[B" (some 0) with kind := .array 8 .byte, interfaces := #[4, 7], accessFlags := 1041 }

/-- the primitive int -/
def k10 : Class := { plain "int" none with kind := .primitive 'I', accessFlags := 0x411 }
/-- [I -/
def k11 : Class := { plain "[I" (some 0) with kind := .array 10 .int, interfaces := #[4, 7], accessFlags := 1041 }

/-- the primitive long -/
def k12 : Class := { plain "long" none with kind := .primitive 'J', accessFlags := 0x411 }
/-- [J -/
def k13 : Class := { plain "[J" (some 0) with kind := .array 12 .long, interfaces := #[4, 7], accessFlags := 1041 }

def heap : Heap := #[]
def classes : Array Class := #[k0, k1, k2, k3, k4, k5, k6, k7, k8, k9, k10, k11, k12, k13]
def interned : List (Array UInt16 × Addr) := []
def slotsUsed : Nat := 0
def theMethod : MethodId := ⟨1, 1⟩
def args0 : Array Value := #[.int 5, .int 2]
def aboutOver (below : List Frame) : State where
  vm := { classes := classes, interned := interned.toArray }
  heap := heap
  slotsUsed := slotsUsed
  threads := #[{ frames := .invoking theMethod args0 :: below }]
def below0 : List Frame := [.native { method := ⟨0, 0⟩, args := #[] }]
def about1 : State := aboutOver below0
def p0 : Program := .bare "" "" ""
def e0 : Env := launch0.env 0 0 0
theorem w_frames : about1.frames = Frame.invoking theMethod args0 :: below0 := rfl
set_option maxRecDepth 65536 in
theorem w_args : argsFit about1.vm theMethod args0 = true := by decide +kernel
set_option maxRecDepth 65536 in
theorem w_heap : heapFits about1 = true := by decide +kernel
set_option maxRecDepth 65536 in
theorem w_runnable : about1.curStatus? = some .runnable := by decide +kernel
set_option maxRecDepth 65536 in
theorem w_alone : about1.alone = true := by decide +kernel
set_option maxRecDepth 65536 in
theorem w_named : about1.methodNamed? x = some theMethod := by decide +kernel
set_option maxRecDepth 65536 in
theorem w_hears : about1.hears theMethod below0 = true := by decide +kernel
set_option maxRecDepth 65536 in
theorem w_ripe : about1.ripe theMethod args0 below0 = true := by decide +kernel
theorem w_running : about1.status = .running := rfl
set_option maxRecDepth 65536 in
theorem w_room : about1.hasRoom e0.platform room_1 = true :=
  launch0.hasRoom_least _ room_1 (by decide +kernel) (by decide +kernel) (by decide +kernel) (by decide +kernel) (by decide +kernel) (by decide +kernel)
theorem allAtoms_all (ts : List Jvm.Cond) (a : Array Jvm.Value) (st : Jvm.State) : (allAtoms ts).before a st = ts.all (fun c => c.before a st) := by
  induction ts with
  | nil => rfl
  | cons c t ih =>
    show (Jvm.Cond.and c (allAtoms t)).before a st = _
    rw [Jvm.Cond.before_and, ih, List.all_cons]
def words1 : List Jvm.Cond := Jvm.Cond.code x code maxLocals ret :: tables_1
/-- a 'code' word, met by the world's own term for the bytes: nothing is compared byte by byte -/
theorem code_word {y : MethodName} {bytes : ByteArray} {mx : Nat} {rt : Option FieldType} {a : Array Value} {s : State} {m : MethodId} {meth : Method} {c : Code} (h1 : s.methodNamed? y = some m) (h2 : s.vm.method? m = some meth) (h3 : meth.code = some c) (h4 : c.code = bytes)
    (h5 : (c.maxLocals == mx && c.exceptionTable.isEmpty && decide (c.maxStack ≤ mostOperands) && decide (meth.sig.returnType = rt) && !meth.locks && decide (parseMethodDescriptor y.desc = some meth.sig)) = true) : (Jvm.Cond.code y bytes mx rt).before a s = true := by
  simp only [Bool.and_eq_true, beq_iff_eq, Bool.not_eq_true', decide_eq_true_eq] at h5
  obtain ⟨⟨⟨⟨⟨g1, g2⟩, g3⟩, g4⟩, g5⟩, g6⟩ := h5
  simp [Cond.before, Cond.holds, Cond.value, h1, h2, h3, h4, g1, g2, g3, g4, g5, g6]
def isCode : Jvm.Cond → Bool
  | .code _ _ _ _ => true
  | _ => false
theorem all_split {L : List Jvm.Cond} {P : Jvm.Cond → Bool} (h1 : L.all (fun c => isCode c || P c) = true) (h2 : ∀ c ∈ L.filter isCode, P c = true) : L.all P = true := by
  refine List.all_eq_true.mpr fun c hc => ?_
  have h := List.all_eq_true.mp h1 c hc
  rcases Bool.eq_false_or_eq_true (isCode c) with hi | hi
  · exact h2 c (List.mem_filter.mpr ⟨hc, hi⟩)
  · simpa [hi] using h
set_option maxRecDepth 65536 in
theorem w_c0 : (Jvm.Cond.code x code maxLocals ret).before args0 about1 = true := code_word (m := ⟨1, 1⟩) (meth := k1m1) (c := k1c1) (by decide +kernel) rfl rfl rfl (by decide +kernel)
set_option maxRecDepth 65536 in
theorem w_c1 : (Jvm.Cond.code ({ cls := "com/example/kestrel_query/kestrelquery/exec/DoubleSums", name := "<init>", desc := "()V" } : Jvm.MethodName) prog_45_method_1_code (1 : Nat) (Option.none : Option Jvm.ClassFile.FieldType)).before args0 about1 = true := code_word (m := ⟨2, 0⟩) (meth := k2m0) (c := k2c0) (by decide +kernel) rfl rfl rfl (by decide +kernel)
set_option maxRecDepth 65536 in
theorem w_c2 : (Jvm.Cond.code ({ cls := "java/lang/Object", name := "<init>", desc := "()V" } : Jvm.MethodName) object_method_1_code (1 : Nat) (Option.none : Option Jvm.ClassFile.FieldType)).before args0 about1 = true := code_word (m := ⟨0, 0⟩) (meth := k0m0) (c := k0c0) (by decide +kernel) rfl rfl rfl (by decide +kernel)
set_option maxRecDepth 65536 in
theorem w_c3 : (Jvm.Cond.code ({ cls := "com/example/kestrel_query/kestrelquery/exec/DoubleSums", name := "retainedBytes", desc := "()J" } : Jvm.MethodName) prog_45_method_3_code (3 : Nat) (Option.some Jvm.ClassFile.FieldType.long)).before args0 about1 = true := code_word (m := ⟨2, 2⟩) (meth := k2m2) (c := k2c2) (by decide +kernel) rfl rfl rfl (by decide +kernel)
set_option maxRecDepth 65536 in
theorem w_c4 : (Jvm.Cond.code ({ cls := "com/example/kestrel_query/kestrelquery/exec/DoubleSums", name := "grow", desc := "(I)V" } : Jvm.MethodName) prog_45_method_2_code (2 : Nat) (Option.none : Option Jvm.ClassFile.FieldType)).before args0 about1 = true := code_word (m := ⟨2, 1⟩) (meth := k2m1) (c := k2c1) (by decide +kernel) rfl rfl rfl (by decide +kernel)
set_option maxRecDepth 65536 in
theorem w_c5 : (Jvm.Cond.code ({ cls := "java/util/Arrays", name := "copyOf", desc := "([JI)[J" } : Jvm.MethodName) jdk_65_method_124_code (3 : Nat) (Option.some (Jvm.ClassFile.FieldType.array Jvm.ClassFile.FieldType.long))).before args0 about1 = true := code_word (m := ⟨3, 1⟩) (meth := k3m1) (c := k3c1) (by decide +kernel) rfl rfl rfl (by decide +kernel)
set_option maxRecDepth 65536 in
theorem w_c6 : (Jvm.Cond.code ({ cls := "java/lang/Math", name := "min", desc := "(II)I" } : Jvm.MethodName) jdk_29_method_69_code (2 : Nat) (Option.some Jvm.ClassFile.FieldType.int)).before args0 about1 = true := code_word (m := ⟨5, 1⟩) (meth := k5m1) (c := k5c1) (by decide +kernel) rfl rfl rfl (by decide +kernel)
def codes1 : List Jvm.Cond := [Jvm.Cond.code x code maxLocals ret, Jvm.Cond.code ({ cls := "com/example/kestrel_query/kestrelquery/exec/DoubleSums", name := "<init>", desc := "()V" } : Jvm.MethodName) prog_45_method_1_code (1 : Nat) (Option.none : Option Jvm.ClassFile.FieldType), Jvm.Cond.code ({ cls := "java/lang/Object", name := "<init>", desc := "()V" } : Jvm.MethodName) object_method_1_code (1 : Nat) (Option.none : Option Jvm.ClassFile.FieldType), Jvm.Cond.code ({ cls := "com/example/kestrel_query/kestrelquery/exec/DoubleSums", name := "retainedBytes", desc := "()J" } : Jvm.MethodName) prog_45_method_3_code (3 : Nat) (Option.some Jvm.ClassFile.FieldType.long), Jvm.Cond.code ({ cls := "com/example/kestrel_query/kestrelquery/exec/DoubleSums", name := "grow", desc := "(I)V" } : Jvm.MethodName) prog_45_method_2_code (2 : Nat) (Option.none : Option Jvm.ClassFile.FieldType), Jvm.Cond.code ({ cls := "java/util/Arrays", name := "copyOf", desc := "([JI)[J" } : Jvm.MethodName) jdk_65_method_124_code (3 : Nat) (Option.some (Jvm.ClassFile.FieldType.array Jvm.ClassFile.FieldType.long)), Jvm.Cond.code ({ cls := "java/lang/Math", name := "min", desc := "(II)I" } : Jvm.MethodName) jdk_29_method_69_code (2 : Nat) (Option.some Jvm.ClassFile.FieldType.int)]
set_option maxRecDepth 65536 in
theorem codes_eq : words1.filter isCode = codes1 := rfl
theorem w_codes : ∀ c ∈ words1.filter isCode, c.before args0 about1 = true := by
  rw [codes_eq]
  intro c hc
  simp only [codes1, List.mem_cons, List.not_mem_nil, or_false] at hc
  rcases hc with rfl | rfl | rfl | rfl | rfl | rfl | rfl
  · exact w_c0
  · exact w_c1
  · exact w_c2
  · exact w_c3
  · exact w_c4
  · exact w_c5
  · exact w_c6
set_option maxRecDepth 65536 in
theorem w_t1 : (words1.take 24).all (fun c => isCode c || c.before args0 about1) = true := by decide +kernel
set_option maxRecDepth 65536 in
theorem w_t2 : ((words1.drop 24).take 24).all (fun c => isCode c || c.before args0 about1) = true := by decide +kernel
set_option maxRecDepth 65536 in
theorem w_t3 : ((words1.drop 24).drop 24).all (fun c => isCode c || c.before args0 about1) = true := by decide +kernel
theorem w_tables : (allAtoms (Jvm.Cond.code x code maxLocals ret :: tables_1)).before args0 about1 = true := by
  rw [allAtoms_all]
  show words1.all (fun c => c.before args0 about1) = true
  refine all_split ?_ w_codes
  rw [← List.take_append_drop 24 words1, List.all_append, w_t1, ← List.take_append_drop 24 (words1.drop 24), List.all_append, w_t2, w_t3]
  rfl
set_option maxRecDepth 65536 in
theorem w_case : (Jvm.Cond.and given_1 narrow_1).before args0 about1 = true := by decide +kernel
theorem w_applies : (headSpec (Jvm.Cond.code x code maxLocals ret :: tables_1) room_1).applies x e0.platform about1 = true :=
  (Spec.applies_iff w_frames).mpr ⟨w_running, w_runnable, w_alone, w_named, w_hears, w_ripe, w_room, w_tables⟩
theorem atStart : AtStart classFile x code maxLocals ret World_1 tables_1 room_1 Calls_1 rest_1 Pre_1 launch0 p0 e0 about1 theMethod args0 below0 :=
  ⟨lists_1, trivial, launch0.admits_env _ _ _, launch0.least_env, fairChoices_fair.cas, fairChoices_fair.clock, w_frames, w_args, w_heap, w_applies, trivial, trivial, w_case⟩
end start1
theorem witness_1 : WitnessClaimed_1 := ⟨start1.p0, start1.e0, start1.about1, start1.theMethod, start1.args0, start1.below0, start1.atStart⟩
end Jvm.Pilot.@@N@@
