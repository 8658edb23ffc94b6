import JvmDerived
import JvmDerived.Pilot.@@N@@Statement
import JvmDerived.Pilot.@@N@@Code
set_option linter.unusedVariables false
set_option linter.unusedSimpArgs false

namespace Jvm.RoadKit
open Sem ClassFile Op Lib Jvm.Stand Jvm.Free Jvm.LawKit
section New
variable {p : Program} {l : Launch} {e : Env} {R : Room} {s : State} {m : MethodId} {args : Array Value} {below : List Frame} {meth : Method} {c : Code} {T : State} {locs : List Loc} {cells slots : Nat}
theorem retI (X : Stand p l e R s m args below meth c T locs cells slots) (hx : p.tables.exec = Jvm.exec) {pc : Nat} {Ls : Array Slot} {z : Int32} {rest : List Value} (hret : meth.sig.returnType = some .int) (hd : decode c.code pc = .ok (.ireturn, 1)) {fs : List Frame}
    (hl : ∀ (f : JFrame) (acts : List Action), f.method = m → f.locked = none → f.entered = [] → (doReturn e (T.setTop f) acts (some (.int z))).1 = T.setFrames fs) : Steps p.tables e below (T.setTop (mkF m pc Ls (.int z :: rest))) (T.setFrames fs) := by
  exact retOut X hx hret rfl (Or.inl ⟨rfl, Or.inl rfl, _, rfl⟩) hd hl
end New
end Jvm.RoadKit
namespace Jvm.Pilot.@@N@@
open Jvm Jvm.ClassFile Sem Op Lib Jvm.Free Jvm.Stand Jvm.LawKit Jvm.RoadKit Bundle Jvm.Pilot.@@N@@.Jvm.D
theorem own_ofNat {i : Nat} (h : i ≤ 41) : (Int32.ofNat i).toInt = i := Int32.toInt_ofNat_of_lt (by omega)
theorem own_shl {bk : Int32} {i : Nat} (h1 : 1 ≤ bk.toInt) (h2 : bk.toInt ≤ 1048576) (h : i ≤ 41) : (bk.toInt64 <<< (Int32.ofNat i &&& 0x3f).toInt64).toInt = bk.toInt * (2 ^ i : Nat) := by
  have e := c_lshl bk.toInt64 (Int32.ofNat i) i (by
    show (BitVec.ofNat 32 i).toNat % 64 = i
    rw [BitVec.toNat_ofNat]; omega)
  rw [c_i2l] at e
  have hp : (2 ^ i : Nat) ≤ 2 ^ 41 := Nat.pow_le_pow_right (by decide) h
  have hp0 : 0 < (2 ^ i : Nat) := Nat.pow_pos (by decide)
  have hr := rng64 (bk.toInt64 <<< (Int32.ofNat i &&& 0x3f).toInt64)
  have hm : bk.toInt * ((2 ^ i : Nat) : Int) ≤ 1048576 * 2199023255552 := by
    have a1 : bk.toInt * ((2 ^ i : Nat) : Int) ≤ 1048576 * ((2 ^ i : Nat) : Int) := Int.mul_le_mul_of_nonneg_right h2 (by omega)
    have a2 : (1048576 : Int) * ((2 ^ i : Nat) : Int) ≤ 1048576 * 2199023255552 := Int.mul_le_mul_of_nonneg_left (by
      have : (2 ^ 41 : Nat) = 2199023255552 := by decide
      omega) (by decide)
    omega
  have hm0 : 0 ≤ bk.toInt * ((2 ^ i : Nat) : Int) := Int.mul_nonneg (by omega) (by omega)
  omega
theorem own_bk (p : Int32) : 1 ≤ ((p &&& (1048575 : Int32)) + (1 : Int32)).toInt ∧ ((p &&& (1048575 : Int32)) + (1 : Int32)).toInt ≤ 1048576 := by
  have e := c_mask p 1048575 20 (by decide) (by decide)
  have e2 := c_iadd (p &&& (1048575 : Int32)) 1
  have e3 : (1 : Int32).toInt = 1 := rfl
  have e4 := rng32 ((p &&& (1048575 : Int32)) + (1 : Int32))
  omega
theorem own_keys (q : Int64) : 0 ≤ (q &&& (2199023255551 : Int64)).toInt ∧ (q &&& (2199023255551 : Int64)).toInt < 2199023255552 := by
  have e := c_maskL q 2199023255551 41 (by decide) (by decide)
  omega
theorem own_b0 {b : Nat} (h : b ≤ 41) : ¬ ((Int32.ofNat b) < (0 : Int32)) := by
  have e := own_ofNat h
  simp only [Int32.lt_iff_toInt_lt, Int32.reduceToInt, e]; omega
theorem own_b1 {b : Nat} (h : b ≤ 41) : ¬ ((41 : Int32) < (Int32.ofNat b)) := by
  have e := own_ofNat h
  simp only [Int32.lt_iff_toInt_lt, Int32.reduceToInt, e]; omega
theorem own_b2 {bk : Int32} {q : Int64} {b : Nat} (h1 : 1 ≤ bk.toInt) (h2 : bk.toInt ≤ 1048576) (h : b ≤ 41) (h3 : q.toInt ≤ bk.toInt * (2 ^ b : Nat)) : ¬ (((bk.toInt64) <<< ((Int32.ofNat b) &&& 0x3f).toInt64) < q) := by
  have e := own_shl h1 h2 h
  rw [Int64.lt_iff_toInt_lt, e]; omega
theorem own_b3 {bk : Int32} {q : Int64} {b : Nat} (h1 : 1 ≤ bk.toInt) (h2 : bk.toInt ≤ 1048576) (h : b ≤ 41) (h3 : ∀ j, j + 1 = b → bk.toInt * (2 ^ j : Nat) < q.toInt) (hz : ¬ ((Int32.ofNat b) = (0 : Int32))) : ((bk.toInt64) <<< (((Int32.ofNat b) - (1 : Int32)) &&& 0x3f).toInt64) < q := by
  have hb : b ≠ 0 := fun e => hz (by rw [e]; rfl)
  obtain ⟨j, rfl⟩ : ∃ j, b = j + 1 := ⟨b - 1, by omega⟩
  have e0 : Int32.ofNat (j + 1) - (1 : Int32) = Int32.ofNat j := by
    apply Int32.toInt_inj.mp
    have a1 := own_ofNat h
    have a2 := own_ofNat (show j ≤ 41 by omega)
    have a3 := c_isub (Int32.ofNat (j + 1)) 1
    have a4 : (1 : Int32).toInt = 1 := rfl
    have a5 := rng32 (Int32.ofNat (j + 1) - 1)
    omega
  rw [e0]
  have e := own_shl h1 h2 (show j ≤ 41 by omega)
  rw [Int64.lt_iff_toInt_lt, e]; exact h3 j rfl
theorem d2_0 : decode jdk_30_method_1_code 0 = .ok (.aload_n 0, 1) := by decide +kernel
theorem d2_1 : decode jdk_30_method_1_code 1 = .ok (.invokespecial 1, 3) := by decide +kernel
theorem d2_4 : decode jdk_30_method_1_code 4 = .ok (.return_, 1) := by decide +kernel
theorem pn_java_lang_Record : plainName "java/lang/Record" = true := by first | (simp [plainName, overriddenIn]; done) | decide +kernel
theorem ef_rm_rec (m : MethodId) (x0 : Addr) : entryFrame m #[(.ref x0)] 1 = mkF m 0 #[.val (.ref x0)] [] := by first | (simp [entryFrame, mkF, argsToLocals, Value.category]; done) | rfl
def Q_rm_rec (Z : State) (a1 : Addr) (h0 : Heap) (n0 : Nat) (v : Option Value) (h : Heap) (L : List Loc) : Prop := v = none ∧ Fr n0 L ∧ h = h0
set_option maxRecDepth 65536 in
set_option maxHeartbeats 40000000 in
theorem rm_rec (l : Launch) (Z : State) (a0 : Array Value) (hw : ∀ d ∈ tables_1, d.before a0 Z = true) (ws : List Jvm.Cond) (a1 : Addr) (h0 : Heap) (n0 : Nat) (Z0 : n0 ≤ h0.size) :
    MetFree l (⟨"java/lang/Record", "<init>", "()V"⟩ : MethodName) (head1 (Jvm.Cond.code (⟨"java/lang/Record", "<init>", "()V"⟩ : MethodName) jdk_30_method_1_code 1 none :: ws) ({ frames := 1, cells := 0, slots := 0, locals := 12 } : Room)) (fun a U => a = #[(.ref a1)] ∧ Z.Warmed39 U.vm ∧ U.heap = h0) (fun _ _ _ _ _ => True) (fun _ U o U' => ∃ v L, o = .returned v ∧ Q_rm_rec Z a1 h0 n0 v U'.heap L ∧ FrameEnd U o U' L ({ frames := 1, cells := 0, slots := 0, locals := 12 } : Room).cells ({ frames := 1, cells := 0, slots := 0, locals := 12 } : Room).slots) := by
  refine MetFree.of_bodySF (plainFor_of_name pn_java_lang_Record) hisR ?_
  intro p e s m args below meth c s₁ Bd hml0 hP hK
  obtain ⟨rfl, hZ, hh⟩ := hP
  have hx := Bd.exec
  have hby := Bd.bytes
  have hml : c.maxLocals = 1 := hml0
  have hown : s.vm.findClass "java/lang/Record" = some m.cls := findClass_of_methodNamed Bd.named
  have hnm := (name_of_methodNamed Bd.named Bd.method).1
  have X0 : Stand p l e ({ frames := 1, cells := 0, slots := 0, locals := 12 } : Room) s m #[(.ref a1)] below meth c s₁ [] 0 0 := Stand.of_body Bd
  have e0 : s₁.heap = h0 := by rw [← hh, Bd.state]; rfl
  have N0 := Fr.nil n0
  have pre0 : ∀ t, Steps p.tables e below (s₁.setTop (mkF m 0 #[.val (.ref a1)] [])) t → Steps p.tables e below (s₁.setTop (entryFrame m #[(.ref a1)] 1)) t := fun t k => castTop (ef_rm_rec m a1) k
  obtain ⟨T1, X1, e1, st1⟩ := initO X0 hx hZ hown (hw _ (List.mem_of_getElem? (i := 13) rfl)) (hw _ (List.mem_of_getElem? (i := 14) rfl)) (hw _ (List.mem_of_getElem? (i := 15) rfl)) e0 (g := (mkF m 1 #[.val (.ref a1)] [(.ref a1)])) rfl (by rw [hml]; rfl) rfl (hb hby d2_1) (by decide) (W := 0) (by show 2 * 0 + _ ≤ _; exact Nat.le_of_eq rfl) (by decide)
  obtain ⟨fs, hr, hrun, hended, hW, hsame⟩ := X1.leave (v := none) (fun _ => rfl)
  refine ⟨_, _, pre0 _ ?_, hrun, hended, _, _, rfl, ?_, ⟨_, rfl⟩, hW, hsame.mono (by decide) (by decide)⟩
  · show Steps p.tables e below (s₁.setTop (mkF m 0 #[.val (.ref a1)] [])) _
    refine XS.aloadN X0.here hx rfl (hb hby d2_0) rfl rfl ?_
    show Steps p.tables e below (s₁.setTop (mkF m 1 #[.val (.ref a1)] [(.ref a1)])) _
    refine st1 _ ?_
    show Steps p.tables e below (T1.setTop (mkF m 4 #[.val (.ref a1)] [])) _
    exact X1.returnOut hx Bd.returns (hb hby d2_4) hr
  · show Q_rm_rec Z a1 h0 n0 _ T1.heap _
    rw [e1]
    exact ⟨rfl, N0, rfl⟩
theorem d1_0 : decode prog_57_method_1_code 0 = .ok (.aload_n 0, 1) := by decide +kernel
theorem d1_1 : decode prog_57_method_1_code 1 = .ok (.invokespecial 1, 3) := by decide +kernel
theorem pd__40_41V : parseMethodDescriptor "()V" = some ⟨[], none⟩ := by decide +kernel
theorem d1_4 : decode prog_57_method_1_code 4 = .ok (.aload_n 0, 1) := by decide +kernel
theorem d1_5 : decode prog_57_method_1_code 5 = .ok (.iload_n 1, 1) := by decide +kernel
theorem d1_6 : decode prog_57_method_1_code 6 = .ok (.putfield 7, 3) := by decide +kernel
theorem d1_9 : decode prog_57_method_1_code 9 = .ok (.aload_n 0, 1) := by decide +kernel
theorem d1_10 : decode prog_57_method_1_code 10 = .ok (.iload_n 2, 1) := by decide +kernel
theorem d1_11 : decode prog_57_method_1_code 11 = .ok (.putfield 13, 3) := by decide +kernel
theorem d1_14 : decode prog_57_method_1_code 14 = .ok (.aload_n 0, 1) := by decide +kernel
theorem d1_15 : decode prog_57_method_1_code 15 = .ok (.iload_n 3, 1) := by decide +kernel
theorem d1_16 : decode prog_57_method_1_code 16 = .ok (.putfield 16, 3) := by decide +kernel
theorem d1_19 : decode prog_57_method_1_code 19 = .ok (.aload_n 0, 1) := by decide +kernel
theorem d1_20 : decode prog_57_method_1_code 20 = .ok (.iload 4, 2) := by decide +kernel
theorem d1_22 : decode prog_57_method_1_code 22 = .ok (.putfield 19, 3) := by decide +kernel
theorem d1_25 : decode prog_57_method_1_code 25 = .ok (.aload_n 0, 1) := by decide +kernel
theorem d1_26 : decode prog_57_method_1_code 26 = .ok (.iload 5, 2) := by decide +kernel
theorem d1_28 : decode prog_57_method_1_code 28 = .ok (.putfield 22, 3) := by decide +kernel
theorem d1_31 : decode prog_57_method_1_code 31 = .ok (.aload_n 0, 1) := by decide +kernel
theorem d1_32 : decode prog_57_method_1_code 32 = .ok (.iload 6, 2) := by decide +kernel
theorem d1_34 : decode prog_57_method_1_code 34 = .ok (.putfield 25, 3) := by decide +kernel
theorem d1_37 : decode prog_57_method_1_code 37 = .ok (.return_, 1) := by decide +kernel
theorem pn_com_example_allotd_allotd_store_CountedRequests_Compaction : plainName "com/example/allotd/allotd/store/CountedRequests$Compaction" = true := by first | (simp [plainName, overriddenIn]; done) | decide +kernel
theorem ef_rm_ini (m : MethodId) (x0 : Addr) (x1 : Int32) (x2 : Int32) (x3 : Int32) (x4 : Int32) (x5 : Int32) (x6 : Int32) : entryFrame m #[(.ref x0), (.int x1), (.int x2), (.int x3), (.int x4), (.int x5), (.int x6)] 7 = mkF m 0 #[.val (.ref x0), .val (.int x1), .val (.int x2), .val (.int x3), .val (.int x4), .val (.int x5), .val (.int x6)] [] := by first | (simp [entryFrame, mkF, argsToLocals, Value.category]; done) | rfl
def Q_rm_ini (Z : State) (a1 : Addr) (p2 : Int32) (p3 : Int32) (p4 : Int32) (p5 : Int32) (p6 : Int32) (p7 : Int32) (v0 : Value) (v1 : Value) (v2 : Value) (v3 : Value) (v4 : Value) (v5 : Value) (h0 : Heap) (n0 : Nat) (v : Option Value) (h : Heap) (L : List Loc) : Prop := v = none ∧ Fr n0 L ∧ Keep h0 h [a1] ∧ (Fld Z h a1 "com/example/allotd/allotd/store/CountedRequests$Compaction" "bucketKeys" "I" (.int p7))
set_option maxRecDepth 65536 in
set_option maxHeartbeats 40000000 in
theorem rm_ini (l : Launch) (Z : State) (a0 : Array Value) (hw : ∀ d ∈ tables_1, d.before a0 Z = true) (ws : List Jvm.Cond) (a1 : Addr) (p2 : Int32) (p3 : Int32) (p4 : Int32) (p5 : Int32) (p6 : Int32) (p7 : Int32) (v0 : Value) (v1 : Value) (v2 : Value) (v3 : Value) (v4 : Value) (v5 : Value) (h0 : Heap) (n0 : Nat) (Z0 : n0 ≤ h0.size) (pr0 : Exa Z h0 a1 "com/example/allotd/allotd/store/CountedRequests$Compaction") (pr1 : Fld Z h0 a1 "com/example/allotd/allotd/store/CountedRequests$Compaction" "every" "I" v0) (pr2 : Fld Z h0 a1 "com/example/allotd/allotd/store/CountedRequests$Compaction" "sealAt" "I" v1) (pr3 : Fld Z h0 a1 "com/example/allotd/allotd/store/CountedRequests$Compaction" "sealAtMost" "I" v2) (pr4 : Fld Z h0 a1 "com/example/allotd/allotd/store/CountedRequests$Compaction" "mergeWidth" "I" v3) (pr5 : Fld Z h0 a1 "com/example/allotd/allotd/store/CountedRequests$Compaction" "stepKeys" "I" v4) (pr6 : Fld Z h0 a1 "com/example/allotd/allotd/store/CountedRequests$Compaction" "bucketKeys" "I" v5) (pr7 : n0 ≤ a1) :
    MetFree l (⟨"com/example/allotd/allotd/store/CountedRequests$Compaction", "<init>", "(IIIIII)V"⟩ : MethodName) (head1 (Jvm.Cond.code (⟨"com/example/allotd/allotd/store/CountedRequests$Compaction", "<init>", "(IIIIII)V"⟩ : MethodName) prog_57_method_1_code 7 none :: ws) ({ frames := 2, cells := 0, slots := 0, locals := 24 } : Room)) (fun a U => a = #[(.ref a1), (.int p2), (.int p3), (.int p4), (.int p5), (.int p6), (.int p7)] ∧ Z.Warmed39 U.vm ∧ U.heap = h0) (fun _ _ _ _ _ => True) (fun _ U o U' => ∃ v L, o = .returned v ∧ Q_rm_ini Z a1 p2 p3 p4 p5 p6 p7 v0 v1 v2 v3 v4 v5 h0 n0 v U'.heap L ∧ FrameEnd U o U' L ({ frames := 2, cells := 0, slots := 0, locals := 24 } : Room).cells ({ frames := 2, cells := 0, slots := 0, locals := 24 } : Room).slots) := by
  refine MetFree.of_bodySF (plainFor_of_name pn_com_example_allotd_allotd_store_CountedRequests_Compaction) hisR ?_
  intro p e s m args below meth c s₁ Bd hml0 hP hK
  obtain ⟨rfl, hZ, hh⟩ := hP
  have hx := Bd.exec
  have hby := Bd.bytes
  have hml : c.maxLocals = 7 := hml0
  have hown : s.vm.findClass "com/example/allotd/allotd/store/CountedRequests$Compaction" = some m.cls := findClass_of_methodNamed Bd.named
  have hnm := (name_of_methodNamed Bd.named Bd.method).1
  have X0 : Stand p l e ({ frames := 2, cells := 0, slots := 0, locals := 24 } : Room) s m #[(.ref a1), (.int p2), (.int p3), (.int p4), (.int p5), (.int p6), (.int p7)] below meth c s₁ [] 0 0 := Stand.of_body Bd
  have e0 : s₁.heap = h0 := by rw [← hh, Bd.state]; rfl
  have N0 := Fr.nil n0
  have pre0 : ∀ t, Steps p.tables e below (s₁.setTop (mkF m 0 #[.val (.ref a1), .val (.int p2), .val (.int p3), .val (.int p4), .val (.int p5), .val (.int p6), .val (.int p7)] [])) t → Steps p.tables e below (s₁.setTop (entryFrame m #[(.ref a1), (.int p2), (.int p3), (.int p4), (.int p5), (.int p6), (.int p7)] 7)) t := fun t k => castTop (ef_rm_ini m a1 p2 p3 p4 p5 p6 p7) k
  obtain ⟨_, _, ⟨T1, L1, k1, n1⟩, -, X1, ⟨Lc1, hQ1, l1, y1, z1⟩, st1⟩ := X0.specialBack hx (y := (⟨"java/lang/Record", "<init>", "()V"⟩ : MethodName)) rfl hown (mvT hZ (hw _ (List.mem_of_getElem? (i := 8) rfl))) (mvT hZ (hw _ (List.mem_of_getElem? (i := 9) rfl))) (mvT hZ (hw _ (List.mem_of_getElem? (i := 12) rfl))) (by decide) (backOf (W := 0) (rm_rec l Z a0 hw [] a1 h0 n0 Z0) hZ (hw _ (List.mem_of_getElem? (i := 12) rfl)) (hw _ (List.mem_of_getElem? (i := 11) rfl)) (by decide) (by decide)) (g := (mkF m 1 #[.val (.ref a1), .val (.int p2), .val (.int p3), .val (.int p4), .val (.int p5), .val (.int p6), .val (.int p7)] [(.ref a1)])) rfl (by rw [hml]; rfl) (Steps.refl _) (a := a1) (argsL := []) (rest := []) (lenOf pd__40_41V rfl) rfl (by show 2 * 0 + _ ≤ _; exact Nat.le_of_eq rfl) (hb hby d1_1) (fun _ _ => ⟨rfl, e0, (by decide : 0 + 0 ≤ _), (by decide : 0 + 0 ≤ _)⟩)
  dsimp only [Pt.U, Pt.locs, Pt.cells, Pt.slots] at X1 l1 y1 z1 st1 hQ1
  subst l1 y1 z1
  obtain ⟨rfl, Nq1, e1⟩ := hQ1
  have N1 := Fr.app N0 Nq1
  obtain ⟨T2, h2, X2, e2, W2, st2⟩ := putF X1 hx hZ hown (host := "") (Or.inl (hw _ (List.mem_of_getElem? (i := 16) rfl))) Via.refl e1 pr1 pr0 (Or.inr ⟨(hw _ (List.mem_of_getElem? (i := 17) rfl)), rfl, hnm⟩) (hw _ (List.mem_of_getElem? (i := 3) rfl)) (ty := .int) (by decide) rfl rfl (g := (mkF m 6 #[.val (.ref a1), .val (.int p2), .val (.int p3), .val (.int p4), .val (.int p5), .val (.int p6), .val (.int p7)] [(.int p2), (.ref a1)])) rfl rfl (hb hby d1_6)
  have N2 := Fr.snoc X2 N1 pr7
  have f2 : Fld Z h2 a1 "com/example/allotd/allotd/store/CountedRequests$Compaction" "every" "I" (.int p2) := pr1.same W2
  have K3 : Keep h0 h2 [a1] := (Keep.refl h0 [a1]).wr W2 (Or.inl (List.mem_of_getElem? (i := 0) rfl))
  have f4 : Fld Z h2 a1 "com/example/allotd/allotd/store/CountedRequests$Compaction" "sealAt" "I" v1 := (pr2.other W2 (Or.inr (slot_ne (Or.inr (hw _ (List.mem_of_getElem? (i := 19) rfl))) (Or.inr (hw _ (List.mem_of_getElem? (i := 17) rfl))) (by decide) (t := .int) (t' := .int) (by decide) (by decide))))
  have f5 : Exa Z h2 a1 "com/example/allotd/allotd/store/CountedRequests$Compaction" := (pr0.wr W2)
  obtain ⟨T6, h6, X6, e6, W6, st6⟩ := putF X2 hx hZ hown (host := "") (Or.inl (hw _ (List.mem_of_getElem? (i := 18) rfl))) Via.refl e2 f4 f5 (Or.inr ⟨(hw _ (List.mem_of_getElem? (i := 19) rfl)), rfl, hnm⟩) (hw _ (List.mem_of_getElem? (i := 3) rfl)) (ty := .int) (by decide) rfl rfl (g := (mkF m 11 #[.val (.ref a1), .val (.int p2), .val (.int p3), .val (.int p4), .val (.int p5), .val (.int p6), .val (.int p7)] [(.int p3), (.ref a1)])) rfl rfl (hb hby d1_11)
  have N6 := Fr.snoc X6 N2 pr7
  have f6 : Fld Z h6 a1 "com/example/allotd/allotd/store/CountedRequests$Compaction" "sealAt" "I" (.int p3) := f4.same W6
  have K7 : Keep h0 h6 [a1] := K3.wr W6 (Or.inl (List.mem_of_getElem? (i := 0) rfl))
  have f8 : Fld Z h6 a1 "com/example/allotd/allotd/store/CountedRequests$Compaction" "sealAtMost" "I" v2 := ((pr3.other W2 (Or.inr (slot_ne (Or.inr (hw _ (List.mem_of_getElem? (i := 21) rfl))) (Or.inr (hw _ (List.mem_of_getElem? (i := 17) rfl))) (by decide) (t := .int) (t' := .int) (by decide) (by decide)))).other W6 (Or.inr (slot_ne (Or.inr (hw _ (List.mem_of_getElem? (i := 21) rfl))) (Or.inr (hw _ (List.mem_of_getElem? (i := 19) rfl))) (by decide) (t := .int) (t' := .int) (by decide) (by decide))))
  have f9 : Exa Z h6 a1 "com/example/allotd/allotd/store/CountedRequests$Compaction" := (f5.wr W6)
  obtain ⟨T10, h10, X10, e10, W10, st10⟩ := putF X6 hx hZ hown (host := "") (Or.inl (hw _ (List.mem_of_getElem? (i := 20) rfl))) Via.refl e6 f8 f9 (Or.inr ⟨(hw _ (List.mem_of_getElem? (i := 21) rfl)), rfl, hnm⟩) (hw _ (List.mem_of_getElem? (i := 3) rfl)) (ty := .int) (by decide) rfl rfl (g := (mkF m 16 #[.val (.ref a1), .val (.int p2), .val (.int p3), .val (.int p4), .val (.int p5), .val (.int p6), .val (.int p7)] [(.int p4), (.ref a1)])) rfl rfl (hb hby d1_16)
  have N10 := Fr.snoc X10 N6 pr7
  have f10 : Fld Z h10 a1 "com/example/allotd/allotd/store/CountedRequests$Compaction" "sealAtMost" "I" (.int p4) := f8.same W10
  have K11 : Keep h0 h10 [a1] := K7.wr W10 (Or.inl (List.mem_of_getElem? (i := 0) rfl))
  have f12 : Fld Z h10 a1 "com/example/allotd/allotd/store/CountedRequests$Compaction" "mergeWidth" "I" v3 := (((pr4.other W2 (Or.inr (slot_ne (Or.inr (hw _ (List.mem_of_getElem? (i := 23) rfl))) (Or.inr (hw _ (List.mem_of_getElem? (i := 17) rfl))) (by decide) (t := .int) (t' := .int) (by decide) (by decide)))).other W6 (Or.inr (slot_ne (Or.inr (hw _ (List.mem_of_getElem? (i := 23) rfl))) (Or.inr (hw _ (List.mem_of_getElem? (i := 19) rfl))) (by decide) (t := .int) (t' := .int) (by decide) (by decide)))).other W10 (Or.inr (slot_ne (Or.inr (hw _ (List.mem_of_getElem? (i := 23) rfl))) (Or.inr (hw _ (List.mem_of_getElem? (i := 21) rfl))) (by decide) (t := .int) (t' := .int) (by decide) (by decide))))
  have f13 : Exa Z h10 a1 "com/example/allotd/allotd/store/CountedRequests$Compaction" := (f9.wr W10)
  obtain ⟨T14, h14, X14, e14, W14, st14⟩ := putF X10 hx hZ hown (host := "") (Or.inl (hw _ (List.mem_of_getElem? (i := 22) rfl))) Via.refl e10 f12 f13 (Or.inr ⟨(hw _ (List.mem_of_getElem? (i := 23) rfl)), rfl, hnm⟩) (hw _ (List.mem_of_getElem? (i := 3) rfl)) (ty := .int) (by decide) rfl rfl (g := (mkF m 22 #[.val (.ref a1), .val (.int p2), .val (.int p3), .val (.int p4), .val (.int p5), .val (.int p6), .val (.int p7)] [(.int p5), (.ref a1)])) rfl rfl (hb hby d1_22)
  have N14 := Fr.snoc X14 N10 pr7
  have f14 : Fld Z h14 a1 "com/example/allotd/allotd/store/CountedRequests$Compaction" "mergeWidth" "I" (.int p5) := f12.same W14
  have K15 : Keep h0 h14 [a1] := K11.wr W14 (Or.inl (List.mem_of_getElem? (i := 0) rfl))
  have f16 : Fld Z h14 a1 "com/example/allotd/allotd/store/CountedRequests$Compaction" "stepKeys" "I" v4 := ((((pr5.other W2 (Or.inr (slot_ne (Or.inr (hw _ (List.mem_of_getElem? (i := 25) rfl))) (Or.inr (hw _ (List.mem_of_getElem? (i := 17) rfl))) (by decide) (t := .int) (t' := .int) (by decide) (by decide)))).other W6 (Or.inr (slot_ne (Or.inr (hw _ (List.mem_of_getElem? (i := 25) rfl))) (Or.inr (hw _ (List.mem_of_getElem? (i := 19) rfl))) (by decide) (t := .int) (t' := .int) (by decide) (by decide)))).other W10 (Or.inr (slot_ne (Or.inr (hw _ (List.mem_of_getElem? (i := 25) rfl))) (Or.inr (hw _ (List.mem_of_getElem? (i := 21) rfl))) (by decide) (t := .int) (t' := .int) (by decide) (by decide)))).other W14 (Or.inr (slot_ne (Or.inr (hw _ (List.mem_of_getElem? (i := 25) rfl))) (Or.inr (hw _ (List.mem_of_getElem? (i := 23) rfl))) (by decide) (t := .int) (t' := .int) (by decide) (by decide))))
  have f17 : Exa Z h14 a1 "com/example/allotd/allotd/store/CountedRequests$Compaction" := (f13.wr W14)
  obtain ⟨T18, h18, X18, e18, W18, st18⟩ := putF X14 hx hZ hown (host := "") (Or.inl (hw _ (List.mem_of_getElem? (i := 24) rfl))) Via.refl e14 f16 f17 (Or.inr ⟨(hw _ (List.mem_of_getElem? (i := 25) rfl)), rfl, hnm⟩) (hw _ (List.mem_of_getElem? (i := 3) rfl)) (ty := .int) (by decide) rfl rfl (g := (mkF m 28 #[.val (.ref a1), .val (.int p2), .val (.int p3), .val (.int p4), .val (.int p5), .val (.int p6), .val (.int p7)] [(.int p6), (.ref a1)])) rfl rfl (hb hby d1_28)
  have N18 := Fr.snoc X18 N14 pr7
  have f18 : Fld Z h18 a1 "com/example/allotd/allotd/store/CountedRequests$Compaction" "stepKeys" "I" (.int p6) := f16.same W18
  have K19 : Keep h0 h18 [a1] := K15.wr W18 (Or.inl (List.mem_of_getElem? (i := 0) rfl))
  have f20 : Fld Z h18 a1 "com/example/allotd/allotd/store/CountedRequests$Compaction" "bucketKeys" "I" v5 := (((((pr6.other W2 (Or.inr (slot_ne (Or.inr (hw _ (List.mem_of_getElem? (i := 27) rfl))) (Or.inr (hw _ (List.mem_of_getElem? (i := 17) rfl))) (by decide) (t := .int) (t' := .int) (by decide) (by decide)))).other W6 (Or.inr (slot_ne (Or.inr (hw _ (List.mem_of_getElem? (i := 27) rfl))) (Or.inr (hw _ (List.mem_of_getElem? (i := 19) rfl))) (by decide) (t := .int) (t' := .int) (by decide) (by decide)))).other W10 (Or.inr (slot_ne (Or.inr (hw _ (List.mem_of_getElem? (i := 27) rfl))) (Or.inr (hw _ (List.mem_of_getElem? (i := 21) rfl))) (by decide) (t := .int) (t' := .int) (by decide) (by decide)))).other W14 (Or.inr (slot_ne (Or.inr (hw _ (List.mem_of_getElem? (i := 27) rfl))) (Or.inr (hw _ (List.mem_of_getElem? (i := 23) rfl))) (by decide) (t := .int) (t' := .int) (by decide) (by decide)))).other W18 (Or.inr (slot_ne (Or.inr (hw _ (List.mem_of_getElem? (i := 27) rfl))) (Or.inr (hw _ (List.mem_of_getElem? (i := 25) rfl))) (by decide) (t := .int) (t' := .int) (by decide) (by decide))))
  have f21 : Exa Z h18 a1 "com/example/allotd/allotd/store/CountedRequests$Compaction" := (f17.wr W18)
  obtain ⟨T22, h22, X22, e22, W22, st22⟩ := putF X18 hx hZ hown (host := "") (Or.inl (hw _ (List.mem_of_getElem? (i := 26) rfl))) Via.refl e18 f20 f21 (Or.inr ⟨(hw _ (List.mem_of_getElem? (i := 27) rfl)), rfl, hnm⟩) (hw _ (List.mem_of_getElem? (i := 3) rfl)) (ty := .int) (by decide) rfl rfl (g := (mkF m 34 #[.val (.ref a1), .val (.int p2), .val (.int p3), .val (.int p4), .val (.int p5), .val (.int p6), .val (.int p7)] [(.int p7), (.ref a1)])) rfl rfl (hb hby d1_34)
  have N22 := Fr.snoc X22 N18 pr7
  have f22 : Fld Z h22 a1 "com/example/allotd/allotd/store/CountedRequests$Compaction" "bucketKeys" "I" (.int p7) := f20.same W22
  have K23 : Keep h0 h22 [a1] := K19.wr W22 (Or.inl (List.mem_of_getElem? (i := 0) rfl))
  obtain ⟨fs, hr, hrun, hended, hW, hsame⟩ := X22.leave (v := none) (fun _ => rfl)
  refine ⟨_, _, pre0 _ ?_, hrun, hended, _, _, rfl, ?_, ⟨_, rfl⟩, hW, hsame.mono (by decide) (by decide)⟩
  · show Steps p.tables e below (s₁.setTop (mkF m 0 #[.val (.ref a1), .val (.int p2), .val (.int p3), .val (.int p4), .val (.int p5), .val (.int p6), .val (.int p7)] [])) _
    refine XS.aloadN X0.here hx rfl (hb hby d1_0) rfl rfl ?_
    show Steps p.tables e below (s₁.setTop (mkF m 1 #[.val (.ref a1), .val (.int p2), .val (.int p3), .val (.int p4), .val (.int p5), .val (.int p6), .val (.int p7)] [(.ref a1)])) _
    refine st1.trans ?_
    show Steps p.tables e below (T1.setTop (mkF m 4 #[.val (.ref a1), .val (.int p2), .val (.int p3), .val (.int p4), .val (.int p5), .val (.int p6), .val (.int p7)] [])) _
    refine XS.aloadN X1.here hx rfl (hb hby d1_4) rfl rfl ?_
    show Steps p.tables e below (T1.setTop (mkF m 5 #[.val (.ref a1), .val (.int p2), .val (.int p3), .val (.int p4), .val (.int p5), .val (.int p6), .val (.int p7)] [(.ref a1)])) _
    refine XS.iloadN X1.here hx rfl (hb hby d1_5) rfl ?_
    show Steps p.tables e below (T1.setTop (mkF m 6 #[.val (.ref a1), .val (.int p2), .val (.int p3), .val (.int p4), .val (.int p5), .val (.int p6), .val (.int p7)] [(.int p2), (.ref a1)])) _
    refine st2 _ ?_
    show Steps p.tables e below (T2.setTop (mkF m 9 #[.val (.ref a1), .val (.int p2), .val (.int p3), .val (.int p4), .val (.int p5), .val (.int p6), .val (.int p7)] [])) _
    refine XS.aloadN X2.here hx rfl (hb hby d1_9) rfl rfl ?_
    show Steps p.tables e below (T2.setTop (mkF m 10 #[.val (.ref a1), .val (.int p2), .val (.int p3), .val (.int p4), .val (.int p5), .val (.int p6), .val (.int p7)] [(.ref a1)])) _
    refine XS.iloadN X2.here hx rfl (hb hby d1_10) rfl ?_
    show Steps p.tables e below (T2.setTop (mkF m 11 #[.val (.ref a1), .val (.int p2), .val (.int p3), .val (.int p4), .val (.int p5), .val (.int p6), .val (.int p7)] [(.int p3), (.ref a1)])) _
    refine st6 _ ?_
    show Steps p.tables e below (T6.setTop (mkF m 14 #[.val (.ref a1), .val (.int p2), .val (.int p3), .val (.int p4), .val (.int p5), .val (.int p6), .val (.int p7)] [])) _
    refine XS.aloadN X6.here hx rfl (hb hby d1_14) rfl rfl ?_
    show Steps p.tables e below (T6.setTop (mkF m 15 #[.val (.ref a1), .val (.int p2), .val (.int p3), .val (.int p4), .val (.int p5), .val (.int p6), .val (.int p7)] [(.ref a1)])) _
    refine XS.iloadN X6.here hx rfl (hb hby d1_15) rfl ?_
    show Steps p.tables e below (T6.setTop (mkF m 16 #[.val (.ref a1), .val (.int p2), .val (.int p3), .val (.int p4), .val (.int p5), .val (.int p6), .val (.int p7)] [(.int p4), (.ref a1)])) _
    refine st10 _ ?_
    show Steps p.tables e below (T10.setTop (mkF m 19 #[.val (.ref a1), .val (.int p2), .val (.int p3), .val (.int p4), .val (.int p5), .val (.int p6), .val (.int p7)] [])) _
    refine XS.aloadN X10.here hx rfl (hb hby d1_19) rfl rfl ?_
    show Steps p.tables e below (T10.setTop (mkF m 20 #[.val (.ref a1), .val (.int p2), .val (.int p3), .val (.int p4), .val (.int p5), .val (.int p6), .val (.int p7)] [(.ref a1)])) _
    refine XS.iload X10.here hx rfl (hb hby d1_20) rfl ?_
    show Steps p.tables e below (T10.setTop (mkF m 22 #[.val (.ref a1), .val (.int p2), .val (.int p3), .val (.int p4), .val (.int p5), .val (.int p6), .val (.int p7)] [(.int p5), (.ref a1)])) _
    refine st14 _ ?_
    show Steps p.tables e below (T14.setTop (mkF m 25 #[.val (.ref a1), .val (.int p2), .val (.int p3), .val (.int p4), .val (.int p5), .val (.int p6), .val (.int p7)] [])) _
    refine XS.aloadN X14.here hx rfl (hb hby d1_25) rfl rfl ?_
    show Steps p.tables e below (T14.setTop (mkF m 26 #[.val (.ref a1), .val (.int p2), .val (.int p3), .val (.int p4), .val (.int p5), .val (.int p6), .val (.int p7)] [(.ref a1)])) _
    refine XS.iload X14.here hx rfl (hb hby d1_26) rfl ?_
    show Steps p.tables e below (T14.setTop (mkF m 28 #[.val (.ref a1), .val (.int p2), .val (.int p3), .val (.int p4), .val (.int p5), .val (.int p6), .val (.int p7)] [(.int p6), (.ref a1)])) _
    refine st18 _ ?_
    show Steps p.tables e below (T18.setTop (mkF m 31 #[.val (.ref a1), .val (.int p2), .val (.int p3), .val (.int p4), .val (.int p5), .val (.int p6), .val (.int p7)] [])) _
    refine XS.aloadN X18.here hx rfl (hb hby d1_31) rfl rfl ?_
    show Steps p.tables e below (T18.setTop (mkF m 32 #[.val (.ref a1), .val (.int p2), .val (.int p3), .val (.int p4), .val (.int p5), .val (.int p6), .val (.int p7)] [(.ref a1)])) _
    refine XS.iload X18.here hx rfl (hb hby d1_32) rfl ?_
    show Steps p.tables e below (T18.setTop (mkF m 34 #[.val (.ref a1), .val (.int p2), .val (.int p3), .val (.int p4), .val (.int p5), .val (.int p6), .val (.int p7)] [(.int p7), (.ref a1)])) _
    refine st22 _ ?_
    show Steps p.tables e below (T22.setTop (mkF m 37 #[.val (.ref a1), .val (.int p2), .val (.int p3), .val (.int p4), .val (.int p5), .val (.int p6), .val (.int p7)] [])) _
    exact X22.returnOut hx Bd.returns (hb hby d1_37) hr
  · show Q_rm_ini Z a1 p2 p3 p4 p5 p6 p7 v0 v1 v2 v3 v4 v5 h0 n0 _ T22.heap _
    rw [e22]
    exact ⟨rfl, N22, K23, f22⟩
theorem d4_2 : decode prog_57_method_2_code 2 = .ok (.aload_n 0, 1) := by decide +kernel
theorem d4_3 : decode prog_57_method_2_code 3 = .ok (.getfield 25, 3) := by decide +kernel
theorem d4_6 : decode prog_57_method_2_code 6 = .ok (.i2l, 1) := by decide +kernel
theorem d4_7 : decode prog_57_method_2_code 7 = .ok (.iload_n 3, 1) := by decide +kernel
theorem d4_8 : decode prog_57_method_2_code 8 = .ok (.lshl, 1) := by decide +kernel
theorem d4_9 : decode prog_57_method_2_code 9 = .ok (.lload_n 1, 1) := by decide +kernel
theorem d4_10 : decode prog_57_method_2_code 10 = .ok (.lcmp, 1) := by decide +kernel
theorem d4_11 : decode prog_57_method_2_code 11 = .ok (.ifCond .ge 9, 3) := by decide +kernel
theorem d4_14 : decode prog_57_method_2_code 14 = .ok (.iinc 3 1, 3) := by decide +kernel
theorem d4_17 : decode prog_57_method_2_code 17 = .ok (.goto (-15), 3) := by decide +kernel
set_option maxRecDepth 65536 in
set_option maxHeartbeats 40000000 in
theorem tn_turn {p : Program} {l : Launch} {e : Env} {R : Room} {s : State} {m : MethodId} {args : Array Value} {below : List Frame} {meth : Method} {c : Code} {T0 : State} {locs : List Loc} {cells slots : Nat} {Z : State} {a0 : Array Value} {h0 : Heap} (a : Addr) (q : Int64) (i : Int32) (bk : Int32)
    (X0 : Stand p l e R s m args below meth c T0 locs cells slots) (hx : p.tables.exec = Jvm.exec) (hZ : Z.Warmed39 s.vm) (hw : ∀ d ∈ tables_1, d.before a0 Z = true) (hby : c.code = prog_57_method_2_code) (hml : c.maxLocals = 4) (hown : s.vm.findClass "com/example/allotd/allotd/store/CountedRequests$Compaction" = some m.cls) (e0 : T0.heap = h0) (pr0 : Fld Z h0 a "com/example/allotd/allotd/store/CountedRequests$Compaction" "bucketKeys" "I" (.int bk)) (hc : ((bk.toInt64) <<< (i &&& 0x3f).toInt64) < q) :
    ∃ (T' : State), Stand p l e R s m args below meth c T' locs cells slots ∧ T'.heap = h0 ∧ ∀ target, Steps p.tables e below (T'.setTop (mkF m 2 #[.val (.ref a), .val (.long q), .second, .val (.int (i + (1 : Int32)))] [])) target → Steps p.tables e below (T0.setTop (mkF m 2 #[.val (.ref a), .val (.long q), .second, .val (.int i)] [])) target := by
  obtain ⟨T1, X1, e1, st1⟩ := getF X0 hx hZ hown (host := "") (Or.inl (hw _ (List.mem_of_getElem? (i := 26) rfl))) Via.refl e0 pr0 (g := (mkF m 3 #[.val (.ref a), .val (.long q), .second, .val (.int i)] [(.ref a)])) rfl rfl (hb hby d4_3)
  refine ⟨T1, X1, e1, fun target kt => ?_⟩
  show Steps p.tables e below (T0.setTop (mkF m 2 #[.val (.ref a), .val (.long q), .second, .val (.int i)] [])) _
  refine XS.aloadN X0.here hx rfl (hb hby d4_2) rfl rfl ?_
  show Steps p.tables e below (T0.setTop (mkF m 3 #[.val (.ref a), .val (.long q), .second, .val (.int i)] [(.ref a)])) _
  refine st1 _ ?_
  show Steps p.tables e below (T1.setTop (mkF m 6 #[.val (.ref a), .val (.long q), .second, .val (.int i)] [(.int bk)])) _
  refine XS.i2l X1.here hx rfl (hb hby d4_6) rfl ?_
  show Steps p.tables e below (T1.setTop (mkF m 7 #[.val (.ref a), .val (.long q), .second, .val (.int i)] [(.long (bk.toInt64))])) _
  refine XS.iloadN X1.here hx rfl (hb hby d4_7) rfl ?_
  show Steps p.tables e below (T1.setTop (mkF m 8 #[.val (.ref a), .val (.long q), .second, .val (.int i)] [(.int i), (.long (bk.toInt64))])) _
  refine XS.lshl X1.here hx rfl (hb hby d4_8) rfl ?_
  show Steps p.tables e below (T1.setTop (mkF m 9 #[.val (.ref a), .val (.long q), .second, .val (.int i)] [(.long ((bk.toInt64) <<< (i &&& 0x3f).toInt64))])) _
  refine XS.lloadN X1.here hx rfl (hb hby d4_9) rfl ?_
  show Steps p.tables e below (T1.setTop (mkF m 10 #[.val (.ref a), .val (.long q), .second, .val (.int i)] [(.long q), (.long ((bk.toInt64) <<< (i &&& 0x3f).toInt64))])) _
  refine XS.lcmp X1.here hx rfl (hb hby d4_10) rfl ?_
  show Steps p.tables e below (T1.setTop (mkF m 11 #[.val (.ref a), .val (.long q), .second, .val (.int i)] [(.int (lcmpW ((bk.toInt64) <<< (i &&& 0x3f).toInt64) q))])) _
  refine XS.ifNo X1.here hx rfl (hb hby d4_11) rfl ((if0 _ _).trans (tlt ((lw_lt _ _).mpr hc)).2.1) ?_
  show Steps p.tables e below (T1.setTop (mkF m 14 #[.val (.ref a), .val (.long q), .second, .val (.int i)] [])) _
  refine XS.iinc X1.here hx rfl (hb hby d4_14) rfl (l' := #[.val (.ref a), .val (.long q), .second, .val (.int (i + (1 : Int32)))]) rfl ?_
  show Steps p.tables e below (T1.setTop (mkF m 17 #[.val (.ref a), .val (.long q), .second, .val (.int (i + (1 : Int32)))] [])) _
  refine XS.goto X1.here hx rfl (pc0 := 17) (pc' := 2) rfl (hb hby d4_17) (by decide) (by decide) ?_
  exact kt
set_option maxRecDepth 65536 in
set_option maxHeartbeats 40000000 in
theorem tn_leave {p : Program} {l : Launch} {e : Env} {R : Room} {s : State} {m : MethodId} {args : Array Value} {below : List Frame} {meth : Method} {c : Code} {T0 : State} {locs : List Loc} {cells slots : Nat} {Z : State} {a0 : Array Value} {h0 : Heap} (a : Addr) (q : Int64) (i : Int32) (bk : Int32)
    (X0 : Stand p l e R s m args below meth c T0 locs cells slots) (hx : p.tables.exec = Jvm.exec) (hZ : Z.Warmed39 s.vm) (hw : ∀ d ∈ tables_1, d.before a0 Z = true) (hby : c.code = prog_57_method_2_code) (hml : c.maxLocals = 4) (hown : s.vm.findClass "com/example/allotd/allotd/store/CountedRequests$Compaction" = some m.cls) (e0 : T0.heap = h0) (pr0 : Fld Z h0 a "com/example/allotd/allotd/store/CountedRequests$Compaction" "bucketKeys" "I" (.int bk)) (hc : ¬ (((bk.toInt64) <<< (i &&& 0x3f).toInt64) < q)) :
    ∃ (T' : State), Stand p l e R s m args below meth c T' locs cells slots ∧ T'.heap = h0 ∧ ∀ target, Steps p.tables e below (T'.setTop (mkF m 20 #[.val (.ref a), .val (.long q), .second, .val (.int i)] [])) target → Steps p.tables e below (T0.setTop (mkF m 2 #[.val (.ref a), .val (.long q), .second, .val (.int i)] [])) target := by
  obtain ⟨T1, X1, e1, st1⟩ := getF X0 hx hZ hown (host := "") (Or.inl (hw _ (List.mem_of_getElem? (i := 26) rfl))) Via.refl e0 pr0 (g := (mkF m 3 #[.val (.ref a), .val (.long q), .second, .val (.int i)] [(.ref a)])) rfl rfl (hb hby d4_3)
  refine ⟨T1, X1, e1, fun target kt => ?_⟩
  show Steps p.tables e below (T0.setTop (mkF m 2 #[.val (.ref a), .val (.long q), .second, .val (.int i)] [])) _
  refine XS.aloadN X0.here hx rfl (hb hby d4_2) rfl rfl ?_
  show Steps p.tables e below (T0.setTop (mkF m 3 #[.val (.ref a), .val (.long q), .second, .val (.int i)] [(.ref a)])) _
  refine st1 _ ?_
  show Steps p.tables e below (T1.setTop (mkF m 6 #[.val (.ref a), .val (.long q), .second, .val (.int i)] [(.int bk)])) _
  refine XS.i2l X1.here hx rfl (hb hby d4_6) rfl ?_
  show Steps p.tables e below (T1.setTop (mkF m 7 #[.val (.ref a), .val (.long q), .second, .val (.int i)] [(.long (bk.toInt64))])) _
  refine XS.iloadN X1.here hx rfl (hb hby d4_7) rfl ?_
  show Steps p.tables e below (T1.setTop (mkF m 8 #[.val (.ref a), .val (.long q), .second, .val (.int i)] [(.int i), (.long (bk.toInt64))])) _
  refine XS.lshl X1.here hx rfl (hb hby d4_8) rfl ?_
  show Steps p.tables e below (T1.setTop (mkF m 9 #[.val (.ref a), .val (.long q), .second, .val (.int i)] [(.long ((bk.toInt64) <<< (i &&& 0x3f).toInt64))])) _
  refine XS.lloadN X1.here hx rfl (hb hby d4_9) rfl ?_
  show Steps p.tables e below (T1.setTop (mkF m 10 #[.val (.ref a), .val (.long q), .second, .val (.int i)] [(.long q), (.long ((bk.toInt64) <<< (i &&& 0x3f).toInt64))])) _
  refine XS.lcmp X1.here hx rfl (hb hby d4_10) rfl ?_
  show Steps p.tables e below (T1.setTop (mkF m 11 #[.val (.ref a), .val (.long q), .second, .val (.int i)] [(.int (lcmpW ((bk.toInt64) <<< (i &&& 0x3f).toInt64) q))])) _
  refine XS.ifYes X1.here hx rfl (pc0 := 11) (pc' := 20) rfl (hb hby d4_11) rfl ((if0 _ _).trans (flt (fun q_ => hc ((lw_lt _ _).mp q_))).2.1) (by decide) (by decide) ?_
  exact kt

theorem loopB {p : Program} {l : Launch} {e : Env} {R : Room} {s : State} {m : MethodId} {args : Array Value} {below : List Frame} {meth : Method} {c : Code} {locs : List Loc} {cells slots : Nat} {Z : State} {a0 : Array Value} {h0 : Heap} (a : Addr) (bk : Int32) (q : Int64) (hx : p.tables.exec = Jvm.exec) (hZ : Z.Warmed39 s.vm) (hw : ∀ d ∈ tables_1, d.before a0 Z = true) (hby : c.code = prog_57_method_2_code) (hml : c.maxLocals = 4) (hown : s.vm.findClass "com/example/allotd/allotd/store/CountedRequests$Compaction" = some m.cls) (F : Fld Z h0 a "com/example/allotd/allotd/store/CountedRequests$Compaction" "bucketKeys" "I" (.int bk)) (h1 : 1 ≤ bk.toInt) (h2 : bk.toInt ≤ 1048576) (h3 : q.toInt < 2199023255552) :
    ∀ (k i : Nat) (T0 : State), i + k = 41 → (∀ j, j + 1 = i → bk.toInt * (2 ^ j : Nat) < q.toInt) → Stand p l e R s m args below meth c T0 locs cells slots → T0.heap = h0 →
      ∃ (T' : State) (b : Nat), b ≤ 41 ∧ q.toInt ≤ bk.toInt * (2 ^ b : Nat) ∧ (∀ j, j + 1 = b → bk.toInt * (2 ^ j : Nat) < q.toInt) ∧ Stand p l e R s m args below meth c T' locs cells slots ∧ T'.heap = h0 ∧
        ∀ target, Steps p.tables e below (T'.setTop (mkF m 20 #[.val (.ref a), .val (.long q), .second, .val (.int (Int32.ofNat b))] [])) target → Steps p.tables e below (T0.setTop (mkF m 2 #[.val (.ref a), .val (.long q), .second, .val (.int (Int32.ofNat i))] [])) target := by
  intro k
  induction k with
  | zero =>
    intro i T0 hi hj X0 e0
    have hi' : i = 41 := by omega
    subst hi'
    have hs := own_shl (i := 41) h1 h2 (by decide)
    have hn : ¬ (bk.toInt64 <<< (Int32.ofNat 41 &&& 0x3f).toInt64 < q) := by
      rw [Int64.lt_iff_toInt_lt, hs]; omega
    obtain ⟨T1, X1, e1, st1⟩ := tn_leave a q (Int32.ofNat 41) bk X0 hx hZ hw hby hml hown e0 F hn
    exact ⟨T1, 41, Nat.le_refl _, by omega, hj, X1, e1, st1⟩
  | succ k ih =>
    intro i T0 hi hj X0 e0
    have hs := own_shl (i := i) h1 h2 (by omega)
    by_cases hc : bk.toInt64 <<< (Int32.ofNat i &&& 0x3f).toInt64 < q
    · obtain ⟨T1, X1, e1, st1⟩ := tn_turn a q (Int32.ofNat i) bk X0 hx hZ hw hby hml hown e0 F hc
      obtain ⟨T', b, hb1, hb2, hb3, X', e', st⟩ := ih (i + 1) T1 (by omega) (fun j hj' => by
        have : j = i := by omega
        subst this
        rw [Int64.lt_iff_toInt_lt, hs] at hc; exact hc) X1 e1
      refine ⟨T', b, hb1, hb2, hb3, X', e', fun target h => st1 target ?_⟩
      have e2 : Int32.ofNat i + 1 = Int32.ofNat (i + 1) := by rw [Int32.ofNat_add]; rfl
      rw [e2]
      exact st target h
    · obtain ⟨T1, X1, e1, st1⟩ := tn_leave a q (Int32.ofNat i) bk X0 hx hZ hw hby hml hown e0 F hc
      refine ⟨T1, i, by omega, ?_, hj, X1, e1, st1⟩
      rw [Int64.lt_iff_toInt_lt, hs] at hc; omega

theorem d4_0 : decode prog_57_method_2_code 0 = .ok (.iconst 0, 1) := by decide +kernel
theorem d4_1 : decode prog_57_method_2_code 1 = .ok (.istore_n 3, 1) := by decide +kernel
theorem d4_20 : decode prog_57_method_2_code 20 = .ok (.iload_n 3, 1) := by decide +kernel
theorem d4_21 : decode prog_57_method_2_code 21 = .ok (.ireturn, 1) := by decide +kernel
theorem ef_rm_bf (m : MethodId) (x0 : Addr) (x1 : Int64) : entryFrame m #[(.ref x0), (.long x1)] 4 = mkF m 0 #[.val (.ref x0), .val (.long x1), .second, .unset] [] := by first | (simp [entryFrame, mkF, argsToLocals, Value.category]; done) | rfl
def Q_rm_bf (Z : State) (a1 : Addr) (q2 : Int64) (bk : Int32) (h0 : Heap) (n0 : Nat) (v : Option Value) (h : Heap) (L : List Loc) : Prop := ∃ b : Nat, v = some (.int (Int32.ofNat b)) ∧ Fr n0 L ∧ h = h0 ∧ (b ≤ 41) ∧ (q2.toInt ≤ bk.toInt * (2 ^ b : Nat)) ∧ (∀ j, j + 1 = b → bk.toInt * (2 ^ j : Nat) < q2.toInt)
set_option maxRecDepth 65536 in
set_option maxHeartbeats 40000000 in
theorem rm_bf (l : Launch) (Z : State) (a0 : Array Value) (hw : ∀ d ∈ tables_1, d.before a0 Z = true) (ws : List Jvm.Cond) (a1 : Addr) (q2 : Int64) (bk : Int32) (h0 : Heap) (n0 : Nat) (Z0 : n0 ≤ h0.size) (pr0 : Fld Z h0 a1 "com/example/allotd/allotd/store/CountedRequests$Compaction" "bucketKeys" "I" (.int bk)) (h1_ : 1 ≤ bk.toInt) (h2_ : bk.toInt ≤ 1048576) (h3_ : q2.toInt < 2199023255552) :
    MetFree l (⟨"com/example/allotd/allotd/store/CountedRequests$Compaction", "bitsFor", "(J)I"⟩ : MethodName) (head1 (Jvm.Cond.code (⟨"com/example/allotd/allotd/store/CountedRequests$Compaction", "bitsFor", "(J)I"⟩ : MethodName) prog_57_method_2_code 4 (some .int) :: ws) ({ frames := 0, cells := 0, slots := 0, locals := 0 } : Room)) (fun a U => a = #[(.ref a1), (.long q2)] ∧ Z.Warmed39 U.vm ∧ U.heap = h0) (fun _ _ _ _ _ => True) (fun _ U o U' => ∃ v L, o = .returned v ∧ Q_rm_bf Z a1 q2 bk h0 n0 v U'.heap L ∧ FrameEnd U o U' L ({ frames := 0, cells := 0, slots := 0, locals := 0 } : Room).cells ({ frames := 0, cells := 0, slots := 0, locals := 0 } : Room).slots) := by
  refine MetFree.of_bodySF (plainFor_of_name pn_com_example_allotd_allotd_store_CountedRequests_Compaction) hisR ?_
  intro p e s m args below meth c s₁ Bd hml0 hP hK
  obtain ⟨rfl, hZ, hh⟩ := hP
  have hx := Bd.exec
  have hby := Bd.bytes
  have hml : c.maxLocals = 4 := hml0
  have hown : s.vm.findClass "com/example/allotd/allotd/store/CountedRequests$Compaction" = some m.cls := findClass_of_methodNamed Bd.named
  have hnm := (name_of_methodNamed Bd.named Bd.method).1
  have X0 : Stand p l e ({ frames := 0, cells := 0, slots := 0, locals := 0 } : Room) s m #[(.ref a1), (.long q2)] below meth c s₁ [] 0 0 := Stand.of_body Bd
  have e0 : s₁.heap = h0 := by rw [← hh, Bd.state]; rfl
  have N0 := Fr.nil n0
  have pre0 : ∀ t, Steps p.tables e below (s₁.setTop (mkF m 0 #[.val (.ref a1), .val (.long q2), .second, .unset] [])) t → Steps p.tables e below (s₁.setTop (entryFrame m #[(.ref a1), (.long q2)] 4)) t := fun t k => castTop (ef_rm_bf m a1 q2) k
  obtain ⟨T1, b, hb1, hb2, hb3, X1, e1, st1⟩ := loopB a1 bk q2 hx hZ hw hby hml hown pr0 h1_ h2_ h3_ 41 0 _ rfl (fun j hj => by omega) X0 e0
  obtain ⟨fs, hr, hrun, hended, hW, hsame⟩ := X1.leave (v := some (.int (Int32.ofNat b))) (fun h => by rw [Bd.returns] at h; cases h)
  refine ⟨_, _, pre0 _ ?_, hrun, hended, _, _, rfl, ?_, ⟨_, rfl⟩, hW, hsame.mono (by decide) (by decide)⟩
  · show Steps p.tables e below (s₁.setTop (mkF m 0 #[.val (.ref a1), .val (.long q2), .second, .unset] [])) _
    refine XS.iconst X0.here hx rfl (hb hby d4_0) ?_
    show Steps p.tables e below (s₁.setTop (mkF m 1 #[.val (.ref a1), .val (.long q2), .second, .unset] [(.int (0 : Int32))])) _
    refine XS.istoreN X0.here hx rfl (hb hby d4_1) rfl (l' := #[.val (.ref a1), .val (.long q2), .second, .val (.int (0 : Int32))]) rfl ?_
    show Steps p.tables e below (s₁.setTop (mkF m 2 #[.val (.ref a1), .val (.long q2), .second, .val (.int (0 : Int32))] [])) _
    refine st1 _ ?_
    show Steps p.tables e below (T1.setTop (mkF m 20 #[.val (.ref a1), .val (.long q2), .second, .val (.int (Int32.ofNat b))] [])) _
    refine XS.iloadN X1.here hx rfl (hb hby d4_20) rfl ?_
    show Steps p.tables e below (T1.setTop (mkF m 21 #[.val (.ref a1), .val (.long q2), .second, .val (.int (Int32.ofNat b))] [(.int (Int32.ofNat b))])) _
    exact retI X1 hx Bd.returns (hb hby d4_21) hr
  · show Q_rm_bf Z a1 q2 bk h0 n0 _ T1.heap _
    rw [e1]
    exact ⟨b, rfl, N0, rfl, hb1, hb2, hb3⟩
theorem pd__40IIIIII_41V : parseMethodDescriptor "(IIIIII)V" = some ⟨[.int, .int, .int, .int, .int, .int], none⟩ := by decide +kernel
theorem pd__40J_41I : parseMethodDescriptor "(J)I" = some ⟨[.long], some .int⟩ := by decide +kernel
theorem pn_com_example_allotd_allotd_store_CompactionBitsForPinLaw : plainName "com/example/allotd/allotd/store/CompactionBitsForPinLaw" = true := by first | (simp [plainName, overriddenIn]; done) | decide +kernel
theorem ef_rm0 (m : MethodId) (x0 : Int64) (x1 : Int32) (x2 : Int32) (x3 : Int32) : entryFrame m #[(.long x0), (.int x1), (.int x2), (.int x3)] maxLocals = mkF m 0 #[.val (.long x0), .second, .val (.int x1), .val (.int x2), .val (.int x3), .unset, .unset, .unset, .unset, .unset, .unset, .unset, .unset, .unset] [] := by first | (simp [entryFrame, mkF, argsToLocals, Value.category, maxLocals]; done) | rfl
def Q_rm0 (Z : State) (q1 : Int64) (p2 : Int32) (p3 : Int32) (p4 : Int32) (h0 : Heap) (n0 : Nat) (v : Option Value) (h : Heap) (L : List Loc) : Prop := v = some (.int (1 : Int32)) ∧ Fr n0 L
set_option maxRecDepth 65536 in
set_option maxHeartbeats 40000000 in
theorem rm0 (l : Launch) (Z : State) (a0 : Array Value) (hw : ∀ d ∈ tables_1, d.before a0 Z = true) (ws : List Jvm.Cond) (q1 : Int64) (p2 : Int32) (p3 : Int32) (p4 : Int32) (h0 : Heap) (n0 : Nat) (Z0 : n0 ≤ h0.size) :
    MetFree l x (head1 (Jvm.Cond.code x code maxLocals ret :: ws) room_1) (fun a U => a = #[(.long q1), (.int p2), (.int p3), (.int p4)] ∧ Z.Warmed39 U.vm ∧ U.heap = h0) (fun _ _ _ _ _ => True) (fun _ U o U' => ∃ v L, o = .returned v ∧ Q_rm0 Z q1 p2 p3 p4 h0 n0 v U'.heap L ∧ FrameEnd U o U' L room_1.cells room_1.slots) := by
  refine MetFree.of_bodySF (plainFor_of_name pn_com_example_allotd_allotd_store_CompactionBitsForPinLaw) hisR ?_
  intro p e s m args below meth c s₁ Bd hml0 hP hK
  obtain ⟨rfl, hZ, hh⟩ := hP
  have hx := Bd.exec
  have hby := Bd.bytes
  have hml : c.maxLocals = 14 := hml0
  have hown : s.vm.findClass "com/example/allotd/allotd/store/CompactionBitsForPinLaw" = some m.cls := findClass_of_methodNamed Bd.named
  have hnm := (name_of_methodNamed Bd.named Bd.method).1
  have X0 : Stand p l e room_1 s m #[(.long q1), (.int p2), (.int p3), (.int p4)] below meth c s₁ [] 0 0 := Stand.of_body Bd
  have e0 : s₁.heap = h0 := by rw [← hh, Bd.state]; rfl
  have N0 := Fr.nil n0
  have pre0 : ∀ t, Steps p.tables e below (s₁.setTop (mkF m 0 #[.val (.long q1), .second, .val (.int p2), .val (.int p3), .val (.int p4), .unset, .unset, .unset, .unset, .unset, .unset, .unset, .unset, .unset] [])) t → Steps p.tables e below (s₁.setTop (entryFrame m #[(.long q1), (.int p2), (.int p3), (.int p4)] maxLocals)) t := fun t k => castTop (ef_rm0 m q1 p2 p3 p4) k
  obtain ⟨T1, h1, X1, e1, E1, A1, D1, -, st1⟩ := newO X0 hx hZ hown (hw _ (List.mem_of_getElem? (i := 2) rfl)) (hw _ (List.mem_of_getElem? (i := 3) rfl)) (hw _ (List.mem_of_getElem? (i := 4) rfl)) e0 (g := (mkF m 15 #[.val (.long q1), .second, .val (.int p2), .val (.int p3), .val (.int p4), .val (.long (q1 &&& (2199023255551 : Int64))), .second, .val (.int ((p2 &&& (1048575 : Int32)) + (1 : Int32))), .unset, .unset, .unset, .unset, .unset, .unset] [])) rfl (hb hby at_15) (by decide) (by decide)
  obtain ⟨b1, g1⟩ : ∃ z, z = h0.size := ⟨_, rfl⟩
  rw [← g1] at A1 D1 st1
  have gnb1 : n0 ≤ b1 := Nat.le_trans (Nat.le_trans Z0 (Keep.refl h0 []).1) (Nat.le_of_eq g1.symm)
  have gzb1 : h0.size ≤ b1 := Nat.le_trans (Keep.refl h0 []).1 (Nat.le_of_eq g1.symm)
  have K2 : Keep h0 h1 [] := (Keep.refl h0 []).ext E1
  have f3 : Fld Z h1 b1 "com/example/allotd/allotd/store/CountedRequests$Compaction" "every" "I" (.int (0 : Int32)) := D1 (Or.inr (hw _ (List.mem_of_getElem? (i := 17) rfl))) (ty := .int) (by decide)
  have f4 : Fld Z h1 b1 "com/example/allotd/allotd/store/CountedRequests$Compaction" "sealAt" "I" (.int (0 : Int32)) := D1 (Or.inr (hw _ (List.mem_of_getElem? (i := 19) rfl))) (ty := .int) (by decide)
  have f5 : Fld Z h1 b1 "com/example/allotd/allotd/store/CountedRequests$Compaction" "sealAtMost" "I" (.int (0 : Int32)) := D1 (Or.inr (hw _ (List.mem_of_getElem? (i := 21) rfl))) (ty := .int) (by decide)
  have f6 : Fld Z h1 b1 "com/example/allotd/allotd/store/CountedRequests$Compaction" "mergeWidth" "I" (.int (0 : Int32)) := D1 (Or.inr (hw _ (List.mem_of_getElem? (i := 23) rfl))) (ty := .int) (by decide)
  have f7 : Fld Z h1 b1 "com/example/allotd/allotd/store/CountedRequests$Compaction" "stepKeys" "I" (.int (0 : Int32)) := D1 (Or.inr (hw _ (List.mem_of_getElem? (i := 25) rfl))) (ty := .int) (by decide)
  have f8 : Fld Z h1 b1 "com/example/allotd/allotd/store/CountedRequests$Compaction" "bucketKeys" "I" (.int (0 : Int32)) := D1 (Or.inr (hw _ (List.mem_of_getElem? (i := 27) rfl))) (ty := .int) (by decide)
  obtain ⟨_, _, ⟨T9, L9, k9, n9⟩, -, X9, ⟨Lc9, hQ9, l9, y9, z9⟩, st9⟩ := X1.specialBack hx (y := (⟨"com/example/allotd/allotd/store/CountedRequests$Compaction", "<init>", "(IIIIII)V"⟩ : MethodName)) rfl hown (mvT hZ (hw _ (List.mem_of_getElem? (i := 5) rfl))) (mvT hZ (hw _ (List.mem_of_getElem? (i := 6) rfl))) (mvT hZ (hw _ (List.mem_of_getElem? (i := 7) rfl))) (by decide) (backOf (W := 1) (rm_ini l Z a0 hw [] b1 p3 p4 (8192 : Int32) (8 : Int32) (8192 : Int32) ((p2 &&& (1048575 : Int32)) + (1 : Int32)) (.int (0 : Int32)) (.int (0 : Int32)) (.int (0 : Int32)) (.int (0 : Int32)) (.int (0 : Int32)) (.int (0 : Int32)) h1 n0 (Nat.le_trans Z0 K2.1) A1 f3 f4 f5 f6 f7 f8 gnb1) hZ (hw _ (List.mem_of_getElem? (i := 7) rfl)) (hw _ (List.mem_of_getElem? (i := 4) rfl)) (by decide) (by decide)) (g := (mkF m 32 #[.val (.long q1), .second, .val (.int p2), .val (.int p3), .val (.int p4), .val (.long (q1 &&& (2199023255551 : Int64))), .second, .val (.int ((p2 &&& (1048575 : Int32)) + (1 : Int32))), .unset, .unset, .unset, .unset, .unset, .unset] [(.int ((p2 &&& (1048575 : Int32)) + (1 : Int32))), (.int (8192 : Int32)), (.int (8 : Int32)), (.int (8192 : Int32)), (.int p4), (.int p3), (.ref b1), (.ref b1)])) rfl (by rw [hml]; rfl) (Steps.refl _) (a := b1) (argsL := [(.int p3), (.int p4), (.int (8192 : Int32)), (.int (8 : Int32)), (.int (8192 : Int32)), (.int ((p2 &&& (1048575 : Int32)) + (1 : Int32)))]) (rest := [(.ref b1)]) (lenOf pd__40IIIIII_41V rfl) rfl (by show 2 * 0 + _ ≤ _; exact Nat.le_of_eq rfl) (hb hby at_32) (fun _ _ => ⟨rfl, e1, (by decide : 1 + 0 ≤ _), (by decide : 6 + 0 ≤ _)⟩)
  dsimp only [Pt.U, Pt.locs, Pt.cells, Pt.slots] at X9 l9 y9 z9 st9 hQ9
  subst l9 y9 z9
  obtain ⟨rfl, Nq9, Kc9, p9_0⟩ := hQ9
  have K10 : Keep h0 T9.heap [] := K2.trans Kc9 (allS (Or.inr gzb1) all0)
  have N9 := Fr.app N0 Nq9
  have f12 : Exa Z T9.heap b1 "com/example/allotd/allotd/store/CountedRequests$Compaction" := (A1.keep Kc9)
  obtain ⟨cq11, kq11, q11a, q11b, q11c⟩ := isOf hZ rfl f12
  obtain ⟨_, _, ⟨T11, L11, k11, n11⟩, -, X11, ⟨Lc11, hQ11, l11, y11, z11⟩, st11⟩ := X9.virtualBack hx (y := (⟨"com/example/allotd/allotd/store/CountedRequests$Compaction", "bitsFor", "(J)I"⟩ : MethodName)) (z := (⟨"com/example/allotd/allotd/store/CountedRequests$Compaction", "bitsFor", "(J)I"⟩ : MethodName)) hown (mvT hZ (hw _ (List.mem_of_getElem? (i := 28) rfl))) (mvT hZ (hw _ (List.mem_of_getElem? (i := 29) rfl))) (notFace_of_selects (args := #[]) (mvT hZ (hw _ (List.mem_of_getElem? (i := 31) rfl)))) (mvT hZ (hw _ (List.mem_of_getElem? (i := 31) rfl))) (mvT hZ (hw _ (List.mem_of_getElem? (i := 30) rfl))) (by decide) (backOf (W := 0) (rm_bf l Z a0 hw [] b1 (q1 &&& (2199023255551 : Int64)) ((p2 &&& (1048575 : Int32)) + (1 : Int32)) T9.heap n0 (Nat.le_trans Z0 K10.1) p9_0 (own_bk p2).1 (own_bk p2).2 (own_keys q1).2) hZ (hw _ (List.mem_of_getElem? (i := 32) rfl)) (hw _ (List.mem_of_getElem? (i := 4) rfl)) (by decide) (by decide)) q11a q11c (g := (mkF m 41 #[.val (.long q1), .second, .val (.int p2), .val (.int p3), .val (.int p4), .val (.long (q1 &&& (2199023255551 : Int64))), .second, .val (.int ((p2 &&& (1048575 : Int32)) + (1 : Int32))), .val (.ref b1), .unset, .unset, .unset, .unset, .unset] [(.long (q1 &&& (2199023255551 : Int64))), (.ref b1)])) rfl (by rw [hml]; rfl) (Steps.refl _) (argsL := [(.long (q1 &&& (2199023255551 : Int64)))]) (rest := []) (lenOf pd__40J_41I rfl) rfl (by show 2 * 0 + _ ≤ _; exact Nat.le_of_eq rfl) (hb hby at_41) (fun _ _ => ⟨rfl, rfl, (by decide : 1 + 0 ≤ _), (by decide : 6 + 0 ≤ _)⟩)
  dsimp only [Pt.U, Pt.locs, Pt.cells, Pt.slots] at X11 l11 y11 z11 st11 hQ11
  subst l11 y11 z11
  obtain ⟨b_11, rfl, Nq11, e11, p11_0, p11_1, p11_2⟩ := hQ11
  have N11 := Fr.app N9 Nq11
  by_cases hc1 : (Int32.ofNat b_11) = (0 : Int32)
  · obtain ⟨fs, hr, hrun, hended, hW, hsame⟩ := X11.leave (v := some (.int (1 : Int32))) (fun h => by rw [Bd.returns] at h; cases h)
    refine ⟨_, _, pre0 _ ?_, hrun, hended, _, _, rfl, ?_, ⟨_, rfl⟩, hW, hsame.mono (by decide) (by decide)⟩
    · show Steps p.tables e below (s₁.setTop (mkF m 0 #[.val (.long q1), .second, .val (.int p2), .val (.int p3), .val (.int p4), .unset, .unset, .unset, .unset, .unset, .unset, .unset, .unset, .unset] [])) _
      refine XS.lloadN X0.here hx rfl (hb hby at_0) rfl ?_
      show Steps p.tables e below (s₁.setTop (mkF m 1 #[.val (.long q1), .second, .val (.int p2), .val (.int p3), .val (.int p4), .unset, .unset, .unset, .unset, .unset, .unset, .unset, .unset, .unset] [(.long q1)])) _
      refine X0.ldc2Long hx hown (mvT hZ (hw _ (List.mem_of_getElem? (i := 0) rfl))) (g := (mkF m 1 #[.val (.long q1), .second, .val (.int p2), .val (.int p3), .val (.int p4), .unset, .unset, .unset, .unset, .unset, .unset, .unset, .unset, .unset] [(.long q1)])) rfl (hb hby at_1) _ ?_
      show Steps p.tables e below (s₁.setTop (mkF m 4 #[.val (.long q1), .second, .val (.int p2), .val (.int p3), .val (.int p4), .unset, .unset, .unset, .unset, .unset, .unset, .unset, .unset, .unset] [(.long (2199023255551 : Int64)), (.long q1)])) _
      refine XS.land X0.here hx rfl (hb hby at_4) rfl ?_
      show Steps p.tables e below (s₁.setTop (mkF m 5 #[.val (.long q1), .second, .val (.int p2), .val (.int p3), .val (.int p4), .unset, .unset, .unset, .unset, .unset, .unset, .unset, .unset, .unset] [(.long (q1 &&& (2199023255551 : Int64)))])) _
      refine XS.lstore X0.here hx rfl (hb hby at_5) rfl (l' := #[.val (.long q1), .second, .val (.int p2), .val (.int p3), .val (.int p4), .val (.long (q1 &&& (2199023255551 : Int64))), .second, .unset, .unset, .unset, .unset, .unset, .unset, .unset]) rfl ?_
      show Steps p.tables e below (s₁.setTop (mkF m 7 #[.val (.long q1), .second, .val (.int p2), .val (.int p3), .val (.int p4), .val (.long (q1 &&& (2199023255551 : Int64))), .second, .unset, .unset, .unset, .unset, .unset, .unset, .unset] [])) _
      refine XS.iloadN X0.here hx rfl (hb hby at_7) rfl ?_
      show Steps p.tables e below (s₁.setTop (mkF m 8 #[.val (.long q1), .second, .val (.int p2), .val (.int p3), .val (.int p4), .val (.long (q1 &&& (2199023255551 : Int64))), .second, .unset, .unset, .unset, .unset, .unset, .unset, .unset] [(.int p2)])) _
      refine X0.ldcInt hx hown (mvT hZ (hw _ (List.mem_of_getElem? (i := 1) rfl))) (g := (mkF m 8 #[.val (.long q1), .second, .val (.int p2), .val (.int p3), .val (.int p4), .val (.long (q1 &&& (2199023255551 : Int64))), .second, .unset, .unset, .unset, .unset, .unset, .unset, .unset] [(.int p2)])) rfl (hb hby at_8) _ ?_
      show Steps p.tables e below (s₁.setTop (mkF m 10 #[.val (.long q1), .second, .val (.int p2), .val (.int p3), .val (.int p4), .val (.long (q1 &&& (2199023255551 : Int64))), .second, .unset, .unset, .unset, .unset, .unset, .unset, .unset] [(.int (1048575 : Int32)), (.int p2)])) _
      refine XS.iand X0.here hx rfl (hb hby at_10) rfl ?_
      show Steps p.tables e below (s₁.setTop (mkF m 11 #[.val (.long q1), .second, .val (.int p2), .val (.int p3), .val (.int p4), .val (.long (q1 &&& (2199023255551 : Int64))), .second, .unset, .unset, .unset, .unset, .unset, .unset, .unset] [(.int (p2 &&& (1048575 : Int32)))])) _
      refine XS.iconst X0.here hx rfl (hb hby at_11) ?_
      show Steps p.tables e below (s₁.setTop (mkF m 12 #[.val (.long q1), .second, .val (.int p2), .val (.int p3), .val (.int p4), .val (.long (q1 &&& (2199023255551 : Int64))), .second, .unset, .unset, .unset, .unset, .unset, .unset, .unset] [(.int (1 : Int32)), (.int (p2 &&& (1048575 : Int32)))])) _
      refine XS.iadd X0.here hx rfl (hb hby at_12) rfl ?_
      show Steps p.tables e below (s₁.setTop (mkF m 13 #[.val (.long q1), .second, .val (.int p2), .val (.int p3), .val (.int p4), .val (.long (q1 &&& (2199023255551 : Int64))), .second, .unset, .unset, .unset, .unset, .unset, .unset, .unset] [(.int ((p2 &&& (1048575 : Int32)) + (1 : Int32)))])) _
      refine XS.istore X0.here hx rfl (hb hby at_13) rfl (l' := #[.val (.long q1), .second, .val (.int p2), .val (.int p3), .val (.int p4), .val (.long (q1 &&& (2199023255551 : Int64))), .second, .val (.int ((p2 &&& (1048575 : Int32)) + (1 : Int32))), .unset, .unset, .unset, .unset, .unset, .unset]) rfl ?_
      show Steps p.tables e below (s₁.setTop (mkF m 15 #[.val (.long q1), .second, .val (.int p2), .val (.int p3), .val (.int p4), .val (.long (q1 &&& (2199023255551 : Int64))), .second, .val (.int ((p2 &&& (1048575 : Int32)) + (1 : Int32))), .unset, .unset, .unset, .unset, .unset, .unset] [])) _
      refine st1 _ ?_
      show Steps p.tables e below (T1.setTop (mkF m 18 #[.val (.long q1), .second, .val (.int p2), .val (.int p3), .val (.int p4), .val (.long (q1 &&& (2199023255551 : Int64))), .second, .val (.int ((p2 &&& (1048575 : Int32)) + (1 : Int32))), .unset, .unset, .unset, .unset, .unset, .unset] [(.ref b1)])) _
      refine XS.dup X1.here hx rfl (hb hby at_18) rfl rfl ?_
      show Steps p.tables e below (T1.setTop (mkF m 19 #[.val (.long q1), .second, .val (.int p2), .val (.int p3), .val (.int p4), .val (.long (q1 &&& (2199023255551 : Int64))), .second, .val (.int ((p2 &&& (1048575 : Int32)) + (1 : Int32))), .unset, .unset, .unset, .unset, .unset, .unset] [(.ref b1), (.ref b1)])) _
      refine XS.iloadN X1.here hx rfl (hb hby at_19) rfl ?_
      show Steps p.tables e below (T1.setTop (mkF m 20 #[.val (.long q1), .second, .val (.int p2), .val (.int p3), .val (.int p4), .val (.long (q1 &&& (2199023255551 : Int64))), .second, .val (.int ((p2 &&& (1048575 : Int32)) + (1 : Int32))), .unset, .unset, .unset, .unset, .unset, .unset] [(.int p3), (.ref b1), (.ref b1)])) _
      refine XS.iload X1.here hx rfl (hb hby at_20) rfl ?_
      show Steps p.tables e below (T1.setTop (mkF m 22 #[.val (.long q1), .second, .val (.int p2), .val (.int p3), .val (.int p4), .val (.long (q1 &&& (2199023255551 : Int64))), .second, .val (.int ((p2 &&& (1048575 : Int32)) + (1 : Int32))), .unset, .unset, .unset, .unset, .unset, .unset] [(.int p4), (.int p3), (.ref b1), (.ref b1)])) _
      refine XS.sipush X1.here hx rfl (hb hby at_22) ?_
      show Steps p.tables e below (T1.setTop (mkF m 25 #[.val (.long q1), .second, .val (.int p2), .val (.int p3), .val (.int p4), .val (.long (q1 &&& (2199023255551 : Int64))), .second, .val (.int ((p2 &&& (1048575 : Int32)) + (1 : Int32))), .unset, .unset, .unset, .unset, .unset, .unset] [(.int (8192 : Int32)), (.int p4), (.int p3), (.ref b1), (.ref b1)])) _
      refine XS.bipush X1.here hx rfl (hb hby at_25) ?_
      show Steps p.tables e below (T1.setTop (mkF m 27 #[.val (.long q1), .second, .val (.int p2), .val (.int p3), .val (.int p4), .val (.long (q1 &&& (2199023255551 : Int64))), .second, .val (.int ((p2 &&& (1048575 : Int32)) + (1 : Int32))), .unset, .unset, .unset, .unset, .unset, .unset] [(.int (8 : Int32)), (.int (8192 : Int32)), (.int p4), (.int p3), (.ref b1), (.ref b1)])) _
      refine XS.sipush X1.here hx rfl (hb hby at_27) ?_
      show Steps p.tables e below (T1.setTop (mkF m 30 #[.val (.long q1), .second, .val (.int p2), .val (.int p3), .val (.int p4), .val (.long (q1 &&& (2199023255551 : Int64))), .second, .val (.int ((p2 &&& (1048575 : Int32)) + (1 : Int32))), .unset, .unset, .unset, .unset, .unset, .unset] [(.int (8192 : Int32)), (.int (8 : Int32)), (.int (8192 : Int32)), (.int p4), (.int p3), (.ref b1), (.ref b1)])) _
      refine XS.iload X1.here hx rfl (hb hby at_30) rfl ?_
      show Steps p.tables e below (T1.setTop (mkF m 32 #[.val (.long q1), .second, .val (.int p2), .val (.int p3), .val (.int p4), .val (.long (q1 &&& (2199023255551 : Int64))), .second, .val (.int ((p2 &&& (1048575 : Int32)) + (1 : Int32))), .unset, .unset, .unset, .unset, .unset, .unset] [(.int ((p2 &&& (1048575 : Int32)) + (1 : Int32))), (.int (8192 : Int32)), (.int (8 : Int32)), (.int (8192 : Int32)), (.int p4), (.int p3), (.ref b1), (.ref b1)])) _
      refine st9.trans ?_
      show Steps p.tables e below (T9.setTop (mkF m 35 #[.val (.long q1), .second, .val (.int p2), .val (.int p3), .val (.int p4), .val (.long (q1 &&& (2199023255551 : Int64))), .second, .val (.int ((p2 &&& (1048575 : Int32)) + (1 : Int32))), .unset, .unset, .unset, .unset, .unset, .unset] [(.ref b1)])) _
      refine XS.astore X9.here hx rfl (hb hby at_35) rfl rfl (l' := #[.val (.long q1), .second, .val (.int p2), .val (.int p3), .val (.int p4), .val (.long (q1 &&& (2199023255551 : Int64))), .second, .val (.int ((p2 &&& (1048575 : Int32)) + (1 : Int32))), .val (.ref b1), .unset, .unset, .unset, .unset, .unset]) rfl ?_
      show Steps p.tables e below (T9.setTop (mkF m 37 #[.val (.long q1), .second, .val (.int p2), .val (.int p3), .val (.int p4), .val (.long (q1 &&& (2199023255551 : Int64))), .second, .val (.int ((p2 &&& (1048575 : Int32)) + (1 : Int32))), .val (.ref b1), .unset, .unset, .unset, .unset, .unset] [])) _
      refine XS.aload X9.here hx rfl (hb hby at_37) rfl rfl ?_
      show Steps p.tables e below (T9.setTop (mkF m 39 #[.val (.long q1), .second, .val (.int p2), .val (.int p3), .val (.int p4), .val (.long (q1 &&& (2199023255551 : Int64))), .second, .val (.int ((p2 &&& (1048575 : Int32)) + (1 : Int32))), .val (.ref b1), .unset, .unset, .unset, .unset, .unset] [(.ref b1)])) _
      refine XS.lload X9.here hx rfl (hb hby at_39) rfl ?_
      show Steps p.tables e below (T9.setTop (mkF m 41 #[.val (.long q1), .second, .val (.int p2), .val (.int p3), .val (.int p4), .val (.long (q1 &&& (2199023255551 : Int64))), .second, .val (.int ((p2 &&& (1048575 : Int32)) + (1 : Int32))), .val (.ref b1), .unset, .unset, .unset, .unset, .unset] [(.long (q1 &&& (2199023255551 : Int64))), (.ref b1)])) _
      refine st11.trans ?_
      show Steps p.tables e below (T11.setTop (mkF m 44 #[.val (.long q1), .second, .val (.int p2), .val (.int p3), .val (.int p4), .val (.long (q1 &&& (2199023255551 : Int64))), .second, .val (.int ((p2 &&& (1048575 : Int32)) + (1 : Int32))), .val (.ref b1), .unset, .unset, .unset, .unset, .unset] [(.int (Int32.ofNat b_11))])) _
      refine XS.istore X11.here hx rfl (hb hby at_44) rfl (l' := #[.val (.long q1), .second, .val (.int p2), .val (.int p3), .val (.int p4), .val (.long (q1 &&& (2199023255551 : Int64))), .second, .val (.int ((p2 &&& (1048575 : Int32)) + (1 : Int32))), .val (.ref b1), .val (.int (Int32.ofNat b_11)), .unset, .unset, .unset, .unset]) rfl ?_
      show Steps p.tables e below (T11.setTop (mkF m 46 #[.val (.long q1), .second, .val (.int p2), .val (.int p3), .val (.int p4), .val (.long (q1 &&& (2199023255551 : Int64))), .second, .val (.int ((p2 &&& (1048575 : Int32)) + (1 : Int32))), .val (.ref b1), .val (.int (Int32.ofNat b_11)), .unset, .unset, .unset, .unset] [])) _
      refine XS.iload X11.here hx rfl (hb hby at_46) rfl ?_
      show Steps p.tables e below (T11.setTop (mkF m 48 #[.val (.long q1), .second, .val (.int p2), .val (.int p3), .val (.int p4), .val (.long (q1 &&& (2199023255551 : Int64))), .second, .val (.int ((p2 &&& (1048575 : Int32)) + (1 : Int32))), .val (.ref b1), .val (.int (Int32.ofNat b_11)), .unset, .unset, .unset, .unset] [(.int (Int32.ofNat b_11))])) _
      refine XS.ifNo X11.here hx rfl (hb hby at_48) rfl ((if0 _ _).trans (flt (own_b0 p11_0)).1) ?_
      show Steps p.tables e below (T11.setTop (mkF m 51 #[.val (.long q1), .second, .val (.int p2), .val (.int p3), .val (.int p4), .val (.long (q1 &&& (2199023255551 : Int64))), .second, .val (.int ((p2 &&& (1048575 : Int32)) + (1 : Int32))), .val (.ref b1), .val (.int (Int32.ofNat b_11)), .unset, .unset, .unset, .unset] [])) _
      refine XS.iload X11.here hx rfl (hb hby at_51) rfl ?_
      show Steps p.tables e below (T11.setTop (mkF m 53 #[.val (.long q1), .second, .val (.int p2), .val (.int p3), .val (.int p4), .val (.long (q1 &&& (2199023255551 : Int64))), .second, .val (.int ((p2 &&& (1048575 : Int32)) + (1 : Int32))), .val (.ref b1), .val (.int (Int32.ofNat b_11)), .unset, .unset, .unset, .unset] [(.int (Int32.ofNat b_11))])) _
      refine XS.bipush X11.here hx rfl (hb hby at_53) ?_
      show Steps p.tables e below (T11.setTop (mkF m 55 #[.val (.long q1), .second, .val (.int p2), .val (.int p3), .val (.int p4), .val (.long (q1 &&& (2199023255551 : Int64))), .second, .val (.int ((p2 &&& (1048575 : Int32)) + (1 : Int32))), .val (.ref b1), .val (.int (Int32.ofNat b_11)), .unset, .unset, .unset, .unset] [(.int (41 : Int32)), (.int (Int32.ofNat b_11))])) _
      refine XS.icmpYes X11.here hx rfl (pc0 := 55) (pc' := 60) rfl (hb hby at_55) rfl (flt (own_b1 p11_0)).2.2.2 (by decide) (by decide) ?_
      show Steps p.tables e below (T11.setTop (mkF m 60 #[.val (.long q1), .second, .val (.int p2), .val (.int p3), .val (.int p4), .val (.long (q1 &&& (2199023255551 : Int64))), .second, .val (.int ((p2 &&& (1048575 : Int32)) + (1 : Int32))), .val (.ref b1), .val (.int (Int32.ofNat b_11)), .unset, .unset, .unset, .unset] [])) _
      refine XS.iload X11.here hx rfl (hb hby at_60) rfl ?_
      show Steps p.tables e below (T11.setTop (mkF m 62 #[.val (.long q1), .second, .val (.int p2), .val (.int p3), .val (.int p4), .val (.long (q1 &&& (2199023255551 : Int64))), .second, .val (.int ((p2 &&& (1048575 : Int32)) + (1 : Int32))), .val (.ref b1), .val (.int (Int32.ofNat b_11)), .unset, .unset, .unset, .unset] [(.int ((p2 &&& (1048575 : Int32)) + (1 : Int32)))])) _
      refine XS.i2l X11.here hx rfl (hb hby at_62) rfl ?_
      show Steps p.tables e below (T11.setTop (mkF m 63 #[.val (.long q1), .second, .val (.int p2), .val (.int p3), .val (.int p4), .val (.long (q1 &&& (2199023255551 : Int64))), .second, .val (.int ((p2 &&& (1048575 : Int32)) + (1 : Int32))), .val (.ref b1), .val (.int (Int32.ofNat b_11)), .unset, .unset, .unset, .unset] [(.long (((p2 &&& (1048575 : Int32)) + (1 : Int32)).toInt64))])) _
      refine XS.iload X11.here hx rfl (hb hby at_63) rfl ?_
      show Steps p.tables e below (T11.setTop (mkF m 65 #[.val (.long q1), .second, .val (.int p2), .val (.int p3), .val (.int p4), .val (.long (q1 &&& (2199023255551 : Int64))), .second, .val (.int ((p2 &&& (1048575 : Int32)) + (1 : Int32))), .val (.ref b1), .val (.int (Int32.ofNat b_11)), .unset, .unset, .unset, .unset] [(.int (Int32.ofNat b_11)), (.long (((p2 &&& (1048575 : Int32)) + (1 : Int32)).toInt64))])) _
      refine XS.lshl X11.here hx rfl (hb hby at_65) rfl ?_
      show Steps p.tables e below (T11.setTop (mkF m 66 #[.val (.long q1), .second, .val (.int p2), .val (.int p3), .val (.int p4), .val (.long (q1 &&& (2199023255551 : Int64))), .second, .val (.int ((p2 &&& (1048575 : Int32)) + (1 : Int32))), .val (.ref b1), .val (.int (Int32.ofNat b_11)), .unset, .unset, .unset, .unset] [(.long ((((p2 &&& (1048575 : Int32)) + (1 : Int32)).toInt64) <<< ((Int32.ofNat b_11) &&& 0x3f).toInt64))])) _
      refine XS.lstore X11.here hx rfl (hb hby at_66) rfl (l' := #[.val (.long q1), .second, .val (.int p2), .val (.int p3), .val (.int p4), .val (.long (q1 &&& (2199023255551 : Int64))), .second, .val (.int ((p2 &&& (1048575 : Int32)) + (1 : Int32))), .val (.ref b1), .val (.int (Int32.ofNat b_11)), .val (.long ((((p2 &&& (1048575 : Int32)) + (1 : Int32)).toInt64) <<< ((Int32.ofNat b_11) &&& 0x3f).toInt64)), .second, .unset, .unset]) rfl ?_
      show Steps p.tables e below (T11.setTop (mkF m 68 #[.val (.long q1), .second, .val (.int p2), .val (.int p3), .val (.int p4), .val (.long (q1 &&& (2199023255551 : Int64))), .second, .val (.int ((p2 &&& (1048575 : Int32)) + (1 : Int32))), .val (.ref b1), .val (.int (Int32.ofNat b_11)), .val (.long ((((p2 &&& (1048575 : Int32)) + (1 : Int32)).toInt64) <<< ((Int32.ofNat b_11) &&& 0x3f).toInt64)), .second, .unset, .unset] [])) _
      refine XS.lload X11.here hx rfl (hb hby at_68) rfl ?_
      show Steps p.tables e below (T11.setTop (mkF m 70 #[.val (.long q1), .second, .val (.int p2), .val (.int p3), .val (.int p4), .val (.long (q1 &&& (2199023255551 : Int64))), .second, .val (.int ((p2 &&& (1048575 : Int32)) + (1 : Int32))), .val (.ref b1), .val (.int (Int32.ofNat b_11)), .val (.long ((((p2 &&& (1048575 : Int32)) + (1 : Int32)).toInt64) <<< ((Int32.ofNat b_11) &&& 0x3f).toInt64)), .second, .unset, .unset] [(.long ((((p2 &&& (1048575 : Int32)) + (1 : Int32)).toInt64) <<< ((Int32.ofNat b_11) &&& 0x3f).toInt64))])) _
      refine XS.lload X11.here hx rfl (hb hby at_70) rfl ?_
      show Steps p.tables e below (T11.setTop (mkF m 72 #[.val (.long q1), .second, .val (.int p2), .val (.int p3), .val (.int p4), .val (.long (q1 &&& (2199023255551 : Int64))), .second, .val (.int ((p2 &&& (1048575 : Int32)) + (1 : Int32))), .val (.ref b1), .val (.int (Int32.ofNat b_11)), .val (.long ((((p2 &&& (1048575 : Int32)) + (1 : Int32)).toInt64) <<< ((Int32.ofNat b_11) &&& 0x3f).toInt64)), .second, .unset, .unset] [(.long (q1 &&& (2199023255551 : Int64))), (.long ((((p2 &&& (1048575 : Int32)) + (1 : Int32)).toInt64) <<< ((Int32.ofNat b_11) &&& 0x3f).toInt64))])) _
      refine XS.lcmp X11.here hx rfl (hb hby at_72) rfl ?_
      show Steps p.tables e below (T11.setTop (mkF m 73 #[.val (.long q1), .second, .val (.int p2), .val (.int p3), .val (.int p4), .val (.long (q1 &&& (2199023255551 : Int64))), .second, .val (.int ((p2 &&& (1048575 : Int32)) + (1 : Int32))), .val (.ref b1), .val (.int (Int32.ofNat b_11)), .val (.long ((((p2 &&& (1048575 : Int32)) + (1 : Int32)).toInt64) <<< ((Int32.ofNat b_11) &&& 0x3f).toInt64)), .second, .unset, .unset] [(.int (lcmpW ((((p2 &&& (1048575 : Int32)) + (1 : Int32)).toInt64) <<< ((Int32.ofNat b_11) &&& 0x3f).toInt64) (q1 &&& (2199023255551 : Int64))))])) _
      refine XS.ifNo X11.here hx rfl (hb hby at_73) rfl ((if0 _ _).trans (flt (fun q_ => (own_b2 (own_bk p2).1 (own_bk p2).2 p11_0 p11_1) ((lw_lt _ _).mp q_))).1) ?_
      show Steps p.tables e below (T11.setTop (mkF m 76 #[.val (.long q1), .second, .val (.int p2), .val (.int p3), .val (.int p4), .val (.long (q1 &&& (2199023255551 : Int64))), .second, .val (.int ((p2 &&& (1048575 : Int32)) + (1 : Int32))), .val (.ref b1), .val (.int (Int32.ofNat b_11)), .val (.long ((((p2 &&& (1048575 : Int32)) + (1 : Int32)).toInt64) <<< ((Int32.ofNat b_11) &&& 0x3f).toInt64)), .second, .unset, .unset] [])) _
      refine XS.iconst X11.here hx rfl (hb hby at_76) ?_
      show Steps p.tables e below (T11.setTop (mkF m 77 #[.val (.long q1), .second, .val (.int p2), .val (.int p3), .val (.int p4), .val (.long (q1 &&& (2199023255551 : Int64))), .second, .val (.int ((p2 &&& (1048575 : Int32)) + (1 : Int32))), .val (.ref b1), .val (.int (Int32.ofNat b_11)), .val (.long ((((p2 &&& (1048575 : Int32)) + (1 : Int32)).toInt64) <<< ((Int32.ofNat b_11) &&& 0x3f).toInt64)), .second, .unset, .unset] [(.int (1 : Int32))])) _
      refine XS.goto X11.here hx rfl (pc0 := 77) (pc' := 81) rfl (hb hby at_77) (by decide) (by decide) ?_
      show Steps p.tables e below (T11.setTop (mkF m 81 #[.val (.long q1), .second, .val (.int p2), .val (.int p3), .val (.int p4), .val (.long (q1 &&& (2199023255551 : Int64))), .second, .val (.int ((p2 &&& (1048575 : Int32)) + (1 : Int32))), .val (.ref b1), .val (.int (Int32.ofNat b_11)), .val (.long ((((p2 &&& (1048575 : Int32)) + (1 : Int32)).toInt64) <<< ((Int32.ofNat b_11) &&& 0x3f).toInt64)), .second, .unset, .unset] [(.int (1 : Int32))])) _
      refine XS.istore X11.here hx rfl (hb hby at_81) rfl (l' := #[.val (.long q1), .second, .val (.int p2), .val (.int p3), .val (.int p4), .val (.long (q1 &&& (2199023255551 : Int64))), .second, .val (.int ((p2 &&& (1048575 : Int32)) + (1 : Int32))), .val (.ref b1), .val (.int (Int32.ofNat b_11)), .val (.long ((((p2 &&& (1048575 : Int32)) + (1 : Int32)).toInt64) <<< ((Int32.ofNat b_11) &&& 0x3f).toInt64)), .second, .val (.int (1 : Int32)), .unset]) rfl ?_
      show Steps p.tables e below (T11.setTop (mkF m 83 #[.val (.long q1), .second, .val (.int p2), .val (.int p3), .val (.int p4), .val (.long (q1 &&& (2199023255551 : Int64))), .second, .val (.int ((p2 &&& (1048575 : Int32)) + (1 : Int32))), .val (.ref b1), .val (.int (Int32.ofNat b_11)), .val (.long ((((p2 &&& (1048575 : Int32)) + (1 : Int32)).toInt64) <<< ((Int32.ofNat b_11) &&& 0x3f).toInt64)), .second, .val (.int (1 : Int32)), .unset] [])) _
      refine XS.iload X11.here hx rfl (hb hby at_83) rfl ?_
      show Steps p.tables e below (T11.setTop (mkF m 85 #[.val (.long q1), .second, .val (.int p2), .val (.int p3), .val (.int p4), .val (.long (q1 &&& (2199023255551 : Int64))), .second, .val (.int ((p2 &&& (1048575 : Int32)) + (1 : Int32))), .val (.ref b1), .val (.int (Int32.ofNat b_11)), .val (.long ((((p2 &&& (1048575 : Int32)) + (1 : Int32)).toInt64) <<< ((Int32.ofNat b_11) &&& 0x3f).toInt64)), .second, .val (.int (1 : Int32)), .unset] [(.int (Int32.ofNat b_11))])) _
      refine XS.ifYes X11.here hx rfl (pc0 := 85) (pc' := 102) rfl (hb hby at_85) rfl ((if0 _ _).trans (teq hc1).1) (by decide) (by decide) ?_
      show Steps p.tables e below (T11.setTop (mkF m 102 #[.val (.long q1), .second, .val (.int p2), .val (.int p3), .val (.int p4), .val (.long (q1 &&& (2199023255551 : Int64))), .second, .val (.int ((p2 &&& (1048575 : Int32)) + (1 : Int32))), .val (.ref b1), .val (.int (Int32.ofNat b_11)), .val (.long ((((p2 &&& (1048575 : Int32)) + (1 : Int32)).toInt64) <<< ((Int32.ofNat b_11) &&& 0x3f).toInt64)), .second, .val (.int (1 : Int32)), .unset] [])) _
      refine XS.iconst X11.here hx rfl (hb hby at_102) ?_
      show Steps p.tables e below (T11.setTop (mkF m 103 #[.val (.long q1), .second, .val (.int p2), .val (.int p3), .val (.int p4), .val (.long (q1 &&& (2199023255551 : Int64))), .second, .val (.int ((p2 &&& (1048575 : Int32)) + (1 : Int32))), .val (.ref b1), .val (.int (Int32.ofNat b_11)), .val (.long ((((p2 &&& (1048575 : Int32)) + (1 : Int32)).toInt64) <<< ((Int32.ofNat b_11) &&& 0x3f).toInt64)), .second, .val (.int (1 : Int32)), .unset] [(.int (1 : Int32))])) _
      refine XS.goto X11.here hx rfl (pc0 := 103) (pc' := 107) rfl (hb hby at_103) (by decide) (by decide) ?_
      show Steps p.tables e below (T11.setTop (mkF m 107 #[.val (.long q1), .second, .val (.int p2), .val (.int p3), .val (.int p4), .val (.long (q1 &&& (2199023255551 : Int64))), .second, .val (.int ((p2 &&& (1048575 : Int32)) + (1 : Int32))), .val (.ref b1), .val (.int (Int32.ofNat b_11)), .val (.long ((((p2 &&& (1048575 : Int32)) + (1 : Int32)).toInt64) <<< ((Int32.ofNat b_11) &&& 0x3f).toInt64)), .second, .val (.int (1 : Int32)), .unset] [(.int (1 : Int32))])) _
      refine XS.istore X11.here hx rfl (hb hby at_107) rfl (l' := #[.val (.long q1), .second, .val (.int p2), .val (.int p3), .val (.int p4), .val (.long (q1 &&& (2199023255551 : Int64))), .second, .val (.int ((p2 &&& (1048575 : Int32)) + (1 : Int32))), .val (.ref b1), .val (.int (Int32.ofNat b_11)), .val (.long ((((p2 &&& (1048575 : Int32)) + (1 : Int32)).toInt64) <<< ((Int32.ofNat b_11) &&& 0x3f).toInt64)), .second, .val (.int (1 : Int32)), .val (.int (1 : Int32))]) rfl ?_
      show Steps p.tables e below (T11.setTop (mkF m 109 #[.val (.long q1), .second, .val (.int p2), .val (.int p3), .val (.int p4), .val (.long (q1 &&& (2199023255551 : Int64))), .second, .val (.int ((p2 &&& (1048575 : Int32)) + (1 : Int32))), .val (.ref b1), .val (.int (Int32.ofNat b_11)), .val (.long ((((p2 &&& (1048575 : Int32)) + (1 : Int32)).toInt64) <<< ((Int32.ofNat b_11) &&& 0x3f).toInt64)), .second, .val (.int (1 : Int32)), .val (.int (1 : Int32))] [])) _
      refine XS.iload X11.here hx rfl (hb hby at_109) rfl ?_
      show Steps p.tables e below (T11.setTop (mkF m 111 #[.val (.long q1), .second, .val (.int p2), .val (.int p3), .val (.int p4), .val (.long (q1 &&& (2199023255551 : Int64))), .second, .val (.int ((p2 &&& (1048575 : Int32)) + (1 : Int32))), .val (.ref b1), .val (.int (Int32.ofNat b_11)), .val (.long ((((p2 &&& (1048575 : Int32)) + (1 : Int32)).toInt64) <<< ((Int32.ofNat b_11) &&& 0x3f).toInt64)), .second, .val (.int (1 : Int32)), .val (.int (1 : Int32))] [(.int (1 : Int32))])) _
      refine XS.ifNo X11.here hx rfl (hb hby at_111) rfl ((if0 _ _).trans (feq (by decide : ¬ ((1 : Int32) = (0 : Int32)))).1) ?_
      show Steps p.tables e below (T11.setTop (mkF m 114 #[.val (.long q1), .second, .val (.int p2), .val (.int p3), .val (.int p4), .val (.long (q1 &&& (2199023255551 : Int64))), .second, .val (.int ((p2 &&& (1048575 : Int32)) + (1 : Int32))), .val (.ref b1), .val (.int (Int32.ofNat b_11)), .val (.long ((((p2 &&& (1048575 : Int32)) + (1 : Int32)).toInt64) <<< ((Int32.ofNat b_11) &&& 0x3f).toInt64)), .second, .val (.int (1 : Int32)), .val (.int (1 : Int32))] [])) _
      refine XS.iload X11.here hx rfl (hb hby at_114) rfl ?_
      show Steps p.tables e below (T11.setTop (mkF m 116 #[.val (.long q1), .second, .val (.int p2), .val (.int p3), .val (.int p4), .val (.long (q1 &&& (2199023255551 : Int64))), .second, .val (.int ((p2 &&& (1048575 : Int32)) + (1 : Int32))), .val (.ref b1), .val (.int (Int32.ofNat b_11)), .val (.long ((((p2 &&& (1048575 : Int32)) + (1 : Int32)).toInt64) <<< ((Int32.ofNat b_11) &&& 0x3f).toInt64)), .second, .val (.int (1 : Int32)), .val (.int (1 : Int32))] [(.int (1 : Int32))])) _
      refine XS.ifNo X11.here hx rfl (hb hby at_116) rfl ((if0 _ _).trans (feq (by decide : ¬ ((1 : Int32) = (0 : Int32)))).1) ?_
      show Steps p.tables e below (T11.setTop (mkF m 119 #[.val (.long q1), .second, .val (.int p2), .val (.int p3), .val (.int p4), .val (.long (q1 &&& (2199023255551 : Int64))), .second, .val (.int ((p2 &&& (1048575 : Int32)) + (1 : Int32))), .val (.ref b1), .val (.int (Int32.ofNat b_11)), .val (.long ((((p2 &&& (1048575 : Int32)) + (1 : Int32)).toInt64) <<< ((Int32.ofNat b_11) &&& 0x3f).toInt64)), .second, .val (.int (1 : Int32)), .val (.int (1 : Int32))] [])) _
      refine XS.iconst X11.here hx rfl (hb hby at_119) ?_
      show Steps p.tables e below (T11.setTop (mkF m 120 #[.val (.long q1), .second, .val (.int p2), .val (.int p3), .val (.int p4), .val (.long (q1 &&& (2199023255551 : Int64))), .second, .val (.int ((p2 &&& (1048575 : Int32)) + (1 : Int32))), .val (.ref b1), .val (.int (Int32.ofNat b_11)), .val (.long ((((p2 &&& (1048575 : Int32)) + (1 : Int32)).toInt64) <<< ((Int32.ofNat b_11) &&& 0x3f).toInt64)), .second, .val (.int (1 : Int32)), .val (.int (1 : Int32))] [(.int (1 : Int32))])) _
      refine XS.goto X11.here hx rfl (pc0 := 120) (pc' := 124) rfl (hb hby at_120) (by decide) (by decide) ?_
      show Steps p.tables e below (T11.setTop (mkF m 124 #[.val (.long q1), .second, .val (.int p2), .val (.int p3), .val (.int p4), .val (.long (q1 &&& (2199023255551 : Int64))), .second, .val (.int ((p2 &&& (1048575 : Int32)) + (1 : Int32))), .val (.ref b1), .val (.int (Int32.ofNat b_11)), .val (.long ((((p2 &&& (1048575 : Int32)) + (1 : Int32)).toInt64) <<< ((Int32.ofNat b_11) &&& 0x3f).toInt64)), .second, .val (.int (1 : Int32)), .val (.int (1 : Int32))] [(.int (1 : Int32))])) _
      exact retN X11 hx (t := .boolean) Bd.returns (by simp) (hb hby at_124) hr
    · show Q_rm0 Z q1 p2 p3 p4 h0 n0 _ T11.heap _
      exact ⟨rfl, N11⟩
  · obtain ⟨fs, hr, hrun, hended, hW, hsame⟩ := X11.leave (v := some (.int (1 : Int32))) (fun h => by rw [Bd.returns] at h; cases h)
    refine ⟨_, _, pre0 _ ?_, hrun, hended, _, _, rfl, ?_, ⟨_, rfl⟩, hW, hsame.mono (by decide) (by decide)⟩
    · show Steps p.tables e below (s₁.setTop (mkF m 0 #[.val (.long q1), .second, .val (.int p2), .val (.int p3), .val (.int p4), .unset, .unset, .unset, .unset, .unset, .unset, .unset, .unset, .unset] [])) _
      refine XS.lloadN X0.here hx rfl (hb hby at_0) rfl ?_
      show Steps p.tables e below (s₁.setTop (mkF m 1 #[.val (.long q1), .second, .val (.int p2), .val (.int p3), .val (.int p4), .unset, .unset, .unset, .unset, .unset, .unset, .unset, .unset, .unset] [(.long q1)])) _
      refine X0.ldc2Long hx hown (mvT hZ (hw _ (List.mem_of_getElem? (i := 0) rfl))) (g := (mkF m 1 #[.val (.long q1), .second, .val (.int p2), .val (.int p3), .val (.int p4), .unset, .unset, .unset, .unset, .unset, .unset, .unset, .unset, .unset] [(.long q1)])) rfl (hb hby at_1) _ ?_
      show Steps p.tables e below (s₁.setTop (mkF m 4 #[.val (.long q1), .second, .val (.int p2), .val (.int p3), .val (.int p4), .unset, .unset, .unset, .unset, .unset, .unset, .unset, .unset, .unset] [(.long (2199023255551 : Int64)), (.long q1)])) _
      refine XS.land X0.here hx rfl (hb hby at_4) rfl ?_
      show Steps p.tables e below (s₁.setTop (mkF m 5 #[.val (.long q1), .second, .val (.int p2), .val (.int p3), .val (.int p4), .unset, .unset, .unset, .unset, .unset, .unset, .unset, .unset, .unset] [(.long (q1 &&& (2199023255551 : Int64)))])) _
      refine XS.lstore X0.here hx rfl (hb hby at_5) rfl (l' := #[.val (.long q1), .second, .val (.int p2), .val (.int p3), .val (.int p4), .val (.long (q1 &&& (2199023255551 : Int64))), .second, .unset, .unset, .unset, .unset, .unset, .unset, .unset]) rfl ?_
      show Steps p.tables e below (s₁.setTop (mkF m 7 #[.val (.long q1), .second, .val (.int p2), .val (.int p3), .val (.int p4), .val (.long (q1 &&& (2199023255551 : Int64))), .second, .unset, .unset, .unset, .unset, .unset, .unset, .unset] [])) _
      refine XS.iloadN X0.here hx rfl (hb hby at_7) rfl ?_
      show Steps p.tables e below (s₁.setTop (mkF m 8 #[.val (.long q1), .second, .val (.int p2), .val (.int p3), .val (.int p4), .val (.long (q1 &&& (2199023255551 : Int64))), .second, .unset, .unset, .unset, .unset, .unset, .unset, .unset] [(.int p2)])) _
      refine X0.ldcInt hx hown (mvT hZ (hw _ (List.mem_of_getElem? (i := 1) rfl))) (g := (mkF m 8 #[.val (.long q1), .second, .val (.int p2), .val (.int p3), .val (.int p4), .val (.long (q1 &&& (2199023255551 : Int64))), .second, .unset, .unset, .unset, .unset, .unset, .unset, .unset] [(.int p2)])) rfl (hb hby at_8) _ ?_
      show Steps p.tables e below (s₁.setTop (mkF m 10 #[.val (.long q1), .second, .val (.int p2), .val (.int p3), .val (.int p4), .val (.long (q1 &&& (2199023255551 : Int64))), .second, .unset, .unset, .unset, .unset, .unset, .unset, .unset] [(.int (1048575 : Int32)), (.int p2)])) _
      refine XS.iand X0.here hx rfl (hb hby at_10) rfl ?_
      show Steps p.tables e below (s₁.setTop (mkF m 11 #[.val (.long q1), .second, .val (.int p2), .val (.int p3), .val (.int p4), .val (.long (q1 &&& (2199023255551 : Int64))), .second, .unset, .unset, .unset, .unset, .unset, .unset, .unset] [(.int (p2 &&& (1048575 : Int32)))])) _
      refine XS.iconst X0.here hx rfl (hb hby at_11) ?_
      show Steps p.tables e below (s₁.setTop (mkF m 12 #[.val (.long q1), .second, .val (.int p2), .val (.int p3), .val (.int p4), .val (.long (q1 &&& (2199023255551 : Int64))), .second, .unset, .unset, .unset, .unset, .unset, .unset, .unset] [(.int (1 : Int32)), (.int (p2 &&& (1048575 : Int32)))])) _
      refine XS.iadd X0.here hx rfl (hb hby at_12) rfl ?_
      show Steps p.tables e below (s₁.setTop (mkF m 13 #[.val (.long q1), .second, .val (.int p2), .val (.int p3), .val (.int p4), .val (.long (q1 &&& (2199023255551 : Int64))), .second, .unset, .unset, .unset, .unset, .unset, .unset, .unset] [(.int ((p2 &&& (1048575 : Int32)) + (1 : Int32)))])) _
      refine XS.istore X0.here hx rfl (hb hby at_13) rfl (l' := #[.val (.long q1), .second, .val (.int p2), .val (.int p3), .val (.int p4), .val (.long (q1 &&& (2199023255551 : Int64))), .second, .val (.int ((p2 &&& (1048575 : Int32)) + (1 : Int32))), .unset, .unset, .unset, .unset, .unset, .unset]) rfl ?_
      show Steps p.tables e below (s₁.setTop (mkF m 15 #[.val (.long q1), .second, .val (.int p2), .val (.int p3), .val (.int p4), .val (.long (q1 &&& (2199023255551 : Int64))), .second, .val (.int ((p2 &&& (1048575 : Int32)) + (1 : Int32))), .unset, .unset, .unset, .unset, .unset, .unset] [])) _
      refine st1 _ ?_
      show Steps p.tables e below (T1.setTop (mkF m 18 #[.val (.long q1), .second, .val (.int p2), .val (.int p3), .val (.int p4), .val (.long (q1 &&& (2199023255551 : Int64))), .second, .val (.int ((p2 &&& (1048575 : Int32)) + (1 : Int32))), .unset, .unset, .unset, .unset, .unset, .unset] [(.ref b1)])) _
      refine XS.dup X1.here hx rfl (hb hby at_18) rfl rfl ?_
      show Steps p.tables e below (T1.setTop (mkF m 19 #[.val (.long q1), .second, .val (.int p2), .val (.int p3), .val (.int p4), .val (.long (q1 &&& (2199023255551 : Int64))), .second, .val (.int ((p2 &&& (1048575 : Int32)) + (1 : Int32))), .unset, .unset, .unset, .unset, .unset, .unset] [(.ref b1), (.ref b1)])) _
      refine XS.iloadN X1.here hx rfl (hb hby at_19) rfl ?_
      show Steps p.tables e below (T1.setTop (mkF m 20 #[.val (.long q1), .second, .val (.int p2), .val (.int p3), .val (.int p4), .val (.long (q1 &&& (2199023255551 : Int64))), .second, .val (.int ((p2 &&& (1048575 : Int32)) + (1 : Int32))), .unset, .unset, .unset, .unset, .unset, .unset] [(.int p3), (.ref b1), (.ref b1)])) _
      refine XS.iload X1.here hx rfl (hb hby at_20) rfl ?_
      show Steps p.tables e below (T1.setTop (mkF m 22 #[.val (.long q1), .second, .val (.int p2), .val (.int p3), .val (.int p4), .val (.long (q1 &&& (2199023255551 : Int64))), .second, .val (.int ((p2 &&& (1048575 : Int32)) + (1 : Int32))), .unset, .unset, .unset, .unset, .unset, .unset] [(.int p4), (.int p3), (.ref b1), (.ref b1)])) _
      refine XS.sipush X1.here hx rfl (hb hby at_22) ?_
      show Steps p.tables e below (T1.setTop (mkF m 25 #[.val (.long q1), .second, .val (.int p2), .val (.int p3), .val (.int p4), .val (.long (q1 &&& (2199023255551 : Int64))), .second, .val (.int ((p2 &&& (1048575 : Int32)) + (1 : Int32))), .unset, .unset, .unset, .unset, .unset, .unset] [(.int (8192 : Int32)), (.int p4), (.int p3), (.ref b1), (.ref b1)])) _
      refine XS.bipush X1.here hx rfl (hb hby at_25) ?_
      show Steps p.tables e below (T1.setTop (mkF m 27 #[.val (.long q1), .second, .val (.int p2), .val (.int p3), .val (.int p4), .val (.long (q1 &&& (2199023255551 : Int64))), .second, .val (.int ((p2 &&& (1048575 : Int32)) + (1 : Int32))), .unset, .unset, .unset, .unset, .unset, .unset] [(.int (8 : Int32)), (.int (8192 : Int32)), (.int p4), (.int p3), (.ref b1), (.ref b1)])) _
      refine XS.sipush X1.here hx rfl (hb hby at_27) ?_
      show Steps p.tables e below (T1.setTop (mkF m 30 #[.val (.long q1), .second, .val (.int p2), .val (.int p3), .val (.int p4), .val (.long (q1 &&& (2199023255551 : Int64))), .second, .val (.int ((p2 &&& (1048575 : Int32)) + (1 : Int32))), .unset, .unset, .unset, .unset, .unset, .unset] [(.int (8192 : Int32)), (.int (8 : Int32)), (.int (8192 : Int32)), (.int p4), (.int p3), (.ref b1), (.ref b1)])) _
      refine XS.iload X1.here hx rfl (hb hby at_30) rfl ?_
      show Steps p.tables e below (T1.setTop (mkF m 32 #[.val (.long q1), .second, .val (.int p2), .val (.int p3), .val (.int p4), .val (.long (q1 &&& (2199023255551 : Int64))), .second, .val (.int ((p2 &&& (1048575 : Int32)) + (1 : Int32))), .unset, .unset, .unset, .unset, .unset, .unset] [(.int ((p2 &&& (1048575 : Int32)) + (1 : Int32))), (.int (8192 : Int32)), (.int (8 : Int32)), (.int (8192 : Int32)), (.int p4), (.int p3), (.ref b1), (.ref b1)])) _
      refine st9.trans ?_
      show Steps p.tables e below (T9.setTop (mkF m 35 #[.val (.long q1), .second, .val (.int p2), .val (.int p3), .val (.int p4), .val (.long (q1 &&& (2199023255551 : Int64))), .second, .val (.int ((p2 &&& (1048575 : Int32)) + (1 : Int32))), .unset, .unset, .unset, .unset, .unset, .unset] [(.ref b1)])) _
      refine XS.astore X9.here hx rfl (hb hby at_35) rfl rfl (l' := #[.val (.long q1), .second, .val (.int p2), .val (.int p3), .val (.int p4), .val (.long (q1 &&& (2199023255551 : Int64))), .second, .val (.int ((p2 &&& (1048575 : Int32)) + (1 : Int32))), .val (.ref b1), .unset, .unset, .unset, .unset, .unset]) rfl ?_
      show Steps p.tables e below (T9.setTop (mkF m 37 #[.val (.long q1), .second, .val (.int p2), .val (.int p3), .val (.int p4), .val (.long (q1 &&& (2199023255551 : Int64))), .second, .val (.int ((p2 &&& (1048575 : Int32)) + (1 : Int32))), .val (.ref b1), .unset, .unset, .unset, .unset, .unset] [])) _
      refine XS.aload X9.here hx rfl (hb hby at_37) rfl rfl ?_
      show Steps p.tables e below (T9.setTop (mkF m 39 #[.val (.long q1), .second, .val (.int p2), .val (.int p3), .val (.int p4), .val (.long (q1 &&& (2199023255551 : Int64))), .second, .val (.int ((p2 &&& (1048575 : Int32)) + (1 : Int32))), .val (.ref b1), .unset, .unset, .unset, .unset, .unset] [(.ref b1)])) _
      refine XS.lload X9.here hx rfl (hb hby at_39) rfl ?_
      show Steps p.tables e below (T9.setTop (mkF m 41 #[.val (.long q1), .second, .val (.int p2), .val (.int p3), .val (.int p4), .val (.long (q1 &&& (2199023255551 : Int64))), .second, .val (.int ((p2 &&& (1048575 : Int32)) + (1 : Int32))), .val (.ref b1), .unset, .unset, .unset, .unset, .unset] [(.long (q1 &&& (2199023255551 : Int64))), (.ref b1)])) _
      refine st11.trans ?_
      show Steps p.tables e below (T11.setTop (mkF m 44 #[.val (.long q1), .second, .val (.int p2), .val (.int p3), .val (.int p4), .val (.long (q1 &&& (2199023255551 : Int64))), .second, .val (.int ((p2 &&& (1048575 : Int32)) + (1 : Int32))), .val (.ref b1), .unset, .unset, .unset, .unset, .unset] [(.int (Int32.ofNat b_11))])) _
      refine XS.istore X11.here hx rfl (hb hby at_44) rfl (l' := #[.val (.long q1), .second, .val (.int p2), .val (.int p3), .val (.int p4), .val (.long (q1 &&& (2199023255551 : Int64))), .second, .val (.int ((p2 &&& (1048575 : Int32)) + (1 : Int32))), .val (.ref b1), .val (.int (Int32.ofNat b_11)), .unset, .unset, .unset, .unset]) rfl ?_
      show Steps p.tables e below (T11.setTop (mkF m 46 #[.val (.long q1), .second, .val (.int p2), .val (.int p3), .val (.int p4), .val (.long (q1 &&& (2199023255551 : Int64))), .second, .val (.int ((p2 &&& (1048575 : Int32)) + (1 : Int32))), .val (.ref b1), .val (.int (Int32.ofNat b_11)), .unset, .unset, .unset, .unset] [])) _
      refine XS.iload X11.here hx rfl (hb hby at_46) rfl ?_
      show Steps p.tables e below (T11.setTop (mkF m 48 #[.val (.long q1), .second, .val (.int p2), .val (.int p3), .val (.int p4), .val (.long (q1 &&& (2199023255551 : Int64))), .second, .val (.int ((p2 &&& (1048575 : Int32)) + (1 : Int32))), .val (.ref b1), .val (.int (Int32.ofNat b_11)), .unset, .unset, .unset, .unset] [(.int (Int32.ofNat b_11))])) _
      refine XS.ifNo X11.here hx rfl (hb hby at_48) rfl ((if0 _ _).trans (flt (own_b0 p11_0)).1) ?_
      show Steps p.tables e below (T11.setTop (mkF m 51 #[.val (.long q1), .second, .val (.int p2), .val (.int p3), .val (.int p4), .val (.long (q1 &&& (2199023255551 : Int64))), .second, .val (.int ((p2 &&& (1048575 : Int32)) + (1 : Int32))), .val (.ref b1), .val (.int (Int32.ofNat b_11)), .unset, .unset, .unset, .unset] [])) _
      refine XS.iload X11.here hx rfl (hb hby at_51) rfl ?_
      show Steps p.tables e below (T11.setTop (mkF m 53 #[.val (.long q1), .second, .val (.int p2), .val (.int p3), .val (.int p4), .val (.long (q1 &&& (2199023255551 : Int64))), .second, .val (.int ((p2 &&& (1048575 : Int32)) + (1 : Int32))), .val (.ref b1), .val (.int (Int32.ofNat b_11)), .unset, .unset, .unset, .unset] [(.int (Int32.ofNat b_11))])) _
      refine XS.bipush X11.here hx rfl (hb hby at_53) ?_
      show Steps p.tables e below (T11.setTop (mkF m 55 #[.val (.long q1), .second, .val (.int p2), .val (.int p3), .val (.int p4), .val (.long (q1 &&& (2199023255551 : Int64))), .second, .val (.int ((p2 &&& (1048575 : Int32)) + (1 : Int32))), .val (.ref b1), .val (.int (Int32.ofNat b_11)), .unset, .unset, .unset, .unset] [(.int (41 : Int32)), (.int (Int32.ofNat b_11))])) _
      refine XS.icmpYes X11.here hx rfl (pc0 := 55) (pc' := 60) rfl (hb hby at_55) rfl (flt (own_b1 p11_0)).2.2.2 (by decide) (by decide) ?_
      show Steps p.tables e below (T11.setTop (mkF m 60 #[.val (.long q1), .second, .val (.int p2), .val (.int p3), .val (.int p4), .val (.long (q1 &&& (2199023255551 : Int64))), .second, .val (.int ((p2 &&& (1048575 : Int32)) + (1 : Int32))), .val (.ref b1), .val (.int (Int32.ofNat b_11)), .unset, .unset, .unset, .unset] [])) _
      refine XS.iload X11.here hx rfl (hb hby at_60) rfl ?_
      show Steps p.tables e below (T11.setTop (mkF m 62 #[.val (.long q1), .second, .val (.int p2), .val (.int p3), .val (.int p4), .val (.long (q1 &&& (2199023255551 : Int64))), .second, .val (.int ((p2 &&& (1048575 : Int32)) + (1 : Int32))), .val (.ref b1), .val (.int (Int32.ofNat b_11)), .unset, .unset, .unset, .unset] [(.int ((p2 &&& (1048575 : Int32)) + (1 : Int32)))])) _
      refine XS.i2l X11.here hx rfl (hb hby at_62) rfl ?_
      show Steps p.tables e below (T11.setTop (mkF m 63 #[.val (.long q1), .second, .val (.int p2), .val (.int p3), .val (.int p4), .val (.long (q1 &&& (2199023255551 : Int64))), .second, .val (.int ((p2 &&& (1048575 : Int32)) + (1 : Int32))), .val (.ref b1), .val (.int (Int32.ofNat b_11)), .unset, .unset, .unset, .unset] [(.long (((p2 &&& (1048575 : Int32)) + (1 : Int32)).toInt64))])) _
      refine XS.iload X11.here hx rfl (hb hby at_63) rfl ?_
      show Steps p.tables e below (T11.setTop (mkF m 65 #[.val (.long q1), .second, .val (.int p2), .val (.int p3), .val (.int p4), .val (.long (q1 &&& (2199023255551 : Int64))), .second, .val (.int ((p2 &&& (1048575 : Int32)) + (1 : Int32))), .val (.ref b1), .val (.int (Int32.ofNat b_11)), .unset, .unset, .unset, .unset] [(.int (Int32.ofNat b_11)), (.long (((p2 &&& (1048575 : Int32)) + (1 : Int32)).toInt64))])) _
      refine XS.lshl X11.here hx rfl (hb hby at_65) rfl ?_
      show Steps p.tables e below (T11.setTop (mkF m 66 #[.val (.long q1), .second, .val (.int p2), .val (.int p3), .val (.int p4), .val (.long (q1 &&& (2199023255551 : Int64))), .second, .val (.int ((p2 &&& (1048575 : Int32)) + (1 : Int32))), .val (.ref b1), .val (.int (Int32.ofNat b_11)), .unset, .unset, .unset, .unset] [(.long ((((p2 &&& (1048575 : Int32)) + (1 : Int32)).toInt64) <<< ((Int32.ofNat b_11) &&& 0x3f).toInt64))])) _
      refine XS.lstore X11.here hx rfl (hb hby at_66) rfl (l' := #[.val (.long q1), .second, .val (.int p2), .val (.int p3), .val (.int p4), .val (.long (q1 &&& (2199023255551 : Int64))), .second, .val (.int ((p2 &&& (1048575 : Int32)) + (1 : Int32))), .val (.ref b1), .val (.int (Int32.ofNat b_11)), .val (.long ((((p2 &&& (1048575 : Int32)) + (1 : Int32)).toInt64) <<< ((Int32.ofNat b_11) &&& 0x3f).toInt64)), .second, .unset, .unset]) rfl ?_
      show Steps p.tables e below (T11.setTop (mkF m 68 #[.val (.long q1), .second, .val (.int p2), .val (.int p3), .val (.int p4), .val (.long (q1 &&& (2199023255551 : Int64))), .second, .val (.int ((p2 &&& (1048575 : Int32)) + (1 : Int32))), .val (.ref b1), .val (.int (Int32.ofNat b_11)), .val (.long ((((p2 &&& (1048575 : Int32)) + (1 : Int32)).toInt64) <<< ((Int32.ofNat b_11) &&& 0x3f).toInt64)), .second, .unset, .unset] [])) _
      refine XS.lload X11.here hx rfl (hb hby at_68) rfl ?_
      show Steps p.tables e below (T11.setTop (mkF m 70 #[.val (.long q1), .second, .val (.int p2), .val (.int p3), .val (.int p4), .val (.long (q1 &&& (2199023255551 : Int64))), .second, .val (.int ((p2 &&& (1048575 : Int32)) + (1 : Int32))), .val (.ref b1), .val (.int (Int32.ofNat b_11)), .val (.long ((((p2 &&& (1048575 : Int32)) + (1 : Int32)).toInt64) <<< ((Int32.ofNat b_11) &&& 0x3f).toInt64)), .second, .unset, .unset] [(.long ((((p2 &&& (1048575 : Int32)) + (1 : Int32)).toInt64) <<< ((Int32.ofNat b_11) &&& 0x3f).toInt64))])) _
      refine XS.lload X11.here hx rfl (hb hby at_70) rfl ?_
      show Steps p.tables e below (T11.setTop (mkF m 72 #[.val (.long q1), .second, .val (.int p2), .val (.int p3), .val (.int p4), .val (.long (q1 &&& (2199023255551 : Int64))), .second, .val (.int ((p2 &&& (1048575 : Int32)) + (1 : Int32))), .val (.ref b1), .val (.int (Int32.ofNat b_11)), .val (.long ((((p2 &&& (1048575 : Int32)) + (1 : Int32)).toInt64) <<< ((Int32.ofNat b_11) &&& 0x3f).toInt64)), .second, .unset, .unset] [(.long (q1 &&& (2199023255551 : Int64))), (.long ((((p2 &&& (1048575 : Int32)) + (1 : Int32)).toInt64) <<< ((Int32.ofNat b_11) &&& 0x3f).toInt64))])) _
      refine XS.lcmp X11.here hx rfl (hb hby at_72) rfl ?_
      show Steps p.tables e below (T11.setTop (mkF m 73 #[.val (.long q1), .second, .val (.int p2), .val (.int p3), .val (.int p4), .val (.long (q1 &&& (2199023255551 : Int64))), .second, .val (.int ((p2 &&& (1048575 : Int32)) + (1 : Int32))), .val (.ref b1), .val (.int (Int32.ofNat b_11)), .val (.long ((((p2 &&& (1048575 : Int32)) + (1 : Int32)).toInt64) <<< ((Int32.ofNat b_11) &&& 0x3f).toInt64)), .second, .unset, .unset] [(.int (lcmpW ((((p2 &&& (1048575 : Int32)) + (1 : Int32)).toInt64) <<< ((Int32.ofNat b_11) &&& 0x3f).toInt64) (q1 &&& (2199023255551 : Int64))))])) _
      refine XS.ifNo X11.here hx rfl (hb hby at_73) rfl ((if0 _ _).trans (flt (fun q_ => (own_b2 (own_bk p2).1 (own_bk p2).2 p11_0 p11_1) ((lw_lt _ _).mp q_))).1) ?_
      show Steps p.tables e below (T11.setTop (mkF m 76 #[.val (.long q1), .second, .val (.int p2), .val (.int p3), .val (.int p4), .val (.long (q1 &&& (2199023255551 : Int64))), .second, .val (.int ((p2 &&& (1048575 : Int32)) + (1 : Int32))), .val (.ref b1), .val (.int (Int32.ofNat b_11)), .val (.long ((((p2 &&& (1048575 : Int32)) + (1 : Int32)).toInt64) <<< ((Int32.ofNat b_11) &&& 0x3f).toInt64)), .second, .unset, .unset] [])) _
      refine XS.iconst X11.here hx rfl (hb hby at_76) ?_
      show Steps p.tables e below (T11.setTop (mkF m 77 #[.val (.long q1), .second, .val (.int p2), .val (.int p3), .val (.int p4), .val (.long (q1 &&& (2199023255551 : Int64))), .second, .val (.int ((p2 &&& (1048575 : Int32)) + (1 : Int32))), .val (.ref b1), .val (.int (Int32.ofNat b_11)), .val (.long ((((p2 &&& (1048575 : Int32)) + (1 : Int32)).toInt64) <<< ((Int32.ofNat b_11) &&& 0x3f).toInt64)), .second, .unset, .unset] [(.int (1 : Int32))])) _
      refine XS.goto X11.here hx rfl (pc0 := 77) (pc' := 81) rfl (hb hby at_77) (by decide) (by decide) ?_
      show Steps p.tables e below (T11.setTop (mkF m 81 #[.val (.long q1), .second, .val (.int p2), .val (.int p3), .val (.int p4), .val (.long (q1 &&& (2199023255551 : Int64))), .second, .val (.int ((p2 &&& (1048575 : Int32)) + (1 : Int32))), .val (.ref b1), .val (.int (Int32.ofNat b_11)), .val (.long ((((p2 &&& (1048575 : Int32)) + (1 : Int32)).toInt64) <<< ((Int32.ofNat b_11) &&& 0x3f).toInt64)), .second, .unset, .unset] [(.int (1 : Int32))])) _
      refine XS.istore X11.here hx rfl (hb hby at_81) rfl (l' := #[.val (.long q1), .second, .val (.int p2), .val (.int p3), .val (.int p4), .val (.long (q1 &&& (2199023255551 : Int64))), .second, .val (.int ((p2 &&& (1048575 : Int32)) + (1 : Int32))), .val (.ref b1), .val (.int (Int32.ofNat b_11)), .val (.long ((((p2 &&& (1048575 : Int32)) + (1 : Int32)).toInt64) <<< ((Int32.ofNat b_11) &&& 0x3f).toInt64)), .second, .val (.int (1 : Int32)), .unset]) rfl ?_
      show Steps p.tables e below (T11.setTop (mkF m 83 #[.val (.long q1), .second, .val (.int p2), .val (.int p3), .val (.int p4), .val (.long (q1 &&& (2199023255551 : Int64))), .second, .val (.int ((p2 &&& (1048575 : Int32)) + (1 : Int32))), .val (.ref b1), .val (.int (Int32.ofNat b_11)), .val (.long ((((p2 &&& (1048575 : Int32)) + (1 : Int32)).toInt64) <<< ((Int32.ofNat b_11) &&& 0x3f).toInt64)), .second, .val (.int (1 : Int32)), .unset] [])) _
      refine XS.iload X11.here hx rfl (hb hby at_83) rfl ?_
      show Steps p.tables e below (T11.setTop (mkF m 85 #[.val (.long q1), .second, .val (.int p2), .val (.int p3), .val (.int p4), .val (.long (q1 &&& (2199023255551 : Int64))), .second, .val (.int ((p2 &&& (1048575 : Int32)) + (1 : Int32))), .val (.ref b1), .val (.int (Int32.ofNat b_11)), .val (.long ((((p2 &&& (1048575 : Int32)) + (1 : Int32)).toInt64) <<< ((Int32.ofNat b_11) &&& 0x3f).toInt64)), .second, .val (.int (1 : Int32)), .unset] [(.int (Int32.ofNat b_11))])) _
      refine XS.ifNo X11.here hx rfl (hb hby at_85) rfl ((if0 _ _).trans (feq hc1).1) ?_
      show Steps p.tables e below (T11.setTop (mkF m 88 #[.val (.long q1), .second, .val (.int p2), .val (.int p3), .val (.int p4), .val (.long (q1 &&& (2199023255551 : Int64))), .second, .val (.int ((p2 &&& (1048575 : Int32)) + (1 : Int32))), .val (.ref b1), .val (.int (Int32.ofNat b_11)), .val (.long ((((p2 &&& (1048575 : Int32)) + (1 : Int32)).toInt64) <<< ((Int32.ofNat b_11) &&& 0x3f).toInt64)), .second, .val (.int (1 : Int32)), .unset] [])) _
      refine XS.iload X11.here hx rfl (hb hby at_88) rfl ?_
      show Steps p.tables e below (T11.setTop (mkF m 90 #[.val (.long q1), .second, .val (.int p2), .val (.int p3), .val (.int p4), .val (.long (q1 &&& (2199023255551 : Int64))), .second, .val (.int ((p2 &&& (1048575 : Int32)) + (1 : Int32))), .val (.ref b1), .val (.int (Int32.ofNat b_11)), .val (.long ((((p2 &&& (1048575 : Int32)) + (1 : Int32)).toInt64) <<< ((Int32.ofNat b_11) &&& 0x3f).toInt64)), .second, .val (.int (1 : Int32)), .unset] [(.int ((p2 &&& (1048575 : Int32)) + (1 : Int32)))])) _
      refine XS.i2l X11.here hx rfl (hb hby at_90) rfl ?_
      show Steps p.tables e below (T11.setTop (mkF m 91 #[.val (.long q1), .second, .val (.int p2), .val (.int p3), .val (.int p4), .val (.long (q1 &&& (2199023255551 : Int64))), .second, .val (.int ((p2 &&& (1048575 : Int32)) + (1 : Int32))), .val (.ref b1), .val (.int (Int32.ofNat b_11)), .val (.long ((((p2 &&& (1048575 : Int32)) + (1 : Int32)).toInt64) <<< ((Int32.ofNat b_11) &&& 0x3f).toInt64)), .second, .val (.int (1 : Int32)), .unset] [(.long (((p2 &&& (1048575 : Int32)) + (1 : Int32)).toInt64))])) _
      refine XS.iload X11.here hx rfl (hb hby at_91) rfl ?_
      show Steps p.tables e below (T11.setTop (mkF m 93 #[.val (.long q1), .second, .val (.int p2), .val (.int p3), .val (.int p4), .val (.long (q1 &&& (2199023255551 : Int64))), .second, .val (.int ((p2 &&& (1048575 : Int32)) + (1 : Int32))), .val (.ref b1), .val (.int (Int32.ofNat b_11)), .val (.long ((((p2 &&& (1048575 : Int32)) + (1 : Int32)).toInt64) <<< ((Int32.ofNat b_11) &&& 0x3f).toInt64)), .second, .val (.int (1 : Int32)), .unset] [(.int (Int32.ofNat b_11)), (.long (((p2 &&& (1048575 : Int32)) + (1 : Int32)).toInt64))])) _
      refine XS.iconst X11.here hx rfl (hb hby at_93) ?_
      show Steps p.tables e below (T11.setTop (mkF m 94 #[.val (.long q1), .second, .val (.int p2), .val (.int p3), .val (.int p4), .val (.long (q1 &&& (2199023255551 : Int64))), .second, .val (.int ((p2 &&& (1048575 : Int32)) + (1 : Int32))), .val (.ref b1), .val (.int (Int32.ofNat b_11)), .val (.long ((((p2 &&& (1048575 : Int32)) + (1 : Int32)).toInt64) <<< ((Int32.ofNat b_11) &&& 0x3f).toInt64)), .second, .val (.int (1 : Int32)), .unset] [(.int (1 : Int32)), (.int (Int32.ofNat b_11)), (.long (((p2 &&& (1048575 : Int32)) + (1 : Int32)).toInt64))])) _
      refine XS.isub X11.here hx rfl (hb hby at_94) rfl ?_
      show Steps p.tables e below (T11.setTop (mkF m 95 #[.val (.long q1), .second, .val (.int p2), .val (.int p3), .val (.int p4), .val (.long (q1 &&& (2199023255551 : Int64))), .second, .val (.int ((p2 &&& (1048575 : Int32)) + (1 : Int32))), .val (.ref b1), .val (.int (Int32.ofNat b_11)), .val (.long ((((p2 &&& (1048575 : Int32)) + (1 : Int32)).toInt64) <<< ((Int32.ofNat b_11) &&& 0x3f).toInt64)), .second, .val (.int (1 : Int32)), .unset] [(.int ((Int32.ofNat b_11) - (1 : Int32))), (.long (((p2 &&& (1048575 : Int32)) + (1 : Int32)).toInt64))])) _
      refine XS.lshl X11.here hx rfl (hb hby at_95) rfl ?_
      show Steps p.tables e below (T11.setTop (mkF m 96 #[.val (.long q1), .second, .val (.int p2), .val (.int p3), .val (.int p4), .val (.long (q1 &&& (2199023255551 : Int64))), .second, .val (.int ((p2 &&& (1048575 : Int32)) + (1 : Int32))), .val (.ref b1), .val (.int (Int32.ofNat b_11)), .val (.long ((((p2 &&& (1048575 : Int32)) + (1 : Int32)).toInt64) <<< ((Int32.ofNat b_11) &&& 0x3f).toInt64)), .second, .val (.int (1 : Int32)), .unset] [(.long ((((p2 &&& (1048575 : Int32)) + (1 : Int32)).toInt64) <<< (((Int32.ofNat b_11) - (1 : Int32)) &&& 0x3f).toInt64))])) _
      refine XS.lload X11.here hx rfl (hb hby at_96) rfl ?_
      show Steps p.tables e below (T11.setTop (mkF m 98 #[.val (.long q1), .second, .val (.int p2), .val (.int p3), .val (.int p4), .val (.long (q1 &&& (2199023255551 : Int64))), .second, .val (.int ((p2 &&& (1048575 : Int32)) + (1 : Int32))), .val (.ref b1), .val (.int (Int32.ofNat b_11)), .val (.long ((((p2 &&& (1048575 : Int32)) + (1 : Int32)).toInt64) <<< ((Int32.ofNat b_11) &&& 0x3f).toInt64)), .second, .val (.int (1 : Int32)), .unset] [(.long (q1 &&& (2199023255551 : Int64))), (.long ((((p2 &&& (1048575 : Int32)) + (1 : Int32)).toInt64) <<< (((Int32.ofNat b_11) - (1 : Int32)) &&& 0x3f).toInt64))])) _
      refine XS.lcmp X11.here hx rfl (hb hby at_98) rfl ?_
      show Steps p.tables e below (T11.setTop (mkF m 99 #[.val (.long q1), .second, .val (.int p2), .val (.int p3), .val (.int p4), .val (.long (q1 &&& (2199023255551 : Int64))), .second, .val (.int ((p2 &&& (1048575 : Int32)) + (1 : Int32))), .val (.ref b1), .val (.int (Int32.ofNat b_11)), .val (.long ((((p2 &&& (1048575 : Int32)) + (1 : Int32)).toInt64) <<< ((Int32.ofNat b_11) &&& 0x3f).toInt64)), .second, .val (.int (1 : Int32)), .unset] [(.int (lcmpW ((((p2 &&& (1048575 : Int32)) + (1 : Int32)).toInt64) <<< (((Int32.ofNat b_11) - (1 : Int32)) &&& 0x3f).toInt64) (q1 &&& (2199023255551 : Int64))))])) _
      refine XS.ifNo X11.here hx rfl (hb hby at_99) rfl ((if0 _ _).trans (tlt ((lw_lt _ _).mpr (own_b3 (own_bk p2).1 (own_bk p2).2 p11_0 p11_2 hc1))).2.1) ?_
      show Steps p.tables e below (T11.setTop (mkF m 102 #[.val (.long q1), .second, .val (.int p2), .val (.int p3), .val (.int p4), .val (.long (q1 &&& (2199023255551 : Int64))), .second, .val (.int ((p2 &&& (1048575 : Int32)) + (1 : Int32))), .val (.ref b1), .val (.int (Int32.ofNat b_11)), .val (.long ((((p2 &&& (1048575 : Int32)) + (1 : Int32)).toInt64) <<< ((Int32.ofNat b_11) &&& 0x3f).toInt64)), .second, .val (.int (1 : Int32)), .unset] [])) _
      refine XS.iconst X11.here hx rfl (hb hby at_102) ?_
      show Steps p.tables e below (T11.setTop (mkF m 103 #[.val (.long q1), .second, .val (.int p2), .val (.int p3), .val (.int p4), .val (.long (q1 &&& (2199023255551 : Int64))), .second, .val (.int ((p2 &&& (1048575 : Int32)) + (1 : Int32))), .val (.ref b1), .val (.int (Int32.ofNat b_11)), .val (.long ((((p2 &&& (1048575 : Int32)) + (1 : Int32)).toInt64) <<< ((Int32.ofNat b_11) &&& 0x3f).toInt64)), .second, .val (.int (1 : Int32)), .unset] [(.int (1 : Int32))])) _
      refine XS.goto X11.here hx rfl (pc0 := 103) (pc' := 107) rfl (hb hby at_103) (by decide) (by decide) ?_
      show Steps p.tables e below (T11.setTop (mkF m 107 #[.val (.long q1), .second, .val (.int p2), .val (.int p3), .val (.int p4), .val (.long (q1 &&& (2199023255551 : Int64))), .second, .val (.int ((p2 &&& (1048575 : Int32)) + (1 : Int32))), .val (.ref b1), .val (.int (Int32.ofNat b_11)), .val (.long ((((p2 &&& (1048575 : Int32)) + (1 : Int32)).toInt64) <<< ((Int32.ofNat b_11) &&& 0x3f).toInt64)), .second, .val (.int (1 : Int32)), .unset] [(.int (1 : Int32))])) _
      refine XS.istore X11.here hx rfl (hb hby at_107) rfl (l' := #[.val (.long q1), .second, .val (.int p2), .val (.int p3), .val (.int p4), .val (.long (q1 &&& (2199023255551 : Int64))), .second, .val (.int ((p2 &&& (1048575 : Int32)) + (1 : Int32))), .val (.ref b1), .val (.int (Int32.ofNat b_11)), .val (.long ((((p2 &&& (1048575 : Int32)) + (1 : Int32)).toInt64) <<< ((Int32.ofNat b_11) &&& 0x3f).toInt64)), .second, .val (.int (1 : Int32)), .val (.int (1 : Int32))]) rfl ?_
      show Steps p.tables e below (T11.setTop (mkF m 109 #[.val (.long q1), .second, .val (.int p2), .val (.int p3), .val (.int p4), .val (.long (q1 &&& (2199023255551 : Int64))), .second, .val (.int ((p2 &&& (1048575 : Int32)) + (1 : Int32))), .val (.ref b1), .val (.int (Int32.ofNat b_11)), .val (.long ((((p2 &&& (1048575 : Int32)) + (1 : Int32)).toInt64) <<< ((Int32.ofNat b_11) &&& 0x3f).toInt64)), .second, .val (.int (1 : Int32)), .val (.int (1 : Int32))] [])) _
      refine XS.iload X11.here hx rfl (hb hby at_109) rfl ?_
      show Steps p.tables e below (T11.setTop (mkF m 111 #[.val (.long q1), .second, .val (.int p2), .val (.int p3), .val (.int p4), .val (.long (q1 &&& (2199023255551 : Int64))), .second, .val (.int ((p2 &&& (1048575 : Int32)) + (1 : Int32))), .val (.ref b1), .val (.int (Int32.ofNat b_11)), .val (.long ((((p2 &&& (1048575 : Int32)) + (1 : Int32)).toInt64) <<< ((Int32.ofNat b_11) &&& 0x3f).toInt64)), .second, .val (.int (1 : Int32)), .val (.int (1 : Int32))] [(.int (1 : Int32))])) _
      refine XS.ifNo X11.here hx rfl (hb hby at_111) rfl ((if0 _ _).trans (feq (by decide : ¬ ((1 : Int32) = (0 : Int32)))).1) ?_
      show Steps p.tables e below (T11.setTop (mkF m 114 #[.val (.long q1), .second, .val (.int p2), .val (.int p3), .val (.int p4), .val (.long (q1 &&& (2199023255551 : Int64))), .second, .val (.int ((p2 &&& (1048575 : Int32)) + (1 : Int32))), .val (.ref b1), .val (.int (Int32.ofNat b_11)), .val (.long ((((p2 &&& (1048575 : Int32)) + (1 : Int32)).toInt64) <<< ((Int32.ofNat b_11) &&& 0x3f).toInt64)), .second, .val (.int (1 : Int32)), .val (.int (1 : Int32))] [])) _
      refine XS.iload X11.here hx rfl (hb hby at_114) rfl ?_
      show Steps p.tables e below (T11.setTop (mkF m 116 #[.val (.long q1), .second, .val (.int p2), .val (.int p3), .val (.int p4), .val (.long (q1 &&& (2199023255551 : Int64))), .second, .val (.int ((p2 &&& (1048575 : Int32)) + (1 : Int32))), .val (.ref b1), .val (.int (Int32.ofNat b_11)), .val (.long ((((p2 &&& (1048575 : Int32)) + (1 : Int32)).toInt64) <<< ((Int32.ofNat b_11) &&& 0x3f).toInt64)), .second, .val (.int (1 : Int32)), .val (.int (1 : Int32))] [(.int (1 : Int32))])) _
      refine XS.ifNo X11.here hx rfl (hb hby at_116) rfl ((if0 _ _).trans (feq (by decide : ¬ ((1 : Int32) = (0 : Int32)))).1) ?_
      show Steps p.tables e below (T11.setTop (mkF m 119 #[.val (.long q1), .second, .val (.int p2), .val (.int p3), .val (.int p4), .val (.long (q1 &&& (2199023255551 : Int64))), .second, .val (.int ((p2 &&& (1048575 : Int32)) + (1 : Int32))), .val (.ref b1), .val (.int (Int32.ofNat b_11)), .val (.long ((((p2 &&& (1048575 : Int32)) + (1 : Int32)).toInt64) <<< ((Int32.ofNat b_11) &&& 0x3f).toInt64)), .second, .val (.int (1 : Int32)), .val (.int (1 : Int32))] [])) _
      refine XS.iconst X11.here hx rfl (hb hby at_119) ?_
      show Steps p.tables e below (T11.setTop (mkF m 120 #[.val (.long q1), .second, .val (.int p2), .val (.int p3), .val (.int p4), .val (.long (q1 &&& (2199023255551 : Int64))), .second, .val (.int ((p2 &&& (1048575 : Int32)) + (1 : Int32))), .val (.ref b1), .val (.int (Int32.ofNat b_11)), .val (.long ((((p2 &&& (1048575 : Int32)) + (1 : Int32)).toInt64) <<< ((Int32.ofNat b_11) &&& 0x3f).toInt64)), .second, .val (.int (1 : Int32)), .val (.int (1 : Int32))] [(.int (1 : Int32))])) _
      refine XS.goto X11.here hx rfl (pc0 := 120) (pc' := 124) rfl (hb hby at_120) (by decide) (by decide) ?_
      show Steps p.tables e below (T11.setTop (mkF m 124 #[.val (.long q1), .second, .val (.int p2), .val (.int p3), .val (.int p4), .val (.long (q1 &&& (2199023255551 : Int64))), .second, .val (.int ((p2 &&& (1048575 : Int32)) + (1 : Int32))), .val (.ref b1), .val (.int (Int32.ofNat b_11)), .val (.long ((((p2 &&& (1048575 : Int32)) + (1 : Int32)).toInt64) <<< ((Int32.ofNat b_11) &&& 0x3f).toInt64)), .second, .val (.int (1 : Int32)), .val (.int (1 : Int32))] [(.int (1 : Int32))])) _
      exact retN X11 hx (t := .boolean) Bd.returns (by simp) (hb hby at_124) hr
    · show Q_rm0 Z q1 p2 p3 p4 h0 n0 _ T11.heap _
      exact ⟨rfl, N11⟩
set_option maxRecDepth 65536 in
set_option maxHeartbeats 40000000 in
theorem comes_1 {Post : Tables → Env → Array Value → State → Outcome → State → Prop} (hpost : ∀ tb e args s v u, (limb_1_1.after args s (.returned v) u = true ∧ limb_1_2.after args s (.returned v) u = true ∧ True) → FrameEnd s (.returned v) u (Jvm.fieldLocs frame_1_writes args s ++ Jvm.arrayLocs frame_1_arrays args s ++ Jvm.staticLocs frame_1_statics s) 16 128 → Post tb e args s (.returned v) u) :
    ArmFor flags0 classFile x code maxLocals ret World_1 tables_1 room_1 Calls_1 rest_1 Pre_1 Post := by
  intro l hfl _ _ p e ha hc hk s m args below hf hA hF happ hP
  obtain ⟨hcalls, hrest, hpre⟩ := hP
  obtain ⟨-, -, -, hnamed, -, -, -, hat⟩ := (Spec.applies_iff hf).mp happ
  obtain ⟨hg, hn⟩ := and_e (Cond.before_iff.mp (show (Jvm.Cond.and given_1 narrow_1).before args s = true from hpre))
  obtain ⟨gg1, gg2⟩ := and_e hg
  obtain ⟨gg3, gg4⟩ := and_e gg2
  obtain ⟨gg5, gg6⟩ := and_e gg4
  obtain ⟨gg7, gg8⟩ := and_e gg6
  obtain ⟨w0, w1, w2, w3, rfl⟩ : ∃ w0 w1 w2 w3 : Value, args = #[w0, w1, w2, w3] := by
    have hs : args.size = 4 := by simpa [Cond.value, given_1] using gg1
    obtain ⟨L⟩ := args
    match L, hs with
    | [w0, w1, w2, w3], _ => exact ⟨w0, w1, w2, w3, rfl⟩
  have hw := fun d (hd : d ∈ tables_1) => atoms_spec (ws := Jvm.Cond.code x code maxLocals ret :: tables_1) hat d (List.mem_cons_of_mem _ hd)
  have hfit : Fit s := fun {y c} hc i hi => by
    obtain ⟨ha, rfl⟩ := Array.getElem?_eq_some_iff.mp hc
    have q := List.all_eq_true.mp ((Array.all_eq_true_iff_forall_mem.mp hF) _ (Array.getElem_mem ha)) i (List.mem_range.mpr hi)
    simpa [Array.getElem?_eq_getElem hi] using q
  obtain ⟨i0, ei0⟩ := isL_v gg3
  obtain rfl : w0 = (.long i0) := Option.some.inj ei0
  obtain ⟨i1, ei1⟩ := is_v gg5
  obtain rfl : w1 = (.int i1) := Option.some.inj ei1
  obtain ⟨i2, ei2⟩ := is_v gg7
  obtain rfl : w2 = (.int i2) := Option.some.inj ei2
  obtain ⟨i3, ei3⟩ := is_v gg8
  obtain rfl : w3 = (.int i3) := Option.some.inj ei3
  obtain ⟨n, o, h1, h2, h3, _, L, rfl, ⟨rfl, N⟩, hq⟩ := rm0 l s _ hw tables_1 i0 i1 i2 i3 s.heap s.heap.size (Nat.le_refl _) p e ha hc hk s m _ below hf ((Spec.applies_iff_loose hf).mp happ).1 ⟨rfl, State.Warmed39.refl s, rfl⟩ trivial
  refine ⟨n, _, h1, h2, h3, hpost _ _ _ _ _ _ ⟨Cond.after_iff.mpr rfl, Cond.after_iff.mpr (eq_i res_at (Term.int_eval (1)) rfl), trivial⟩ ⟨hq.1, hq.2.1, (hq.2.2.sift fun y hy => Or.inr (N y hy)).mono (by decide) (by decide)⟩⟩
theorem main_1_1 : Claimed_1_1 := comes_1 fun _ _ _ _ _ _ h hF => ⟨h.1, hF⟩
theorem main_1_2 : Claimed_1_2 := comes_1 fun _ _ _ _ _ _ h hF => ⟨h.2.1, hF⟩
end Jvm.Pilot.@@N@@
namespace Jvm.Pilot.@@N@@
open Jvm Jvm.ClassFile Sem Op Lib Jvm.Free Jvm.Stand Jvm.Pilot.@@N@@.Jvm.D
/-! MADE BY PROGRAM (witnessworld.py) out of the Statement's table words and the real class files: 10 classes; the members and pool entries that the words name. The judged class is class 1, her method 1. -/
namespace start1
open Jvm.ClassFile
def u (s : String) : CpInfo := .utf8 (stringToUtf16 s)
/-- a pool by its gaps: so many unusable entries, then the entry; so many at the end -/
def gap : Nat → List CpInfo → List CpInfo
  | 0, r => r
  | n + 1, r => .unusable :: gap n r
def poolList (es : List (Nat × CpInfo)) (last : Nat) : List CpInfo := es.foldr (fun e r => gap e.1 (e.2 :: r)) (gap last [])
def pool (es : List (Nat × CpInfo)) (last : Nat) : Array CpInfo := ⟨poolList es last⟩
def fileOf (pool : Array CpInfo) (this : Nat) (attrs : Array Attribute := #[]) (ms : Array MethodInfo := #[]) (fl : Nat := 33) (sup : Nat := 0) (ifs : Array Nat := #[]) (fds : Array FieldInfo := #[]) : ClassFile where
  minorVersion := 0
  majorVersion := 65
  constantPool := pool
  accessFlags := fl
  thisClass := this
  superClass := sup
  interfaces := ifs
  fields := fds
  methods := ms
  attributes := attrs
def plain (name : String) (sup : Option ClassId) : Class where
  name := name
  kind := .ordinary
  loader := none
  accessFlags := 33
  super := sup
  interfaces := #[]
  cf := none
  fields := #[]
  methods := #[]
  instanceTypes := #[]
  staticTypes := #[]
  resolved := #[]
  callSites := []
  init := .initialized
  statics := none
  mirror := none

def pool0 : Array CpInfo := pool [(5, u "<init>"), (0, u "()V"), (1, .class_ 10), (1, u "java/lang/Object")] 113

def k0c0 : Code := { maxStack := 0, maxLocals := 1, code := object_method_1_code, exceptionTable := #[], attributes := #[] }
def k0m0 : Method := { name := "<init>", desc := "()V", sig := { parameters := [], returnType := none }, accessFlags := 1, code := some k0c0 }
/-- java/lang/Object -/
def k0 : Class := { plain "java/lang/Object" none with
  accessFlags := 33
  interfaces := #[]
  cf := some (fileOf pool0 8 #[] #[{ accessFlags := 1, nameIndex := 5, descriptorIndex := 6, attributes := #[] }] 33 0 #[] #[])
  fields := #[]
  methods := #[k0m0]
  instanceTypes := #[]
  staticTypes := #[]
  resolved := Array.replicate 124 none
  statics := none }

def pool1 : Array CpInfo := pool [(2, .class_ 4), (1, u "java/lang/Object"), (0, u "<init>"), (0, u "()V"), (0, .long 2199023255551), (1, .integer 1048575), (0, .class_ 11), (0, u "com/example/allotd/allotd/store/CountedRequests$Compaction"), (0, .methodref 10 13), (0, .nameAndType 5 14), (0, u "(IIIIII)V"), (0, .methodref 10 16), (0, .nameAndType 17 18), (0, u "bitsFor"), (0, u "(J)I"), (0, .class_ 20), (0, u "com/example/allotd/allotd/store/CompactionBitsForPinLaw"), (2, u "law"), (0, u "(JIII)Z")] 7

def k1m0 : Method := { name := "<init>", desc := "()V", sig := { parameters := [], returnType := none }, accessFlags := 2, code := none }
def k1c1 : Code := { maxStack := 8, maxLocals := 14, code := code, exceptionTable := #[], attributes := #[] }
def k1m1 : Method := { name := "law", desc := "(JIII)Z", sig := { parameters := [.long, .int, .int, .int], returnType := some .boolean }, accessFlags := 9, code := some k1c1 }
/-- com/example/allotd/allotd/store/CompactionBitsForPinLaw -/
def k1 : Class := { plain "com/example/allotd/allotd/store/CompactionBitsForPinLaw" (some 0) with
  accessFlags := 49
  interfaces := #[]
  cf := some (fileOf pool1 19 #[] #[{ accessFlags := 2, nameIndex := 5, descriptorIndex := 6, attributes := #[] }, { accessFlags := 9, nameIndex := 23, descriptorIndex := 24, attributes := #[] }] 49 2 #[] #[])
  fields := #[]
  methods := #[k1m0, k1m1]
  instanceTypes := #[]
  staticTypes := #[]
  resolved := Array.replicate 32 none
  statics := none }

def pool2 : Array CpInfo := pool [(1, .methodref 2 3), (0, .class_ 4), (0, .nameAndType 5 6), (0, u "java/lang/Object"), (0, u "<init>"), (0, u "()V"), (0, .class_ 8), (0, u "java/lang/Record")] 13

def k2c0 : Code := { maxStack := 1, maxLocals := 1, code := jdk_30_method_1_code, exceptionTable := #[], attributes := #[] }
def k2m0 : Method := { name := "<init>", desc := "()V", sig := { parameters := [], returnType := none }, accessFlags := 4, code := some k2c0 }
/-- java/lang/Record -/
def k2 : Class := { plain "java/lang/Record" (some 0) with
  accessFlags := 1057
  interfaces := #[]
  cf := some (fileOf pool2 7 #[] #[{ accessFlags := 4, nameIndex := 5, descriptorIndex := 6, attributes := #[] }] 1057 2 #[] #[])
  fields := #[]
  methods := #[k2m0]
  instanceTypes := #[]
  staticTypes := #[]
  resolved := Array.replicate 22 none
  statics := none }

def pool3 : Array CpInfo := pool [(1, .methodref 2 3), (0, .class_ 4), (0, .nameAndType 5 6), (0, u "java/lang/Record"), (0, u "<init>"), (0, u "()V"), (0, .fieldref 8 9), (0, .class_ 10), (0, .nameAndType 11 12), (0, u "com/example/allotd/allotd/store/CountedRequests$Compaction"), (0, u "every"), (0, u "I"), (0, .fieldref 8 14), (0, .nameAndType 15 12), (0, u "sealAt"), (0, .fieldref 8 17), (0, .nameAndType 18 12), (0, u "sealAtMost"), (0, .fieldref 8 20), (0, .nameAndType 21 12), (0, u "mergeWidth"), (0, .fieldref 8 23), (0, .nameAndType 24 12), (0, u "stepKeys"), (0, .fieldref 8 26), (0, .nameAndType 27 12), (0, u "bucketKeys"), (14, u "(IIIIII)V"), (2, u "DEFAULT"), (0, u "Lcom/example/allotd/allotd/store/CountedRequests$Compaction;"), (3, u "bitsFor"), (0, u "(J)I"), (9, .class_ 62), (0, u "com/example/allotd/allotd/store/CountedRequests")] 24

def k3c0 : Code := { maxStack := 2, maxLocals := 7, code := prog_57_method_1_code, exceptionTable := #[], attributes := #[] }
def k3m0 : Method := { name := "<init>", desc := "(IIIIII)V", sig := { parameters := [.int, .int, .int, .int, .int, .int], returnType := none }, accessFlags := 0, code := some k3c0 }
def k3c1 : Code := { maxStack := 4, maxLocals := 4, code := prog_57_method_2_code, exceptionTable := #[], attributes := #[] }
def k3m1 : Method := { name := "bitsFor", desc := "(J)I", sig := { parameters := [.long], returnType := some .int }, accessFlags := 0, code := some k3c1 }
/-- com/example/allotd/allotd/store/CountedRequests$Compaction -/
def k3 : Class := { plain "com/example/allotd/allotd/store/CountedRequests$Compaction" (some 2) with
  accessFlags := 48
  interfaces := #[]
  cf := some (fileOf pool3 8 #[.nestHost 61] #[{ accessFlags := 0, nameIndex := 5, descriptorIndex := 42, attributes := #[] }, { accessFlags := 0, nameIndex := 50, descriptorIndex := 51, attributes := #[] }] 48 2 #[] #[{ accessFlags := 18, nameIndex := 11, descriptorIndex := 12, attributes := #[] }, { accessFlags := 18, nameIndex := 15, descriptorIndex := 12, attributes := #[] }, { accessFlags := 18, nameIndex := 18, descriptorIndex := 12, attributes := #[] }, { accessFlags := 18, nameIndex := 21, descriptorIndex := 12, attributes := #[] }, { accessFlags := 18, nameIndex := 24, descriptorIndex := 12, attributes := #[] }, { accessFlags := 18, nameIndex := 27, descriptorIndex := 12, attributes := #[] }, { accessFlags := 24, nameIndex := 45, descriptorIndex := 46, attributes := #[] }])
  fields := #[{ name := "every", type := .int, accessFlags := 18, slot := 0, constantValue := 0 }, { name := "sealAt", type := .int, accessFlags := 18, slot := 1, constantValue := 0 }, { name := "sealAtMost", type := .int, accessFlags := 18, slot := 2, constantValue := 0 }, { name := "mergeWidth", type := .int, accessFlags := 18, slot := 3, constantValue := 0 }, { name := "stepKeys", type := .int, accessFlags := 18, slot := 4, constantValue := 0 }, { name := "bucketKeys", type := .int, accessFlags := 18, slot := 5, constantValue := 0 }, { name := "DEFAULT", type := (.object "com/example/allotd/allotd/store/CountedRequests$Compaction"), accessFlags := 24, slot := 0, constantValue := 0 }]
  methods := #[k3m0, k3m1]
  instanceTypes := #[.int, .int, .int, .int, .int, .int]
  staticTypes := #[(.object "com/example/allotd/allotd/store/CountedRequests$Compaction")]
  resolved := Array.replicate 87 none
  statics := none }

def pool4 : Array CpInfo := pool [(1, u "java/lang/Cloneable"), (0, .class_ 1), (0, u "java/lang/Object"), (0, .class_ 3)] 3

/-- java/lang/Cloneable -/
def k4 : Class := { plain "java/lang/Cloneable" (some 0) with
  accessFlags := 1537
  interfaces := #[]
  cf := some (fileOf pool4 2 #[] #[] 1537 4 #[] #[])
  fields := #[]
  methods := #[]
  instanceTypes := #[]
  staticTypes := #[]
  resolved := Array.replicate 8 none
  statics := none }

def pool5 : Array CpInfo := pool [(1, u "java/io/Serializable"), (0, .class_ 1), (0, u "java/lang/Object"), (0, .class_ 3)] 3

/-- java/io/Serializable -/
def k5 : Class := { plain "java/io/Serializable" (some 0) with
  accessFlags := 1537
  interfaces := #[]
  cf := some (fileOf pool5 2 #[] #[] 1537 4 #[] #[])
  fields := #[]
  methods := #[]
  instanceTypes := #[]
  staticTypes := #[]
  resolved := Array.replicate 8 none
  statics := none }

/-- the primitive byte -/
def k6 : Class := { plain "byte" none with kind := .primitive 'B', accessFlags := 0x411 }
/-- [B -/
def k7 : Class := { plain "[B" (some 0) with kind := .array 6 .byte, interfaces := #[4, 5], accessFlags := 1041 }

/-- the primitive int -/
def k8 : Class := { plain "int" none with kind := .primitive 'I', accessFlags := 0x411 }
/-- [I -/
def k9 : Class := { plain "[I" (some 0) with kind := .array 8 .int, interfaces := #[4, 5], accessFlags := 1041 }

def heap : Heap := #[]
def classes : Array Class := #[k0, k1, k2, k3, k4, k5, k6, k7, k8, k9]
def interned : List (Array UInt16 × Addr) := []
def slotsUsed : Nat := 0
def theMethod : MethodId := ⟨1, 1⟩
def args0 : Array Value := #[.long 5, .int 3, .int 1, .int 1]
def aboutOver (below : List Frame) : State where
  vm := { classes := classes, interned := interned.toArray }
  heap := heap
  slotsUsed := slotsUsed
  threads := #[{ frames := .invoking theMethod args0 :: below }]
def below0 : List Frame := [.native { method := ⟨0, 0⟩, args := #[] }]
def about1 : State := aboutOver below0
def p0 : Program := .bare "" "" ""
def e0 : Env := launch0.env 0 0 0
theorem w_frames : about1.frames = Frame.invoking theMethod args0 :: below0 := rfl
set_option maxRecDepth 65536 in
theorem w_args : argsFit about1.vm theMethod args0 = true := by decide +kernel
set_option maxRecDepth 65536 in
theorem w_heap : heapFits about1 = true := by decide +kernel
set_option maxRecDepth 65536 in
theorem w_runnable : about1.curStatus? = some .runnable := by decide +kernel
set_option maxRecDepth 65536 in
theorem w_alone : about1.alone = true := by decide +kernel
set_option maxRecDepth 65536 in
theorem w_named : about1.methodNamed? x = some theMethod := by decide +kernel
set_option maxRecDepth 65536 in
theorem w_hears : about1.hears theMethod below0 = true := by decide +kernel
set_option maxRecDepth 65536 in
theorem w_ripe : about1.ripe theMethod args0 below0 = true := by decide +kernel
theorem w_running : about1.status = .running := rfl
set_option maxRecDepth 65536 in
theorem w_room : about1.hasRoom e0.platform room_1 = true :=
  launch0.hasRoom_least _ room_1 (by decide +kernel) (by decide +kernel) (by decide +kernel) (by decide +kernel) (by decide +kernel) (by decide +kernel)
theorem allAtoms_all (ts : List Jvm.Cond) (a : Array Jvm.Value) (st : Jvm.State) : (allAtoms ts).before a st = ts.all (fun c => c.before a st) := by
  induction ts with
  | nil => rfl
  | cons c t ih =>
    show (Jvm.Cond.and c (allAtoms t)).before a st = _
    rw [Jvm.Cond.before_and, ih, List.all_cons]
def words1 : List Jvm.Cond := Jvm.Cond.code x code maxLocals ret :: tables_1
/-- a 'code' word, met by the world's own term for the bytes: nothing is compared byte by byte -/
theorem code_word {y : MethodName} {bytes : ByteArray} {mx : Nat} {rt : Option FieldType} {a : Array Value} {s : State} {m : MethodId} {meth : Method} {c : Code} (h1 : s.methodNamed? y = some m) (h2 : s.vm.method? m = some meth) (h3 : meth.code = some c) (h4 : c.code = bytes)
    (h5 : (c.maxLocals == mx && c.exceptionTable.isEmpty && decide (c.maxStack ≤ mostOperands) && decide (meth.sig.returnType = rt) && !meth.locks && decide (parseMethodDescriptor y.desc = some meth.sig)) = true) : (Jvm.Cond.code y bytes mx rt).before a s = true := by
  simp only [Bool.and_eq_true, beq_iff_eq, Bool.not_eq_true', decide_eq_true_eq] at h5
  obtain ⟨⟨⟨⟨⟨g1, g2⟩, g3⟩, g4⟩, g5⟩, g6⟩ := h5
  simp [Cond.before, Cond.holds, Cond.value, h1, h2, h3, h4, g1, g2, g3, g4, g5, g6]
def isCode : Jvm.Cond → Bool
  | .code _ _ _ _ => true
  | _ => false
theorem all_split {L : List Jvm.Cond} {P : Jvm.Cond → Bool} (h1 : L.all (fun c => isCode c || P c) = true) (h2 : ∀ c ∈ L.filter isCode, P c = true) : L.all P = true := by
  refine List.all_eq_true.mpr fun c hc => ?_
  have h := List.all_eq_true.mp h1 c hc
  rcases Bool.eq_false_or_eq_true (isCode c) with hi | hi
  · exact h2 c (List.mem_filter.mpr ⟨hc, hi⟩)
  · simpa [hi] using h
set_option maxRecDepth 65536 in
theorem w_c0 : (Jvm.Cond.code x code maxLocals ret).before args0 about1 = true := code_word (m := ⟨1, 1⟩) (meth := k1m1) (c := k1c1) (by decide +kernel) rfl rfl rfl (by decide +kernel)
set_option maxRecDepth 65536 in
theorem w_c1 : (Jvm.Cond.code ({ cls := "com/example/allotd/allotd/store/CountedRequests$Compaction", name := "<init>", desc := "(IIIIII)V" } : Jvm.MethodName) prog_57_method_1_code (7 : Nat) (Option.none : Option Jvm.ClassFile.FieldType)).before args0 about1 = true := code_word (m := ⟨3, 0⟩) (meth := k3m0) (c := k3c0) (by decide +kernel) rfl rfl rfl (by decide +kernel)
set_option maxRecDepth 65536 in
theorem w_c2 : (Jvm.Cond.code ({ cls := "java/lang/Record", name := "<init>", desc := "()V" } : Jvm.MethodName) jdk_30_method_1_code (1 : Nat) (Option.none : Option Jvm.ClassFile.FieldType)).before args0 about1 = true := code_word (m := ⟨2, 0⟩) (meth := k2m0) (c := k2c0) (by decide +kernel) rfl rfl rfl (by decide +kernel)
set_option maxRecDepth 65536 in
theorem w_c3 : (Jvm.Cond.code ({ cls := "java/lang/Object", name := "<init>", desc := "()V" } : Jvm.MethodName) object_method_1_code (1 : Nat) (Option.none : Option Jvm.ClassFile.FieldType)).before args0 about1 = true := code_word (m := ⟨0, 0⟩) (meth := k0m0) (c := k0c0) (by decide +kernel) rfl rfl rfl (by decide +kernel)
set_option maxRecDepth 65536 in
theorem w_c4 : (Jvm.Cond.code ({ cls := "com/example/allotd/allotd/store/CountedRequests$Compaction", name := "bitsFor", desc := "(J)I" } : Jvm.MethodName) prog_57_method_2_code (4 : Nat) (Option.some Jvm.ClassFile.FieldType.int)).before args0 about1 = true := code_word (m := ⟨3, 1⟩) (meth := k3m1) (c := k3c1) (by decide +kernel) rfl rfl rfl (by decide +kernel)
def codes1 : List Jvm.Cond := [Jvm.Cond.code x code maxLocals ret, Jvm.Cond.code ({ cls := "com/example/allotd/allotd/store/CountedRequests$Compaction", name := "<init>", desc := "(IIIIII)V" } : Jvm.MethodName) prog_57_method_1_code (7 : Nat) (Option.none : Option Jvm.ClassFile.FieldType), Jvm.Cond.code ({ cls := "java/lang/Record", name := "<init>", desc := "()V" } : Jvm.MethodName) jdk_30_method_1_code (1 : Nat) (Option.none : Option Jvm.ClassFile.FieldType), Jvm.Cond.code ({ cls := "java/lang/Object", name := "<init>", desc := "()V" } : Jvm.MethodName) object_method_1_code (1 : Nat) (Option.none : Option Jvm.ClassFile.FieldType), Jvm.Cond.code ({ cls := "com/example/allotd/allotd/store/CountedRequests$Compaction", name := "bitsFor", desc := "(J)I" } : Jvm.MethodName) prog_57_method_2_code (4 : Nat) (Option.some Jvm.ClassFile.FieldType.int)]
set_option maxRecDepth 65536 in
theorem codes_eq : words1.filter isCode = codes1 := rfl
theorem w_codes : ∀ c ∈ words1.filter isCode, c.before args0 about1 = true := by
  rw [codes_eq]
  intro c hc
  simp only [codes1, List.mem_cons, List.not_mem_nil, or_false] at hc
  rcases hc with rfl | rfl | rfl | rfl | rfl
  · exact w_c0
  · exact w_c1
  · exact w_c2
  · exact w_c3
  · exact w_c4
set_option maxRecDepth 65536 in
theorem w_t1 : (words1.take 24).all (fun c => isCode c || c.before args0 about1) = true := by decide +kernel
set_option maxRecDepth 65536 in
theorem w_t2 : (words1.drop 24).all (fun c => isCode c || c.before args0 about1) = true := by decide +kernel
theorem w_tables : (allAtoms (Jvm.Cond.code x code maxLocals ret :: tables_1)).before args0 about1 = true := by
  rw [allAtoms_all]
  show words1.all (fun c => c.before args0 about1) = true
  refine all_split ?_ w_codes
  rw [← List.take_append_drop 24 words1, List.all_append, w_t1, w_t2]
  rfl
set_option maxRecDepth 65536 in
theorem w_case : (Jvm.Cond.and given_1 narrow_1).before args0 about1 = true := by decide +kernel
theorem w_applies : (headSpec (Jvm.Cond.code x code maxLocals ret :: tables_1) room_1).applies x e0.platform about1 = true :=
  (Spec.applies_iff w_frames).mpr ⟨w_running, w_runnable, w_alone, w_named, w_hears, w_ripe, w_room, w_tables⟩
theorem atStart : AtStart classFile x code maxLocals ret World_1 tables_1 room_1 Calls_1 rest_1 Pre_1 launch0 p0 e0 about1 theMethod args0 below0 :=
  ⟨lists_1, trivial, launch0.admits_env _ _ _, launch0.least_env, fairChoices_fair.cas, fairChoices_fair.clock, w_frames, w_args, w_heap, w_applies, trivial, trivial, w_case⟩
end start1
theorem witness_1 : WitnessClaimed_1 := ⟨start1.p0, start1.e0, start1.about1, start1.theMethod, start1.args0, start1.below0, start1.atStart⟩
end Jvm.Pilot.@@N@@
