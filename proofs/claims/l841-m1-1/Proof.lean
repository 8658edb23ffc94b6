import JvmDerived
import JvmDerived.Pilot.@@N@@Statement
import JvmDerived.Pilot.@@N@@Code
set_option linter.unusedVariables false
set_option linter.unusedSimpArgs false

namespace Jvm.RoadKit
open Sem ClassFile Op Lib Jvm.Stand Jvm.Free Jvm.LawKit
section New
variable {p : Program} {l : Launch} {e : Env} {R : Room} {s : State} {m : MethodId} {args : Array Value} {below : List Frame} {meth : Method} {c : Code} {T : State} {locs : List Loc} {cells slots : Nat}
theorem retI (X : Stand p l e R s m args below meth c T locs cells slots) (hx : p.tables.exec = Jvm.exec) {pc : Nat} {Ls : Array Slot} {z : Int32} {rest : List Value} (hret : meth.sig.returnType = some .int) (hd : decode c.code pc = .ok (.ireturn, 1)) {fs : List Frame}
    (hl : ∀ (f : JFrame) (acts : List Action), f.method = m → f.locked = none → f.entered = [] → (doReturn e (T.setTop f) acts (some (.int z))).1 = T.setFrames fs) : Steps p.tables e below (T.setTop (mkF m pc Ls (.int z :: rest))) (T.setFrames fs) := by
  exact retOut X hx hret rfl (Or.inl ⟨rfl, Or.inl rfl, _, rfl⟩) hd hl
end New
end Jvm.RoadKit
namespace Jvm.Pilot.@@N@@
open Jvm Jvm.ClassFile Sem Op Lib Jvm.Free Jvm.Stand Jvm.LawKit Jvm.RoadKit Bundle Jvm.Pilot.@@N@@.Jvm.D
def own_sc (mw : Int32) : Nat → Int64 → Int32
  | 0, _ => 0
  | k + 1, r => if r < mw.toInt64 then 0 else 1 + own_sc mw k (r / mw.toInt64)
theorem own_mz {m : Int32} (h : 2 ≤ m.toInt) : ¬ (m.toInt64 = (0 : Int64)) := fun e => by
  have : m.toInt64.toInt = 0 := by rw [e]; rfl
  rw [c_i2l] at this; omega
theorem own_sz {m : Int32} (h : 1 ≤ m.toInt) : ¬ (m.toInt64 = (0 : Int64)) := fun e => by
  have : m.toInt64.toInt = 0 := by rw [e]; rfl
  rw [c_i2l] at this; omega
theorem own_m1 {m : Int32} (h : 1 ≤ m.toInt) : m.toInt64 ≠ -1 := fun e => by
  have : m.toInt64.toInt = -1 := by rw [e]; rfl
  rw [c_i2l] at this; omega
theorem own_tdiv (x : Int64) {m : Int32} (h : 1 ≤ m.toInt) : (x / m.toInt64).toInt = x.toInt.tdiv m.toInt := by
  rw [Int64.toInt_div_of_ne_right _ _ (own_m1 h), c_i2l]
theorem own_tt (x a b : Int) (ha : 0 < a) (hb : 0 < b) : (x.tdiv a).tdiv b = x.tdiv (a * b) := by
  have pos : ∀ y : Int, 0 ≤ y → (y.tdiv a).tdiv b = y.tdiv (a * b) := fun y hy => by
    rw [Int.tdiv_eq_ediv_of_nonneg hy, Int.tdiv_eq_ediv_of_nonneg hy, Int.tdiv_eq_ediv_of_nonneg (Int.ediv_nonneg hy (by omega))]
    exact Int.ediv_ediv_of_nonneg (by omega)
  by_cases h : 0 ≤ x
  · exact pos x h
  · have q := pos (-x) (by omega)
    rw [Int.neg_tdiv, Int.neg_tdiv, Int.neg_tdiv] at q
    omega
theorem own_half {m : Int32} {r : Int64} {k : Nat} (h : 2 ≤ m.toInt) (hc : ¬ (r < m.toInt64)) (hk : r.toInt < (2 ^ (k + 1) : Nat)) : (r / m.toInt64).toInt < (2 ^ k : Nat) := by
  rw [Int64.lt_iff_toInt_lt, c_i2l] at hc
  rw [own_tdiv _ (by omega), Int.tdiv_eq_ediv_of_nonneg (by omega)]
  apply Int.ediv_lt_of_lt_mul (by omega)
  have h2 : ((2 ^ k : Nat) : Int) * 2 ≤ ((2 ^ k : Nat) : Int) * m.toInt := Int.mul_le_mul_of_nonneg_left h (by omega)
  have h3 : (2 ^ (k + 1) : Nat) = 2 ^ k * 2 := Nat.pow_succ ..
  omega
theorem own_63 (r : Int64) : r.toInt < (2 ^ 63 : Nat) := by have := rng64 r; omega
theorem own_s {p : Int32} (h : ¬ ((p &&& (2147483647 : Int32)) = (0 : Int32))) : 1 ≤ (p &&& (2147483647 : Int32)).toInt := by
  have e := c_mask p 2147483647 31 (by decide) (by decide)
  have h' : ¬ (p &&& (2147483647 : Int32)).toInt = 0 := fun q => h (Int32.toInt_inj.mp q)
  omega
theorem own_m {p : Int32} (h : ¬ ((p &&& (2147483647 : Int32)) < (2 : Int32))) : 2 ≤ (p &&& (2147483647 : Int32)).toInt := by
  rw [Int32.lt_iff_toInt_lt] at h
  have : (2 : Int32).toInt = 2 := rfl
  omega
theorem own_scS (mw : Int32) (h : 2 ≤ mw.toInt) : ∀ (k : Nat) (r : Int64), r.toInt < (2 ^ k : Nat) → own_sc mw (k + 1) r = own_sc mw k r := by
  intro k
  induction k with
  | zero =>
    intro r hk
    have hc : r < mw.toInt64 := by
      rw [Int64.lt_iff_toInt_lt, c_i2l]
      have : (2 ^ 0 : Nat) = 1 := rfl
      omega
    simp [own_sc, hc]
  | succ k ih =>
    intro r hk
    by_cases hc : r < mw.toInt64
    · simp [own_sc, hc]
    · have := ih (r / mw.toInt64) (own_half h hc hk)
      have e1 : own_sc mw (k + 1 + 1) r = 1 + own_sc mw (k + 1) (r / mw.toInt64) := if_neg hc
      have e2 : own_sc mw (k + 1) r = 1 + own_sc mw k (r / mw.toInt64) := if_neg hc
      rw [e1, e2, this]
theorem own_law0 {k : Int64} {s m : Int32} (h : k / s.toInt64 < m.toInt64) : own_sc m 63 (k / s.toInt64) = (0 : Int32) := by simp [own_sc, h]
theorem own_law1 {k : Int64} {s m : Int32} (hs : 1 ≤ s.toInt) (hm : 2 ≤ m.toInt) (h : ¬ (k / s.toInt64 < m.toInt64)) : own_sc m 63 (k / s.toInt64) = (1 : Int32) + own_sc m 63 ((k / m.toInt64) / s.toInt64) := by
  have e : k / s.toInt64 / m.toInt64 = k / m.toInt64 / s.toInt64 := by
    apply Int64.toInt_inj.mp
    rw [own_tdiv _ (by omega), own_tdiv _ hs, own_tdiv _ hs, own_tdiv _ (by omega), own_tt _ _ _ (by omega) (by omega), own_tt _ _ _ (by omega) (by omega), Int.mul_comm]
  have e1 : own_sc m (62 + 1) (k / s.toInt64) = 1 + own_sc m 62 (k / s.toInt64 / m.toInt64) := if_neg h
  have e2 : own_sc m 63 (k / m.toInt64 / s.toInt64) = own_sc m 62 (k / m.toInt64 / s.toInt64) := own_scS m hm 62 _ (by rw [← e]; exact own_half hm h (own_63 _))
  rw [e2, ← e]; exact e1
theorem d2_0 : decode jdk_30_method_1_code 0 = .ok (.aload_n 0, 1) := by decide +kernel
theorem d2_1 : decode jdk_30_method_1_code 1 = .ok (.invokespecial 1, 3) := by decide +kernel
theorem d2_4 : decode jdk_30_method_1_code 4 = .ok (.return_, 1) := by decide +kernel
theorem pn_java_lang_Record : plainName "java/lang/Record" = true := by first | (simp [plainName, overriddenIn]; done) | decide +kernel
theorem ef_rm_rec (m : MethodId) (x0 : Addr) : entryFrame m #[(.ref x0)] 1 = mkF m 0 #[.val (.ref x0)] [] := by first | (simp [entryFrame, mkF, argsToLocals, Value.category]; done) | rfl
def Q_rm_rec (Z : State) (a1 : Addr) (h0 : Heap) (n0 : Nat) (v : Option Value) (h : Heap) (L : List Loc) : Prop := v = none ∧ Fr n0 L ∧ h = h0
set_option maxRecDepth 65536 in
set_option maxHeartbeats 40000000 in
theorem rm_rec (l : Launch) (Z : State) (a0 : Array Value) (hw : ∀ d ∈ tables_1, d.before a0 Z = true) (ws : List Jvm.Cond) (a1 : Addr) (h0 : Heap) (n0 : Nat) (Z0 : n0 ≤ h0.size) :
    MetFree l (⟨"java/lang/Record", "<init>", "()V"⟩ : MethodName) (head1 (Jvm.Cond.code (⟨"java/lang/Record", "<init>", "()V"⟩ : MethodName) jdk_30_method_1_code 1 none :: ws) ({ frames := 1, cells := 0, slots := 0, locals := 12 } : Room)) (fun a U => a = #[(.ref a1)] ∧ Z.Warmed39 U.vm ∧ U.heap = h0) (fun _ _ _ _ _ => True) (fun _ U o U' => ∃ v L, o = .returned v ∧ Q_rm_rec Z a1 h0 n0 v U'.heap L ∧ FrameEnd U o U' L ({ frames := 1, cells := 0, slots := 0, locals := 12 } : Room).cells ({ frames := 1, cells := 0, slots := 0, locals := 12 } : Room).slots) := by
  refine MetFree.of_bodySF (plainFor_of_name pn_java_lang_Record) hisR ?_
  intro p e s m args below meth c s₁ Bd hml0 hP hK
  obtain ⟨rfl, hZ, hh⟩ := hP
  have hx := Bd.exec
  have hby := Bd.bytes
  have hml : c.maxLocals = 1 := hml0
  have hown : s.vm.findClass "java/lang/Record" = some m.cls := findClass_of_methodNamed Bd.named
  have hnm := (name_of_methodNamed Bd.named Bd.method).1
  have X0 : Stand p l e ({ frames := 1, cells := 0, slots := 0, locals := 12 } : Room) s m #[(.ref a1)] below meth c s₁ [] 0 0 := Stand.of_body Bd
  have e0 : s₁.heap = h0 := by rw [← hh, Bd.state]; rfl
  have N0 := Fr.nil n0
  have pre0 : ∀ t, Steps p.tables e below (s₁.setTop (mkF m 0 #[.val (.ref a1)] [])) t → Steps p.tables e below (s₁.setTop (entryFrame m #[(.ref a1)] 1)) t := fun t k => castTop (ef_rm_rec m a1) k
  obtain ⟨T1, X1, e1, st1⟩ := initO X0 hx hZ hown (hw _ (List.mem_of_getElem? (i := 12) rfl)) (hw _ (List.mem_of_getElem? (i := 13) rfl)) (hw _ (List.mem_of_getElem? (i := 14) rfl)) e0 (g := (mkF m 1 #[.val (.ref a1)] [(.ref a1)])) rfl (by rw [hml]; rfl) rfl (hb hby d2_1) (by decide) (W := 0) (by show 2 * 0 + _ ≤ _; exact Nat.le_of_eq rfl) (by decide)
  obtain ⟨fs, hr, hrun, hended, hW, hsame⟩ := X1.leave (v := none) (fun _ => rfl)
  refine ⟨_, _, pre0 _ ?_, hrun, hended, _, _, rfl, ?_, ⟨_, rfl⟩, hW, hsame.mono (by decide) (by decide)⟩
  · show Steps p.tables e below (s₁.setTop (mkF m 0 #[.val (.ref a1)] [])) _
    refine XS.aloadN X0.here hx rfl (hb hby d2_0) rfl rfl ?_
    show Steps p.tables e below (s₁.setTop (mkF m 1 #[.val (.ref a1)] [(.ref a1)])) _
    refine st1 _ ?_
    show Steps p.tables e below (T1.setTop (mkF m 4 #[.val (.ref a1)] [])) _
    exact X1.returnOut hx Bd.returns (hb hby d2_4) hr
  · show Q_rm_rec Z a1 h0 n0 _ T1.heap _
    rw [e1]
    exact ⟨rfl, N0, rfl⟩
theorem d1_0 : decode prog_57_method_1_code 0 = .ok (.aload_n 0, 1) := by decide +kernel
theorem d1_1 : decode prog_57_method_1_code 1 = .ok (.invokespecial 1, 3) := by decide +kernel
theorem pd__40_41V : parseMethodDescriptor "()V" = some ⟨[], none⟩ := by decide +kernel
theorem d1_4 : decode prog_57_method_1_code 4 = .ok (.aload_n 0, 1) := by decide +kernel
theorem d1_5 : decode prog_57_method_1_code 5 = .ok (.iload_n 1, 1) := by decide +kernel
theorem d1_6 : decode prog_57_method_1_code 6 = .ok (.putfield 7, 3) := by decide +kernel
theorem d1_9 : decode prog_57_method_1_code 9 = .ok (.aload_n 0, 1) := by decide +kernel
theorem d1_10 : decode prog_57_method_1_code 10 = .ok (.iload_n 2, 1) := by decide +kernel
theorem d1_11 : decode prog_57_method_1_code 11 = .ok (.putfield 13, 3) := by decide +kernel
theorem d1_14 : decode prog_57_method_1_code 14 = .ok (.aload_n 0, 1) := by decide +kernel
theorem d1_15 : decode prog_57_method_1_code 15 = .ok (.iload_n 3, 1) := by decide +kernel
theorem d1_16 : decode prog_57_method_1_code 16 = .ok (.putfield 16, 3) := by decide +kernel
theorem d1_19 : decode prog_57_method_1_code 19 = .ok (.aload_n 0, 1) := by decide +kernel
theorem d1_20 : decode prog_57_method_1_code 20 = .ok (.iload 4, 2) := by decide +kernel
theorem d1_22 : decode prog_57_method_1_code 22 = .ok (.putfield 19, 3) := by decide +kernel
theorem d1_25 : decode prog_57_method_1_code 25 = .ok (.aload_n 0, 1) := by decide +kernel
theorem d1_26 : decode prog_57_method_1_code 26 = .ok (.iload 5, 2) := by decide +kernel
theorem d1_28 : decode prog_57_method_1_code 28 = .ok (.putfield 22, 3) := by decide +kernel
theorem d1_31 : decode prog_57_method_1_code 31 = .ok (.aload_n 0, 1) := by decide +kernel
theorem d1_32 : decode prog_57_method_1_code 32 = .ok (.iload 6, 2) := by decide +kernel
theorem d1_34 : decode prog_57_method_1_code 34 = .ok (.putfield 25, 3) := by decide +kernel
theorem d1_37 : decode prog_57_method_1_code 37 = .ok (.return_, 1) := by decide +kernel
theorem pn_com_example_allotd_allotd_store_CountedRequests_Compaction : plainName "com/example/allotd/allotd/store/CountedRequests$Compaction" = true := by first | (simp [plainName, overriddenIn]; done) | decide +kernel
theorem ef_rm_ini (m : MethodId) (x0 : Addr) (x1 : Int32) (x2 : Int32) (x3 : Int32) (x4 : Int32) (x5 : Int32) (x6 : Int32) : entryFrame m #[(.ref x0), (.int x1), (.int x2), (.int x3), (.int x4), (.int x5), (.int x6)] 7 = mkF m 0 #[.val (.ref x0), .val (.int x1), .val (.int x2), .val (.int x3), .val (.int x4), .val (.int x5), .val (.int x6)] [] := by first | (simp [entryFrame, mkF, argsToLocals, Value.category]; done) | rfl
def Q_rm_ini (Z : State) (a1 : Addr) (p2 : Int32) (p3 : Int32) (p4 : Int32) (p5 : Int32) (p6 : Int32) (p7 : Int32) (v0 : Value) (v1 : Value) (v2 : Value) (v3 : Value) (v4 : Value) (v5 : Value) (h0 : Heap) (n0 : Nat) (v : Option Value) (h : Heap) (L : List Loc) : Prop := v = none ∧ Fr n0 L ∧ Keep h0 h [a1] ∧ (Fld Z h a1 "com/example/allotd/allotd/store/CountedRequests$Compaction" "sealAt" "I" (.int p3)) ∧ (Fld Z h a1 "com/example/allotd/allotd/store/CountedRequests$Compaction" "mergeWidth" "I" (.int p5))
set_option maxRecDepth 65536 in
set_option maxHeartbeats 40000000 in
theorem rm_ini (l : Launch) (Z : State) (a0 : Array Value) (hw : ∀ d ∈ tables_1, d.before a0 Z = true) (ws : List Jvm.Cond) (a1 : Addr) (p2 : Int32) (p3 : Int32) (p4 : Int32) (p5 : Int32) (p6 : Int32) (p7 : Int32) (v0 : Value) (v1 : Value) (v2 : Value) (v3 : Value) (v4 : Value) (v5 : Value) (h0 : Heap) (n0 : Nat) (Z0 : n0 ≤ h0.size) (pr0 : Exa Z h0 a1 "com/example/allotd/allotd/store/CountedRequests$Compaction") (pr1 : Fld Z h0 a1 "com/example/allotd/allotd/store/CountedRequests$Compaction" "every" "I" v0) (pr2 : Fld Z h0 a1 "com/example/allotd/allotd/store/CountedRequests$Compaction" "sealAt" "I" v1) (pr3 : Fld Z h0 a1 "com/example/allotd/allotd/store/CountedRequests$Compaction" "sealAtMost" "I" v2) (pr4 : Fld Z h0 a1 "com/example/allotd/allotd/store/CountedRequests$Compaction" "mergeWidth" "I" v3) (pr5 : Fld Z h0 a1 "com/example/allotd/allotd/store/CountedRequests$Compaction" "stepKeys" "I" v4) (pr6 : Fld Z h0 a1 "com/example/allotd/allotd/store/CountedRequests$Compaction" "bucketKeys" "I" v5) (pr7 : n0 ≤ a1) :
    MetFree l (⟨"com/example/allotd/allotd/store/CountedRequests$Compaction", "<init>", "(IIIIII)V"⟩ : MethodName) (head1 (Jvm.Cond.code (⟨"com/example/allotd/allotd/store/CountedRequests$Compaction", "<init>", "(IIIIII)V"⟩ : MethodName) prog_57_method_1_code 7 none :: ws) ({ frames := 2, cells := 0, slots := 0, locals := 24 } : Room)) (fun a U => a = #[(.ref a1), (.int p2), (.int p3), (.int p4), (.int p5), (.int p6), (.int p7)] ∧ Z.Warmed39 U.vm ∧ U.heap = h0) (fun _ _ _ _ _ => True) (fun _ U o U' => ∃ v L, o = .returned v ∧ Q_rm_ini Z a1 p2 p3 p4 p5 p6 p7 v0 v1 v2 v3 v4 v5 h0 n0 v U'.heap L ∧ FrameEnd U o U' L ({ frames := 2, cells := 0, slots := 0, locals := 24 } : Room).cells ({ frames := 2, cells := 0, slots := 0, locals := 24 } : Room).slots) := by
  refine MetFree.of_bodySF (plainFor_of_name pn_com_example_allotd_allotd_store_CountedRequests_Compaction) hisR ?_
  intro p e s m args below meth c s₁ Bd hml0 hP hK
  obtain ⟨rfl, hZ, hh⟩ := hP
  have hx := Bd.exec
  have hby := Bd.bytes
  have hml : c.maxLocals = 7 := hml0
  have hown : s.vm.findClass "com/example/allotd/allotd/store/CountedRequests$Compaction" = some m.cls := findClass_of_methodNamed Bd.named
  have hnm := (name_of_methodNamed Bd.named Bd.method).1
  have X0 : Stand p l e ({ frames := 2, cells := 0, slots := 0, locals := 24 } : Room) s m #[(.ref a1), (.int p2), (.int p3), (.int p4), (.int p5), (.int p6), (.int p7)] below meth c s₁ [] 0 0 := Stand.of_body Bd
  have e0 : s₁.heap = h0 := by rw [← hh, Bd.state]; rfl
  have N0 := Fr.nil n0
  have pre0 : ∀ t, Steps p.tables e below (s₁.setTop (mkF m 0 #[.val (.ref a1), .val (.int p2), .val (.int p3), .val (.int p4), .val (.int p5), .val (.int p6), .val (.int p7)] [])) t → Steps p.tables e below (s₁.setTop (entryFrame m #[(.ref a1), (.int p2), (.int p3), (.int p4), (.int p5), (.int p6), (.int p7)] 7)) t := fun t k => castTop (ef_rm_ini m a1 p2 p3 p4 p5 p6 p7) k
  obtain ⟨_, _, ⟨T1, L1, k1, n1⟩, -, X1, ⟨Lc1, hQ1, l1, y1, z1⟩, st1⟩ := X0.specialBack hx (y := (⟨"java/lang/Record", "<init>", "()V"⟩ : MethodName)) rfl hown (mvT hZ (hw _ (List.mem_of_getElem? (i := 7) rfl))) (mvT hZ (hw _ (List.mem_of_getElem? (i := 8) rfl))) (mvT hZ (hw _ (List.mem_of_getElem? (i := 11) rfl))) (by decide) (backOf (W := 0) (rm_rec l Z a0 hw [] a1 h0 n0 Z0) hZ (hw _ (List.mem_of_getElem? (i := 11) rfl)) (hw _ (List.mem_of_getElem? (i := 10) rfl)) (by decide) (by decide)) (g := (mkF m 1 #[.val (.ref a1), .val (.int p2), .val (.int p3), .val (.int p4), .val (.int p5), .val (.int p6), .val (.int p7)] [(.ref a1)])) rfl (by rw [hml]; rfl) (Steps.refl _) (a := a1) (argsL := []) (rest := []) (lenOf pd__40_41V rfl) rfl (by show 2 * 0 + _ ≤ _; exact Nat.le_of_eq rfl) (hb hby d1_1) (fun _ _ => ⟨rfl, e0, (by decide : 0 + 0 ≤ _), (by decide : 0 + 0 ≤ _)⟩)
  dsimp only [Pt.U, Pt.locs, Pt.cells, Pt.slots] at X1 l1 y1 z1 st1 hQ1
  subst l1 y1 z1
  obtain ⟨rfl, Nq1, e1⟩ := hQ1
  have N1 := Fr.app N0 Nq1
  obtain ⟨T2, h2, X2, e2, W2, st2⟩ := putF X1 hx hZ hown (host := "") (Or.inl (hw _ (List.mem_of_getElem? (i := 15) rfl))) Via.refl e1 pr1 pr0 (Or.inr ⟨(hw _ (List.mem_of_getElem? (i := 16) rfl)), rfl, hnm⟩) (hw _ (List.mem_of_getElem? (i := 2) rfl)) (ty := .int) (by decide) rfl rfl (g := (mkF m 6 #[.val (.ref a1), .val (.int p2), .val (.int p3), .val (.int p4), .val (.int p5), .val (.int p6), .val (.int p7)] [(.int p2), (.ref a1)])) rfl rfl (hb hby d1_6)
  have N2 := Fr.snoc X2 N1 pr7
  have f2 : Fld Z h2 a1 "com/example/allotd/allotd/store/CountedRequests$Compaction" "every" "I" (.int p2) := pr1.same W2
  have K3 : Keep h0 h2 [a1] := (Keep.refl h0 [a1]).wr W2 (Or.inl (List.mem_of_getElem? (i := 0) rfl))
  have f4 : Fld Z h2 a1 "com/example/allotd/allotd/store/CountedRequests$Compaction" "sealAt" "I" v1 := (pr2.other W2 (Or.inr (slot_ne (Or.inr (hw _ (List.mem_of_getElem? (i := 18) rfl))) (Or.inr (hw _ (List.mem_of_getElem? (i := 16) rfl))) (by decide) (t := .int) (t' := .int) (by decide) (by decide))))
  have f5 : Exa Z h2 a1 "com/example/allotd/allotd/store/CountedRequests$Compaction" := (pr0.wr W2)
  obtain ⟨T6, h6, X6, e6, W6, st6⟩ := putF X2 hx hZ hown (host := "") (Or.inl (hw _ (List.mem_of_getElem? (i := 17) rfl))) Via.refl e2 f4 f5 (Or.inr ⟨(hw _ (List.mem_of_getElem? (i := 18) rfl)), rfl, hnm⟩) (hw _ (List.mem_of_getElem? (i := 2) rfl)) (ty := .int) (by decide) rfl rfl (g := (mkF m 11 #[.val (.ref a1), .val (.int p2), .val (.int p3), .val (.int p4), .val (.int p5), .val (.int p6), .val (.int p7)] [(.int p3), (.ref a1)])) rfl rfl (hb hby d1_11)
  have N6 := Fr.snoc X6 N2 pr7
  have f6 : Fld Z h6 a1 "com/example/allotd/allotd/store/CountedRequests$Compaction" "sealAt" "I" (.int p3) := f4.same W6
  have K7 : Keep h0 h6 [a1] := K3.wr W6 (Or.inl (List.mem_of_getElem? (i := 0) rfl))
  have f8 : Fld Z h6 a1 "com/example/allotd/allotd/store/CountedRequests$Compaction" "sealAtMost" "I" v2 := ((pr3.other W2 (Or.inr (slot_ne (Or.inr (hw _ (List.mem_of_getElem? (i := 20) rfl))) (Or.inr (hw _ (List.mem_of_getElem? (i := 16) rfl))) (by decide) (t := .int) (t' := .int) (by decide) (by decide)))).other W6 (Or.inr (slot_ne (Or.inr (hw _ (List.mem_of_getElem? (i := 20) rfl))) (Or.inr (hw _ (List.mem_of_getElem? (i := 18) rfl))) (by decide) (t := .int) (t' := .int) (by decide) (by decide))))
  have f9 : Exa Z h6 a1 "com/example/allotd/allotd/store/CountedRequests$Compaction" := (f5.wr W6)
  obtain ⟨T10, h10, X10, e10, W10, st10⟩ := putF X6 hx hZ hown (host := "") (Or.inl (hw _ (List.mem_of_getElem? (i := 19) rfl))) Via.refl e6 f8 f9 (Or.inr ⟨(hw _ (List.mem_of_getElem? (i := 20) rfl)), rfl, hnm⟩) (hw _ (List.mem_of_getElem? (i := 2) rfl)) (ty := .int) (by decide) rfl rfl (g := (mkF m 16 #[.val (.ref a1), .val (.int p2), .val (.int p3), .val (.int p4), .val (.int p5), .val (.int p6), .val (.int p7)] [(.int p4), (.ref a1)])) rfl rfl (hb hby d1_16)
  have N10 := Fr.snoc X10 N6 pr7
  have f10 : Fld Z h10 a1 "com/example/allotd/allotd/store/CountedRequests$Compaction" "sealAtMost" "I" (.int p4) := f8.same W10
  have K11 : Keep h0 h10 [a1] := K7.wr W10 (Or.inl (List.mem_of_getElem? (i := 0) rfl))
  have f12 : Fld Z h10 a1 "com/example/allotd/allotd/store/CountedRequests$Compaction" "mergeWidth" "I" v3 := (((pr4.other W2 (Or.inr (slot_ne (Or.inr (hw _ (List.mem_of_getElem? (i := 22) rfl))) (Or.inr (hw _ (List.mem_of_getElem? (i := 16) rfl))) (by decide) (t := .int) (t' := .int) (by decide) (by decide)))).other W6 (Or.inr (slot_ne (Or.inr (hw _ (List.mem_of_getElem? (i := 22) rfl))) (Or.inr (hw _ (List.mem_of_getElem? (i := 18) rfl))) (by decide) (t := .int) (t' := .int) (by decide) (by decide)))).other W10 (Or.inr (slot_ne (Or.inr (hw _ (List.mem_of_getElem? (i := 22) rfl))) (Or.inr (hw _ (List.mem_of_getElem? (i := 20) rfl))) (by decide) (t := .int) (t' := .int) (by decide) (by decide))))
  have f13 : Exa Z h10 a1 "com/example/allotd/allotd/store/CountedRequests$Compaction" := (f9.wr W10)
  obtain ⟨T14, h14, X14, e14, W14, st14⟩ := putF X10 hx hZ hown (host := "") (Or.inl (hw _ (List.mem_of_getElem? (i := 21) rfl))) Via.refl e10 f12 f13 (Or.inr ⟨(hw _ (List.mem_of_getElem? (i := 22) rfl)), rfl, hnm⟩) (hw _ (List.mem_of_getElem? (i := 2) rfl)) (ty := .int) (by decide) rfl rfl (g := (mkF m 22 #[.val (.ref a1), .val (.int p2), .val (.int p3), .val (.int p4), .val (.int p5), .val (.int p6), .val (.int p7)] [(.int p5), (.ref a1)])) rfl rfl (hb hby d1_22)
  have N14 := Fr.snoc X14 N10 pr7
  have f14 : Fld Z h14 a1 "com/example/allotd/allotd/store/CountedRequests$Compaction" "mergeWidth" "I" (.int p5) := f12.same W14
  have K15 : Keep h0 h14 [a1] := K11.wr W14 (Or.inl (List.mem_of_getElem? (i := 0) rfl))
  have f16 : Fld Z h14 a1 "com/example/allotd/allotd/store/CountedRequests$Compaction" "stepKeys" "I" v4 := ((((pr5.other W2 (Or.inr (slot_ne (Or.inr (hw _ (List.mem_of_getElem? (i := 24) rfl))) (Or.inr (hw _ (List.mem_of_getElem? (i := 16) rfl))) (by decide) (t := .int) (t' := .int) (by decide) (by decide)))).other W6 (Or.inr (slot_ne (Or.inr (hw _ (List.mem_of_getElem? (i := 24) rfl))) (Or.inr (hw _ (List.mem_of_getElem? (i := 18) rfl))) (by decide) (t := .int) (t' := .int) (by decide) (by decide)))).other W10 (Or.inr (slot_ne (Or.inr (hw _ (List.mem_of_getElem? (i := 24) rfl))) (Or.inr (hw _ (List.mem_of_getElem? (i := 20) rfl))) (by decide) (t := .int) (t' := .int) (by decide) (by decide)))).other W14 (Or.inr (slot_ne (Or.inr (hw _ (List.mem_of_getElem? (i := 24) rfl))) (Or.inr (hw _ (List.mem_of_getElem? (i := 22) rfl))) (by decide) (t := .int) (t' := .int) (by decide) (by decide))))
  have f17 : Exa Z h14 a1 "com/example/allotd/allotd/store/CountedRequests$Compaction" := (f13.wr W14)
  obtain ⟨T18, h18, X18, e18, W18, st18⟩ := putF X14 hx hZ hown (host := "") (Or.inl (hw _ (List.mem_of_getElem? (i := 23) rfl))) Via.refl e14 f16 f17 (Or.inr ⟨(hw _ (List.mem_of_getElem? (i := 24) rfl)), rfl, hnm⟩) (hw _ (List.mem_of_getElem? (i := 2) rfl)) (ty := .int) (by decide) rfl rfl (g := (mkF m 28 #[.val (.ref a1), .val (.int p2), .val (.int p3), .val (.int p4), .val (.int p5), .val (.int p6), .val (.int p7)] [(.int p6), (.ref a1)])) rfl rfl (hb hby d1_28)
  have N18 := Fr.snoc X18 N14 pr7
  have f18 : Fld Z h18 a1 "com/example/allotd/allotd/store/CountedRequests$Compaction" "stepKeys" "I" (.int p6) := f16.same W18
  have K19 : Keep h0 h18 [a1] := K15.wr W18 (Or.inl (List.mem_of_getElem? (i := 0) rfl))
  have f20 : Fld Z h18 a1 "com/example/allotd/allotd/store/CountedRequests$Compaction" "bucketKeys" "I" v5 := (((((pr6.other W2 (Or.inr (slot_ne (Or.inr (hw _ (List.mem_of_getElem? (i := 26) rfl))) (Or.inr (hw _ (List.mem_of_getElem? (i := 16) rfl))) (by decide) (t := .int) (t' := .int) (by decide) (by decide)))).other W6 (Or.inr (slot_ne (Or.inr (hw _ (List.mem_of_getElem? (i := 26) rfl))) (Or.inr (hw _ (List.mem_of_getElem? (i := 18) rfl))) (by decide) (t := .int) (t' := .int) (by decide) (by decide)))).other W10 (Or.inr (slot_ne (Or.inr (hw _ (List.mem_of_getElem? (i := 26) rfl))) (Or.inr (hw _ (List.mem_of_getElem? (i := 20) rfl))) (by decide) (t := .int) (t' := .int) (by decide) (by decide)))).other W14 (Or.inr (slot_ne (Or.inr (hw _ (List.mem_of_getElem? (i := 26) rfl))) (Or.inr (hw _ (List.mem_of_getElem? (i := 22) rfl))) (by decide) (t := .int) (t' := .int) (by decide) (by decide)))).other W18 (Or.inr (slot_ne (Or.inr (hw _ (List.mem_of_getElem? (i := 26) rfl))) (Or.inr (hw _ (List.mem_of_getElem? (i := 24) rfl))) (by decide) (t := .int) (t' := .int) (by decide) (by decide))))
  have f21 : Exa Z h18 a1 "com/example/allotd/allotd/store/CountedRequests$Compaction" := (f17.wr W18)
  obtain ⟨T22, h22, X22, e22, W22, st22⟩ := putF X18 hx hZ hown (host := "") (Or.inl (hw _ (List.mem_of_getElem? (i := 25) rfl))) Via.refl e18 f20 f21 (Or.inr ⟨(hw _ (List.mem_of_getElem? (i := 26) rfl)), rfl, hnm⟩) (hw _ (List.mem_of_getElem? (i := 2) rfl)) (ty := .int) (by decide) rfl rfl (g := (mkF m 34 #[.val (.ref a1), .val (.int p2), .val (.int p3), .val (.int p4), .val (.int p5), .val (.int p6), .val (.int p7)] [(.int p7), (.ref a1)])) rfl rfl (hb hby d1_34)
  have N22 := Fr.snoc X22 N18 pr7
  have f22 : Fld Z h22 a1 "com/example/allotd/allotd/store/CountedRequests$Compaction" "bucketKeys" "I" (.int p7) := f20.same W22
  have K23 : Keep h0 h22 [a1] := K19.wr W22 (Or.inl (List.mem_of_getElem? (i := 0) rfl))
  have f24 : Fld Z h22 a1 "com/example/allotd/allotd/store/CountedRequests$Compaction" "sealAt" "I" (.int p3) := ((((f6.other W10 (Or.inr (slot_ne (Or.inr (hw _ (List.mem_of_getElem? (i := 18) rfl))) (Or.inr (hw _ (List.mem_of_getElem? (i := 20) rfl))) (by decide) (t := .int) (t' := .int) (by decide) (by decide)))).other W14 (Or.inr (slot_ne (Or.inr (hw _ (List.mem_of_getElem? (i := 18) rfl))) (Or.inr (hw _ (List.mem_of_getElem? (i := 22) rfl))) (by decide) (t := .int) (t' := .int) (by decide) (by decide)))).other W18 (Or.inr (slot_ne (Or.inr (hw _ (List.mem_of_getElem? (i := 18) rfl))) (Or.inr (hw _ (List.mem_of_getElem? (i := 24) rfl))) (by decide) (t := .int) (t' := .int) (by decide) (by decide)))).other W22 (Or.inr (slot_ne (Or.inr (hw _ (List.mem_of_getElem? (i := 18) rfl))) (Or.inr (hw _ (List.mem_of_getElem? (i := 26) rfl))) (by decide) (t := .int) (t' := .int) (by decide) (by decide))))
  have f25 : Fld Z h22 a1 "com/example/allotd/allotd/store/CountedRequests$Compaction" "mergeWidth" "I" (.int p5) := ((f14.other W18 (Or.inr (slot_ne (Or.inr (hw _ (List.mem_of_getElem? (i := 22) rfl))) (Or.inr (hw _ (List.mem_of_getElem? (i := 24) rfl))) (by decide) (t := .int) (t' := .int) (by decide) (by decide)))).other W22 (Or.inr (slot_ne (Or.inr (hw _ (List.mem_of_getElem? (i := 22) rfl))) (Or.inr (hw _ (List.mem_of_getElem? (i := 26) rfl))) (by decide) (t := .int) (t' := .int) (by decide) (by decide))))
  have f24 : Fld Z h22 a1 "com/example/allotd/allotd/store/CountedRequests$Compaction" "sealAt" "I" (.int p3) := ((((f6.other W10 (Or.inr (slot_ne (Or.inr (hw _ (List.mem_of_getElem? (i := 18) rfl))) (Or.inr (hw _ (List.mem_of_getElem? (i := 20) rfl))) (by decide) (t := .int) (t' := .int) (by decide) (by decide)))).other W14 (Or.inr (slot_ne (Or.inr (hw _ (List.mem_of_getElem? (i := 18) rfl))) (Or.inr (hw _ (List.mem_of_getElem? (i := 22) rfl))) (by decide) (t := .int) (t' := .int) (by decide) (by decide)))).other W18 (Or.inr (slot_ne (Or.inr (hw _ (List.mem_of_getElem? (i := 18) rfl))) (Or.inr (hw _ (List.mem_of_getElem? (i := 24) rfl))) (by decide) (t := .int) (t' := .int) (by decide) (by decide)))).other W22 (Or.inr (slot_ne (Or.inr (hw _ (List.mem_of_getElem? (i := 18) rfl))) (Or.inr (hw _ (List.mem_of_getElem? (i := 26) rfl))) (by decide) (t := .int) (t' := .int) (by decide) (by decide))))
  have f25 : Fld Z h22 a1 "com/example/allotd/allotd/store/CountedRequests$Compaction" "mergeWidth" "I" (.int p5) := ((f14.other W18 (Or.inr (slot_ne (Or.inr (hw _ (List.mem_of_getElem? (i := 22) rfl))) (Or.inr (hw _ (List.mem_of_getElem? (i := 24) rfl))) (by decide) (t := .int) (t' := .int) (by decide) (by decide)))).other W22 (Or.inr (slot_ne (Or.inr (hw _ (List.mem_of_getElem? (i := 22) rfl))) (Or.inr (hw _ (List.mem_of_getElem? (i := 26) rfl))) (by decide) (t := .int) (t' := .int) (by decide) (by decide))))
  obtain ⟨fs, hr, hrun, hended, hW, hsame⟩ := X22.leave (v := none) (fun _ => rfl)
  refine ⟨_, _, pre0 _ ?_, hrun, hended, _, _, rfl, ?_, ⟨_, rfl⟩, hW, hsame.mono (by decide) (by decide)⟩
  · show Steps p.tables e below (s₁.setTop (mkF m 0 #[.val (.ref a1), .val (.int p2), .val (.int p3), .val (.int p4), .val (.int p5), .val (.int p6), .val (.int p7)] [])) _
    refine XS.aloadN X0.here hx rfl (hb hby d1_0) rfl rfl ?_
    show Steps p.tables e below (s₁.setTop (mkF m 1 #[.val (.ref a1), .val (.int p2), .val (.int p3), .val (.int p4), .val (.int p5), .val (.int p6), .val (.int p7)] [(.ref a1)])) _
    refine st1.trans ?_
    show Steps p.tables e below (T1.setTop (mkF m 4 #[.val (.ref a1), .val (.int p2), .val (.int p3), .val (.int p4), .val (.int p5), .val (.int p6), .val (.int p7)] [])) _
    refine XS.aloadN X1.here hx rfl (hb hby d1_4) rfl rfl ?_
    show Steps p.tables e below (T1.setTop (mkF m 5 #[.val (.ref a1), .val (.int p2), .val (.int p3), .val (.int p4), .val (.int p5), .val (.int p6), .val (.int p7)] [(.ref a1)])) _
    refine XS.iloadN X1.here hx rfl (hb hby d1_5) rfl ?_
    show Steps p.tables e below (T1.setTop (mkF m 6 #[.val (.ref a1), .val (.int p2), .val (.int p3), .val (.int p4), .val (.int p5), .val (.int p6), .val (.int p7)] [(.int p2), (.ref a1)])) _
    refine st2 _ ?_
    show Steps p.tables e below (T2.setTop (mkF m 9 #[.val (.ref a1), .val (.int p2), .val (.int p3), .val (.int p4), .val (.int p5), .val (.int p6), .val (.int p7)] [])) _
    refine XS.aloadN X2.here hx rfl (hb hby d1_9) rfl rfl ?_
    show Steps p.tables e below (T2.setTop (mkF m 10 #[.val (.ref a1), .val (.int p2), .val (.int p3), .val (.int p4), .val (.int p5), .val (.int p6), .val (.int p7)] [(.ref a1)])) _
    refine XS.iloadN X2.here hx rfl (hb hby d1_10) rfl ?_
    show Steps p.tables e below (T2.setTop (mkF m 11 #[.val (.ref a1), .val (.int p2), .val (.int p3), .val (.int p4), .val (.int p5), .val (.int p6), .val (.int p7)] [(.int p3), (.ref a1)])) _
    refine st6 _ ?_
    show Steps p.tables e below (T6.setTop (mkF m 14 #[.val (.ref a1), .val (.int p2), .val (.int p3), .val (.int p4), .val (.int p5), .val (.int p6), .val (.int p7)] [])) _
    refine XS.aloadN X6.here hx rfl (hb hby d1_14) rfl rfl ?_
    show Steps p.tables e below (T6.setTop (mkF m 15 #[.val (.ref a1), .val (.int p2), .val (.int p3), .val (.int p4), .val (.int p5), .val (.int p6), .val (.int p7)] [(.ref a1)])) _
    refine XS.iloadN X6.here hx rfl (hb hby d1_15) rfl ?_
    show Steps p.tables e below (T6.setTop (mkF m 16 #[.val (.ref a1), .val (.int p2), .val (.int p3), .val (.int p4), .val (.int p5), .val (.int p6), .val (.int p7)] [(.int p4), (.ref a1)])) _
    refine st10 _ ?_
    show Steps p.tables e below (T10.setTop (mkF m 19 #[.val (.ref a1), .val (.int p2), .val (.int p3), .val (.int p4), .val (.int p5), .val (.int p6), .val (.int p7)] [])) _
    refine XS.aloadN X10.here hx rfl (hb hby d1_19) rfl rfl ?_
    show Steps p.tables e below (T10.setTop (mkF m 20 #[.val (.ref a1), .val (.int p2), .val (.int p3), .val (.int p4), .val (.int p5), .val (.int p6), .val (.int p7)] [(.ref a1)])) _
    refine XS.iload X10.here hx rfl (hb hby d1_20) rfl ?_
    show Steps p.tables e below (T10.setTop (mkF m 22 #[.val (.ref a1), .val (.int p2), .val (.int p3), .val (.int p4), .val (.int p5), .val (.int p6), .val (.int p7)] [(.int p5), (.ref a1)])) _
    refine st14 _ ?_
    show Steps p.tables e below (T14.setTop (mkF m 25 #[.val (.ref a1), .val (.int p2), .val (.int p3), .val (.int p4), .val (.int p5), .val (.int p6), .val (.int p7)] [])) _
    refine XS.aloadN X14.here hx rfl (hb hby d1_25) rfl rfl ?_
    show Steps p.tables e below (T14.setTop (mkF m 26 #[.val (.ref a1), .val (.int p2), .val (.int p3), .val (.int p4), .val (.int p5), .val (.int p6), .val (.int p7)] [(.ref a1)])) _
    refine XS.iload X14.here hx rfl (hb hby d1_26) rfl ?_
    show Steps p.tables e below (T14.setTop (mkF m 28 #[.val (.ref a1), .val (.int p2), .val (.int p3), .val (.int p4), .val (.int p5), .val (.int p6), .val (.int p7)] [(.int p6), (.ref a1)])) _
    refine st18 _ ?_
    show Steps p.tables e below (T18.setTop (mkF m 31 #[.val (.ref a1), .val (.int p2), .val (.int p3), .val (.int p4), .val (.int p5), .val (.int p6), .val (.int p7)] [])) _
    refine XS.aloadN X18.here hx rfl (hb hby d1_31) rfl rfl ?_
    show Steps p.tables e below (T18.setTop (mkF m 32 #[.val (.ref a1), .val (.int p2), .val (.int p3), .val (.int p4), .val (.int p5), .val (.int p6), .val (.int p7)] [(.ref a1)])) _
    refine XS.iload X18.here hx rfl (hb hby d1_32) rfl ?_
    show Steps p.tables e below (T18.setTop (mkF m 34 #[.val (.ref a1), .val (.int p2), .val (.int p3), .val (.int p4), .val (.int p5), .val (.int p6), .val (.int p7)] [(.int p7), (.ref a1)])) _
    refine st22 _ ?_
    show Steps p.tables e below (T22.setTop (mkF m 37 #[.val (.ref a1), .val (.int p2), .val (.int p3), .val (.int p4), .val (.int p5), .val (.int p6), .val (.int p7)] [])) _
    exact X22.returnOut hx Bd.returns (hb hby d1_37) hr
  · show Q_rm_ini Z a1 p2 p3 p4 p5 p6 p7 v0 v1 v2 v3 v4 v5 h0 n0 _ T22.heap _
    rw [e22]
    exact ⟨rfl, N22, K23, f24, f25⟩
theorem d4_11 : decode prog_57_method_3_code 11 = .ok (.lload 4, 2) := by decide +kernel
theorem d4_13 : decode prog_57_method_3_code 13 = .ok (.aload_n 0, 1) := by decide +kernel
theorem d4_14 : decode prog_57_method_3_code 14 = .ok (.getfield 19, 3) := by decide +kernel
theorem d4_17 : decode prog_57_method_3_code 17 = .ok (.i2l, 1) := by decide +kernel
theorem d4_18 : decode prog_57_method_3_code 18 = .ok (.lcmp, 1) := by decide +kernel
theorem d4_19 : decode prog_57_method_3_code 19 = .ok (.ifCond .lt 19, 3) := by decide +kernel
theorem d4_22 : decode prog_57_method_3_code 22 = .ok (.iinc 3 1, 3) := by decide +kernel
theorem d4_25 : decode prog_57_method_3_code 25 = .ok (.lload 4, 2) := by decide +kernel
theorem d4_27 : decode prog_57_method_3_code 27 = .ok (.aload_n 0, 1) := by decide +kernel
theorem d4_28 : decode prog_57_method_3_code 28 = .ok (.getfield 19, 3) := by decide +kernel
theorem d4_31 : decode prog_57_method_3_code 31 = .ok (.i2l, 1) := by decide +kernel
theorem d4_32 : decode prog_57_method_3_code 32 = .ok (.ldiv, 1) := by decide +kernel
theorem d4_33 : decode prog_57_method_3_code 33 = .ok (.lstore 4, 2) := by decide +kernel
theorem d4_35 : decode prog_57_method_3_code 35 = .ok (.goto (-24), 3) := by decide +kernel
set_option maxRecDepth 65536 in
set_option maxHeartbeats 40000000 in
theorem tn_turn {p : Program} {l : Launch} {e : Env} {R : Room} {s : State} {m : MethodId} {args : Array Value} {below : List Frame} {meth : Method} {c : Code} {T0 : State} {locs : List Loc} {cells slots : Nat} {Z : State} {a0 : Array Value} {h0 : Heap} (a : Addr) (q : Int64) (i : Int32) (r : Int64) (mw : Int32)
    (X0 : Stand p l e R s m args below meth c T0 locs cells slots) (hx : p.tables.exec = Jvm.exec) (hZ : Z.Warmed39 s.vm) (hw : ∀ d ∈ tables_1, d.before a0 Z = true) (hby : c.code = prog_57_method_3_code) (hml : c.maxLocals = 6) (hown : s.vm.findClass "com/example/allotd/allotd/store/CountedRequests$Compaction" = some m.cls) (e0 : T0.heap = h0) (pr0 : Fld Z h0 a "com/example/allotd/allotd/store/CountedRequests$Compaction" "mergeWidth" "I" (.int mw)) (hc : ¬ (r < (mw.toInt64))) (hz : ¬ ((mw.toInt64) = (0 : Int64))) :
    ∃ (T' : State), Stand p l e R s m args below meth c T' locs cells slots ∧ T'.heap = h0 ∧ ∀ target, Steps p.tables e below (T'.setTop (mkF m 11 #[.val (.ref a), .val (.long q), .second, .val (.int (i + (1 : Int32))), .val (.long (r / (mw.toInt64))), .second] [])) target → Steps p.tables e below (T0.setTop (mkF m 11 #[.val (.ref a), .val (.long q), .second, .val (.int i), .val (.long r), .second] [])) target := by
  obtain ⟨T1, X1, e1, st1⟩ := getF X0 hx hZ hown (host := "") (Or.inl (hw _ (List.mem_of_getElem? (i := 21) rfl))) Via.refl e0 pr0 (g := (mkF m 14 #[.val (.ref a), .val (.long q), .second, .val (.int i), .val (.long r), .second] [(.ref a), (.long r)])) rfl rfl (hb hby d4_14)
  obtain ⟨T2, X2, e2, st2⟩ := getF X1 hx hZ hown (host := "") (Or.inl (hw _ (List.mem_of_getElem? (i := 21) rfl))) Via.refl e1 pr0 (g := (mkF m 28 #[.val (.ref a), .val (.long q), .second, .val (.int (i + (1 : Int32))), .val (.long r), .second] [(.ref a), (.long r)])) rfl rfl (hb hby d4_28)
  refine ⟨T2, X2, e2, fun target kt => ?_⟩
  show Steps p.tables e below (T0.setTop (mkF m 11 #[.val (.ref a), .val (.long q), .second, .val (.int i), .val (.long r), .second] [])) _
  refine XS.lload X0.here hx rfl (hb hby d4_11) rfl ?_
  show Steps p.tables e below (T0.setTop (mkF m 13 #[.val (.ref a), .val (.long q), .second, .val (.int i), .val (.long r), .second] [(.long r)])) _
  refine XS.aloadN X0.here hx rfl (hb hby d4_13) rfl rfl ?_
  show Steps p.tables e below (T0.setTop (mkF m 14 #[.val (.ref a), .val (.long q), .second, .val (.int i), .val (.long r), .second] [(.ref a), (.long r)])) _
  refine st1 _ ?_
  show Steps p.tables e below (T1.setTop (mkF m 17 #[.val (.ref a), .val (.long q), .second, .val (.int i), .val (.long r), .second] [(.int mw), (.long r)])) _
  refine XS.i2l X1.here hx rfl (hb hby d4_17) rfl ?_
  show Steps p.tables e below (T1.setTop (mkF m 18 #[.val (.ref a), .val (.long q), .second, .val (.int i), .val (.long r), .second] [(.long (mw.toInt64)), (.long r)])) _
  refine XS.lcmp X1.here hx rfl (hb hby d4_18) rfl ?_
  show Steps p.tables e below (T1.setTop (mkF m 19 #[.val (.ref a), .val (.long q), .second, .val (.int i), .val (.long r), .second] [(.int (lcmpW r (mw.toInt64)))])) _
  refine XS.ifNo X1.here hx rfl (hb hby d4_19) rfl ((if0 _ _).trans (flt (fun q_ => hc ((lw_lt _ _).mp q_))).1) ?_
  show Steps p.tables e below (T1.setTop (mkF m 22 #[.val (.ref a), .val (.long q), .second, .val (.int i), .val (.long r), .second] [])) _
  refine XS.iinc X1.here hx rfl (hb hby d4_22) rfl (l' := #[.val (.ref a), .val (.long q), .second, .val (.int (i + (1 : Int32))), .val (.long r), .second]) rfl ?_
  show Steps p.tables e below (T1.setTop (mkF m 25 #[.val (.ref a), .val (.long q), .second, .val (.int (i + (1 : Int32))), .val (.long r), .second] [])) _
  refine XS.lload X1.here hx rfl (hb hby d4_25) rfl ?_
  show Steps p.tables e below (T1.setTop (mkF m 27 #[.val (.ref a), .val (.long q), .second, .val (.int (i + (1 : Int32))), .val (.long r), .second] [(.long r)])) _
  refine XS.aloadN X1.here hx rfl (hb hby d4_27) rfl rfl ?_
  show Steps p.tables e below (T1.setTop (mkF m 28 #[.val (.ref a), .val (.long q), .second, .val (.int (i + (1 : Int32))), .val (.long r), .second] [(.ref a), (.long r)])) _
  refine st2 _ ?_
  show Steps p.tables e below (T2.setTop (mkF m 31 #[.val (.ref a), .val (.long q), .second, .val (.int (i + (1 : Int32))), .val (.long r), .second] [(.int mw), (.long r)])) _
  refine XS.i2l X2.here hx rfl (hb hby d4_31) rfl ?_
  show Steps p.tables e below (T2.setTop (mkF m 32 #[.val (.ref a), .val (.long q), .second, .val (.int (i + (1 : Int32))), .val (.long r), .second] [(.long (mw.toInt64)), (.long r)])) _
  refine XS.ldiv X2.here hx rfl (hb hby d4_32) rfl hz ?_
  show Steps p.tables e below (T2.setTop (mkF m 33 #[.val (.ref a), .val (.long q), .second, .val (.int (i + (1 : Int32))), .val (.long r), .second] [(.long (r / (mw.toInt64)))])) _
  refine XS.lstore X2.here hx rfl (hb hby d4_33) rfl (l' := #[.val (.ref a), .val (.long q), .second, .val (.int (i + (1 : Int32))), .val (.long (r / (mw.toInt64))), .second]) rfl ?_
  show Steps p.tables e below (T2.setTop (mkF m 35 #[.val (.ref a), .val (.long q), .second, .val (.int (i + (1 : Int32))), .val (.long (r / (mw.toInt64))), .second] [])) _
  refine XS.goto X2.here hx rfl (pc0 := 35) (pc' := 11) rfl (hb hby d4_35) (by decide) (by decide) ?_
  exact kt
set_option maxRecDepth 65536 in
set_option maxHeartbeats 40000000 in
theorem tn_leave {p : Program} {l : Launch} {e : Env} {R : Room} {s : State} {m : MethodId} {args : Array Value} {below : List Frame} {meth : Method} {c : Code} {T0 : State} {locs : List Loc} {cells slots : Nat} {Z : State} {a0 : Array Value} {h0 : Heap} (a : Addr) (q : Int64) (i : Int32) (r : Int64) (mw : Int32)
    (X0 : Stand p l e R s m args below meth c T0 locs cells slots) (hx : p.tables.exec = Jvm.exec) (hZ : Z.Warmed39 s.vm) (hw : ∀ d ∈ tables_1, d.before a0 Z = true) (hby : c.code = prog_57_method_3_code) (hml : c.maxLocals = 6) (hown : s.vm.findClass "com/example/allotd/allotd/store/CountedRequests$Compaction" = some m.cls) (e0 : T0.heap = h0) (pr0 : Fld Z h0 a "com/example/allotd/allotd/store/CountedRequests$Compaction" "mergeWidth" "I" (.int mw)) (hc : r < (mw.toInt64)) :
    ∃ (T' : State), Stand p l e R s m args below meth c T' locs cells slots ∧ T'.heap = h0 ∧ ∀ target, Steps p.tables e below (T'.setTop (mkF m 38 #[.val (.ref a), .val (.long q), .second, .val (.int i), .val (.long r), .second] [])) target → Steps p.tables e below (T0.setTop (mkF m 11 #[.val (.ref a), .val (.long q), .second, .val (.int i), .val (.long r), .second] [])) target := by
  obtain ⟨T1, X1, e1, st1⟩ := getF X0 hx hZ hown (host := "") (Or.inl (hw _ (List.mem_of_getElem? (i := 21) rfl))) Via.refl e0 pr0 (g := (mkF m 14 #[.val (.ref a), .val (.long q), .second, .val (.int i), .val (.long r), .second] [(.ref a), (.long r)])) rfl rfl (hb hby d4_14)
  refine ⟨T1, X1, e1, fun target kt => ?_⟩
  show Steps p.tables e below (T0.setTop (mkF m 11 #[.val (.ref a), .val (.long q), .second, .val (.int i), .val (.long r), .second] [])) _
  refine XS.lload X0.here hx rfl (hb hby d4_11) rfl ?_
  show Steps p.tables e below (T0.setTop (mkF m 13 #[.val (.ref a), .val (.long q), .second, .val (.int i), .val (.long r), .second] [(.long r)])) _
  refine XS.aloadN X0.here hx rfl (hb hby d4_13) rfl rfl ?_
  show Steps p.tables e below (T0.setTop (mkF m 14 #[.val (.ref a), .val (.long q), .second, .val (.int i), .val (.long r), .second] [(.ref a), (.long r)])) _
  refine st1 _ ?_
  show Steps p.tables e below (T1.setTop (mkF m 17 #[.val (.ref a), .val (.long q), .second, .val (.int i), .val (.long r), .second] [(.int mw), (.long r)])) _
  refine XS.i2l X1.here hx rfl (hb hby d4_17) rfl ?_
  show Steps p.tables e below (T1.setTop (mkF m 18 #[.val (.ref a), .val (.long q), .second, .val (.int i), .val (.long r), .second] [(.long (mw.toInt64)), (.long r)])) _
  refine XS.lcmp X1.here hx rfl (hb hby d4_18) rfl ?_
  show Steps p.tables e below (T1.setTop (mkF m 19 #[.val (.ref a), .val (.long q), .second, .val (.int i), .val (.long r), .second] [(.int (lcmpW r (mw.toInt64)))])) _
  refine XS.ifYes X1.here hx rfl (pc0 := 19) (pc' := 38) rfl (hb hby d4_19) rfl ((if0 _ _).trans (tlt ((lw_lt _ _).mpr hc)).1) (by decide) (by decide) ?_
  exact kt

theorem loopC {p : Program} {l : Launch} {e : Env} {R : Room} {s : State} {m : MethodId} {args : Array Value} {below : List Frame} {meth : Method} {c : Code} {locs : List Loc} {cells slots : Nat} {Z : State} {a0 : Array Value} {h0 : Heap} (a : Addr) (mw : Int32) (q : Int64) (hx : p.tables.exec = Jvm.exec) (hZ : Z.Warmed39 s.vm) (hw : ∀ d ∈ tables_1, d.before a0 Z = true) (hby : c.code = prog_57_method_3_code) (hml : c.maxLocals = 6) (hown : s.vm.findClass "com/example/allotd/allotd/store/CountedRequests$Compaction" = some m.cls) (F : Fld Z h0 a "com/example/allotd/allotd/store/CountedRequests$Compaction" "mergeWidth" "I" (.int mw)) (h1 : 2 ≤ mw.toInt) :
    ∀ (k : Nat) (i : Int32) (r : Int64) (T0 : State), r.toInt < (2 ^ k : Nat) → Stand p l e R s m args below meth c T0 locs cells slots → T0.heap = h0 →
      ∃ (T' : State) (r' : Int64), Stand p l e R s m args below meth c T' locs cells slots ∧ T'.heap = h0 ∧
        ∀ target, Steps p.tables e below (T'.setTop (mkF m 38 #[.val (.ref a), .val (.long q), .second, .val (.int (i + own_sc mw k r)), .val (.long r'), .second] [])) target → Steps p.tables e below (T0.setTop (mkF m 11 #[.val (.ref a), .val (.long q), .second, .val (.int i), .val (.long r), .second] [])) target := by
  intro k
  induction k with
  | zero =>
    intro i r T0 hk X0 e0
    have hc : r < mw.toInt64 := by
      rw [Int64.lt_iff_toInt_lt, c_i2l]
      have : (2 ^ 0 : Nat) = 1 := rfl
      omega
    obtain ⟨T1, X1, e1, st1⟩ := tn_leave a q i r mw X0 hx hZ hw hby hml hown e0 F hc
    refine ⟨T1, r, X1, e1, fun target h => st1 target ?_⟩
    have e2 : i + own_sc mw 0 r = i := by simp [own_sc]
    rw [e2] at h; exact h
  | succ k ih =>
    intro i r T0 hk X0 e0
    by_cases hc : r < mw.toInt64
    · obtain ⟨T1, X1, e1, st1⟩ := tn_leave a q i r mw X0 hx hZ hw hby hml hown e0 F hc
      refine ⟨T1, r, X1, e1, fun target h => st1 target ?_⟩
      have e2 : i + own_sc mw (k + 1) r = i := by simp [own_sc, hc]
      rw [e2] at h; exact h
    · have hz := own_mz h1
      obtain ⟨T1, X1, e1, st1⟩ := tn_turn a q i r mw X0 hx hZ hw hby hml hown e0 F hc hz
      obtain ⟨T', r', X', e', st⟩ := ih (i + 1) (r / mw.toInt64) T1 (own_half h1 hc hk) X1 e1
      refine ⟨T', r', X', e', fun target h => st1 target (st target ?_)⟩
      have e2 : i + 1 + own_sc mw k (r / mw.toInt64) = i + own_sc mw (k + 1) r := by simp [own_sc, hc, Int32.add_assoc]
      rw [e2]; exact h

theorem d4_0 : decode prog_57_method_3_code 0 = .ok (.iconst 0, 1) := by decide +kernel
theorem d4_1 : decode prog_57_method_3_code 1 = .ok (.istore_n 3, 1) := by decide +kernel
theorem d4_2 : decode prog_57_method_3_code 2 = .ok (.lload_n 1, 1) := by decide +kernel
theorem d4_3 : decode prog_57_method_3_code 3 = .ok (.aload_n 0, 1) := by decide +kernel
theorem d4_4 : decode prog_57_method_3_code 4 = .ok (.getfield 13, 3) := by decide +kernel
theorem d4_7 : decode prog_57_method_3_code 7 = .ok (.i2l, 1) := by decide +kernel
theorem d4_8 : decode prog_57_method_3_code 8 = .ok (.ldiv, 1) := by decide +kernel
theorem d4_9 : decode prog_57_method_3_code 9 = .ok (.lstore 4, 2) := by decide +kernel
theorem d4_38 : decode prog_57_method_3_code 38 = .ok (.iload_n 3, 1) := by decide +kernel
theorem d4_39 : decode prog_57_method_3_code 39 = .ok (.ireturn, 1) := by decide +kernel
theorem ef_rm_sc (m : MethodId) (x0 : Addr) (x1 : Int64) : entryFrame m #[(.ref x0), (.long x1)] 6 = mkF m 0 #[.val (.ref x0), .val (.long x1), .second, .unset, .unset, .unset] [] := by first | (simp [entryFrame, mkF, argsToLocals, Value.category]; done) | rfl
def Q_rm_sc (Z : State) (a1 : Addr) (q2 : Int64) (mw : Int32) (sa : Int32) (h0 : Heap) (n0 : Nat) (v : Option Value) (h : Heap) (L : List Loc) : Prop := v = some (.int (own_sc mw 63 (q2 / (sa.toInt64)))) ∧ Fr n0 L ∧ h = h0
set_option maxRecDepth 65536 in
set_option maxHeartbeats 40000000 in
theorem rm_sc (l : Launch) (Z : State) (a0 : Array Value) (hw : ∀ d ∈ tables_1, d.before a0 Z = true) (ws : List Jvm.Cond) (a1 : Addr) (q2 : Int64) (mw : Int32) (sa : Int32) (h0 : Heap) (n0 : Nat) (Z0 : n0 ≤ h0.size) (pr0 : Fld Z h0 a1 "com/example/allotd/allotd/store/CountedRequests$Compaction" "mergeWidth" "I" (.int mw)) (pr1 : Fld Z h0 a1 "com/example/allotd/allotd/store/CountedRequests$Compaction" "sealAt" "I" (.int sa)) (h1_ : 2 ≤ mw.toInt) (h2_ : ¬ ((sa.toInt64) = (0 : Int64))) :
    MetFree l (⟨"com/example/allotd/allotd/store/CountedRequests$Compaction", "sizeClass", "(J)I"⟩ : MethodName) (head1 (Jvm.Cond.code (⟨"com/example/allotd/allotd/store/CountedRequests$Compaction", "sizeClass", "(J)I"⟩ : MethodName) prog_57_method_3_code 6 (some .int) :: ws) ({ frames := 0, cells := 0, slots := 0, locals := 0 } : Room)) (fun a U => a = #[(.ref a1), (.long q2)] ∧ Z.Warmed39 U.vm ∧ U.heap = h0) (fun _ _ _ _ _ => True) (fun _ U o U' => ∃ v L, o = .returned v ∧ Q_rm_sc Z a1 q2 mw sa h0 n0 v U'.heap L ∧ FrameEnd U o U' L ({ frames := 0, cells := 0, slots := 0, locals := 0 } : Room).cells ({ frames := 0, cells := 0, slots := 0, locals := 0 } : Room).slots) := by
  refine MetFree.of_bodySF (plainFor_of_name pn_com_example_allotd_allotd_store_CountedRequests_Compaction) hisR ?_
  intro p e s m args below meth c s₁ Bd hml0 hP hK
  obtain ⟨rfl, hZ, hh⟩ := hP
  have hx := Bd.exec
  have hby := Bd.bytes
  have hml : c.maxLocals = 6 := hml0
  have hown : s.vm.findClass "com/example/allotd/allotd/store/CountedRequests$Compaction" = some m.cls := findClass_of_methodNamed Bd.named
  have hnm := (name_of_methodNamed Bd.named Bd.method).1
  have X0 : Stand p l e ({ frames := 0, cells := 0, slots := 0, locals := 0 } : Room) s m #[(.ref a1), (.long q2)] below meth c s₁ [] 0 0 := Stand.of_body Bd
  have e0 : s₁.heap = h0 := by rw [← hh, Bd.state]; rfl
  have N0 := Fr.nil n0
  have pre0 : ∀ t, Steps p.tables e below (s₁.setTop (mkF m 0 #[.val (.ref a1), .val (.long q2), .second, .unset, .unset, .unset] [])) t → Steps p.tables e below (s₁.setTop (entryFrame m #[(.ref a1), (.long q2)] 6)) t := fun t k => castTop (ef_rm_sc m a1 q2) k
  obtain ⟨T1, X1, e1, st1⟩ := getF X0 hx hZ hown (host := "") (Or.inl (hw _ (List.mem_of_getElem? (i := 17) rfl))) Via.refl e0 pr1 (g := (mkF m 4 #[.val (.ref a1), .val (.long q2), .second, .val (.int (0 : Int32)), .unset, .unset] [(.ref a1), (.long q2)])) rfl rfl (hb hby d4_4)
  obtain ⟨T2, r', X2, e2, st2⟩ := loopC a1 mw q2 hx hZ hw hby hml hown pr0 h1_ 63 (0 : Int32) (q2 / (sa.toInt64)) _ (own_63 _) X1 e1
  obtain ⟨fs, hr, hrun, hended, hW, hsame⟩ := X2.leave (v := some (.int (own_sc mw 63 (q2 / (sa.toInt64))))) (fun h => by rw [Bd.returns] at h; cases h)
  refine ⟨_, _, pre0 _ ?_, hrun, hended, _, _, rfl, ?_, ⟨_, rfl⟩, hW, hsame.mono (by decide) (by decide)⟩
  · show Steps p.tables e below (s₁.setTop (mkF m 0 #[.val (.ref a1), .val (.long q2), .second, .unset, .unset, .unset] [])) _
    refine XS.iconst X0.here hx rfl (hb hby d4_0) ?_
    show Steps p.tables e below (s₁.setTop (mkF m 1 #[.val (.ref a1), .val (.long q2), .second, .unset, .unset, .unset] [(.int (0 : Int32))])) _
    refine XS.istoreN X0.here hx rfl (hb hby d4_1) rfl (l' := #[.val (.ref a1), .val (.long q2), .second, .val (.int (0 : Int32)), .unset, .unset]) rfl ?_
    show Steps p.tables e below (s₁.setTop (mkF m 2 #[.val (.ref a1), .val (.long q2), .second, .val (.int (0 : Int32)), .unset, .unset] [])) _
    refine XS.lloadN X0.here hx rfl (hb hby d4_2) rfl ?_
    show Steps p.tables e below (s₁.setTop (mkF m 3 #[.val (.ref a1), .val (.long q2), .second, .val (.int (0 : Int32)), .unset, .unset] [(.long q2)])) _
    refine XS.aloadN X0.here hx rfl (hb hby d4_3) rfl rfl ?_
    show Steps p.tables e below (s₁.setTop (mkF m 4 #[.val (.ref a1), .val (.long q2), .second, .val (.int (0 : Int32)), .unset, .unset] [(.ref a1), (.long q2)])) _
    refine st1 _ ?_
    show Steps p.tables e below (T1.setTop (mkF m 7 #[.val (.ref a1), .val (.long q2), .second, .val (.int (0 : Int32)), .unset, .unset] [(.int sa), (.long q2)])) _
    refine XS.i2l X1.here hx rfl (hb hby d4_7) rfl ?_
    show Steps p.tables e below (T1.setTop (mkF m 8 #[.val (.ref a1), .val (.long q2), .second, .val (.int (0 : Int32)), .unset, .unset] [(.long (sa.toInt64)), (.long q2)])) _
    refine XS.ldiv X1.here hx rfl (hb hby d4_8) rfl h2_ ?_
    show Steps p.tables e below (T1.setTop (mkF m 9 #[.val (.ref a1), .val (.long q2), .second, .val (.int (0 : Int32)), .unset, .unset] [(.long (q2 / (sa.toInt64)))])) _
    refine XS.lstore X1.here hx rfl (hb hby d4_9) rfl (l' := #[.val (.ref a1), .val (.long q2), .second, .val (.int (0 : Int32)), .val (.long (q2 / (sa.toInt64))), .second]) rfl ?_
    show Steps p.tables e below (T1.setTop (mkF m 11 #[.val (.ref a1), .val (.long q2), .second, .val (.int (0 : Int32)), .val (.long (q2 / (sa.toInt64))), .second] [])) _
    refine st2 _ ?_
    rw [Int32.zero_add]
    show Steps p.tables e below (T2.setTop (mkF m 38 #[.val (.ref a1), .val (.long q2), .second, .val (.int (own_sc mw 63 (q2 / (sa.toInt64)))), .val (.long r'), .second] [])) _
    refine XS.iloadN X2.here hx rfl (hb hby d4_38) rfl ?_
    show Steps p.tables e below (T2.setTop (mkF m 39 #[.val (.ref a1), .val (.long q2), .second, .val (.int (own_sc mw 63 (q2 / (sa.toInt64)))), .val (.long r'), .second] [(.int (own_sc mw 63 (q2 / (sa.toInt64))))])) _
    exact retI X2 hx Bd.returns (hb hby d4_39) hr
  · show Q_rm_sc Z a1 q2 mw sa h0 n0 _ T2.heap _
    rw [e2]
    exact ⟨rfl, N0, rfl⟩
set_option maxRecDepth 65536 in
set_option maxHeartbeats 40000000 in
theorem tn_A1 {p : Program} {l : Launch} {e : Env} {R : Room} {s : State} {m : MethodId} {args : Array Value} {below : List Frame} {meth : Method} {c : Code} {T0 : State} {locs : List Loc} {cells slots : Nat} {Z : State} {a0 : Array Value} {h0 : Heap} (p1 : Int32) (p2 : Int32) (q3 : Int64) (p4 : Int32) (p5 : Int32)
    (X0 : Stand p l e R s m args below meth c T0 locs cells slots) (hx : p.tables.exec = Jvm.exec) (hZ : Z.Warmed39 s.vm) (hw : ∀ d ∈ tables_1, d.before a0 Z = true) (hby : c.code = code) (hml : c.maxLocals = 15) (hown : s.vm.findClass "com/example/allotd/allotd/store/CompactionSizeClassPinLaw" = some m.cls) (e0 : T0.heap = h0) (hz : (p1 &&& (2147483647 : Int32)) = (0 : Int32)) :
    ∃ (T' : State), Stand p l e R s m args below meth c T' locs cells slots ∧ T'.heap = h0 ∧ ∀ target, Steps p.tables e below (T'.setTop (mkF m 14 #[.val (.int p1), .val (.int p2), .val (.long q3), .second, .val (.int p4), .val (.int p5), .val (.int (1 : Int32)), .unset, .unset, .unset, .unset, .unset, .unset, .unset, .unset] [])) target → Steps p.tables e below (T0.setTop (mkF m 0 #[.val (.int p1), .val (.int p2), .val (.long q3), .second, .val (.int p4), .val (.int p5), .unset, .unset, .unset, .unset, .unset, .unset, .unset, .unset, .unset] [])) target := by
  refine ⟨T0, X0, e0, fun target kt => ?_⟩
  show Steps p.tables e below (T0.setTop (mkF m 0 #[.val (.int p1), .val (.int p2), .val (.long q3), .second, .val (.int p4), .val (.int p5), .unset, .unset, .unset, .unset, .unset, .unset, .unset, .unset, .unset] [])) _
  refine XS.iloadN X0.here hx rfl (hb hby at_0) rfl ?_
  show Steps p.tables e below (T0.setTop (mkF m 1 #[.val (.int p1), .val (.int p2), .val (.long q3), .second, .val (.int p4), .val (.int p5), .unset, .unset, .unset, .unset, .unset, .unset, .unset, .unset, .unset] [(.int p1)])) _
  refine X0.ldcInt hx hown (mvT hZ (hw _ (List.mem_of_getElem? (i := 0) rfl))) (g := (mkF m 1 #[.val (.int p1), .val (.int p2), .val (.long q3), .second, .val (.int p4), .val (.int p5), .unset, .unset, .unset, .unset, .unset, .unset, .unset, .unset, .unset] [(.int p1)])) rfl (hb hby at_1) _ ?_
  show Steps p.tables e below (T0.setTop (mkF m 3 #[.val (.int p1), .val (.int p2), .val (.long q3), .second, .val (.int p4), .val (.int p5), .unset, .unset, .unset, .unset, .unset, .unset, .unset, .unset, .unset] [(.int (2147483647 : Int32)), (.int p1)])) _
  refine XS.iand X0.here hx rfl (hb hby at_3) rfl ?_
  show Steps p.tables e below (T0.setTop (mkF m 4 #[.val (.int p1), .val (.int p2), .val (.long q3), .second, .val (.int p4), .val (.int p5), .unset, .unset, .unset, .unset, .unset, .unset, .unset, .unset, .unset] [(.int (p1 &&& (2147483647 : Int32)))])) _
  refine XS.istore X0.here hx rfl (hb hby at_4) rfl (l' := #[.val (.int p1), .val (.int p2), .val (.long q3), .second, .val (.int p4), .val (.int p5), .val (.int (p1 &&& (2147483647 : Int32))), .unset, .unset, .unset, .unset, .unset, .unset, .unset, .unset]) rfl ?_
  show Steps p.tables e below (T0.setTop (mkF m 6 #[.val (.int p1), .val (.int p2), .val (.long q3), .second, .val (.int p4), .val (.int p5), .val (.int (p1 &&& (2147483647 : Int32))), .unset, .unset, .unset, .unset, .unset, .unset, .unset, .unset] [])) _
  refine XS.iload X0.here hx rfl (hb hby at_6) rfl ?_
  show Steps p.tables e below (T0.setTop (mkF m 8 #[.val (.int p1), .val (.int p2), .val (.long q3), .second, .val (.int p4), .val (.int p5), .val (.int (p1 &&& (2147483647 : Int32))), .unset, .unset, .unset, .unset, .unset, .unset, .unset, .unset] [(.int (p1 &&& (2147483647 : Int32)))])) _
  refine XS.ifNo X0.here hx rfl (hb hby at_8) rfl ((if0 _ _).trans (teq hz).2) ?_
  show Steps p.tables e below (T0.setTop (mkF m 11 #[.val (.int p1), .val (.int p2), .val (.long q3), .second, .val (.int p4), .val (.int p5), .val (.int (p1 &&& (2147483647 : Int32))), .unset, .unset, .unset, .unset, .unset, .unset, .unset, .unset] [])) _
  refine XS.iconst X0.here hx rfl (hb hby at_11) ?_
  show Steps p.tables e below (T0.setTop (mkF m 12 #[.val (.int p1), .val (.int p2), .val (.long q3), .second, .val (.int p4), .val (.int p5), .val (.int (p1 &&& (2147483647 : Int32))), .unset, .unset, .unset, .unset, .unset, .unset, .unset, .unset] [(.int (1 : Int32))])) _
  refine XS.istore X0.here hx rfl (hb hby at_12) rfl (l' := #[.val (.int p1), .val (.int p2), .val (.long q3), .second, .val (.int p4), .val (.int p5), .val (.int (1 : Int32)), .unset, .unset, .unset, .unset, .unset, .unset, .unset, .unset]) rfl ?_
  exact kt
set_option maxRecDepth 65536 in
set_option maxHeartbeats 40000000 in
theorem tn_A2 {p : Program} {l : Launch} {e : Env} {R : Room} {s : State} {m : MethodId} {args : Array Value} {below : List Frame} {meth : Method} {c : Code} {T0 : State} {locs : List Loc} {cells slots : Nat} {Z : State} {a0 : Array Value} {h0 : Heap} (p1 : Int32) (p2 : Int32) (q3 : Int64) (p4 : Int32) (p5 : Int32)
    (X0 : Stand p l e R s m args below meth c T0 locs cells slots) (hx : p.tables.exec = Jvm.exec) (hZ : Z.Warmed39 s.vm) (hw : ∀ d ∈ tables_1, d.before a0 Z = true) (hby : c.code = code) (hml : c.maxLocals = 15) (hown : s.vm.findClass "com/example/allotd/allotd/store/CompactionSizeClassPinLaw" = some m.cls) (e0 : T0.heap = h0) (hz : ¬ ((p1 &&& (2147483647 : Int32)) = (0 : Int32))) :
    ∃ (T' : State), Stand p l e R s m args below meth c T' locs cells slots ∧ T'.heap = h0 ∧ ∀ target, Steps p.tables e below (T'.setTop (mkF m 14 #[.val (.int p1), .val (.int p2), .val (.long q3), .second, .val (.int p4), .val (.int p5), .val (.int (p1 &&& (2147483647 : Int32))), .unset, .unset, .unset, .unset, .unset, .unset, .unset, .unset] [])) target → Steps p.tables e below (T0.setTop (mkF m 0 #[.val (.int p1), .val (.int p2), .val (.long q3), .second, .val (.int p4), .val (.int p5), .unset, .unset, .unset, .unset, .unset, .unset, .unset, .unset, .unset] [])) target := by
  refine ⟨T0, X0, e0, fun target kt => ?_⟩
  show Steps p.tables e below (T0.setTop (mkF m 0 #[.val (.int p1), .val (.int p2), .val (.long q3), .second, .val (.int p4), .val (.int p5), .unset, .unset, .unset, .unset, .unset, .unset, .unset, .unset, .unset] [])) _
  refine XS.iloadN X0.here hx rfl (hb hby at_0) rfl ?_
  show Steps p.tables e below (T0.setTop (mkF m 1 #[.val (.int p1), .val (.int p2), .val (.long q3), .second, .val (.int p4), .val (.int p5), .unset, .unset, .unset, .unset, .unset, .unset, .unset, .unset, .unset] [(.int p1)])) _
  refine X0.ldcInt hx hown (mvT hZ (hw _ (List.mem_of_getElem? (i := 0) rfl))) (g := (mkF m 1 #[.val (.int p1), .val (.int p2), .val (.long q3), .second, .val (.int p4), .val (.int p5), .unset, .unset, .unset, .unset, .unset, .unset, .unset, .unset, .unset] [(.int p1)])) rfl (hb hby at_1) _ ?_
  show Steps p.tables e below (T0.setTop (mkF m 3 #[.val (.int p1), .val (.int p2), .val (.long q3), .second, .val (.int p4), .val (.int p5), .unset, .unset, .unset, .unset, .unset, .unset, .unset, .unset, .unset] [(.int (2147483647 : Int32)), (.int p1)])) _
  refine XS.iand X0.here hx rfl (hb hby at_3) rfl ?_
  show Steps p.tables e below (T0.setTop (mkF m 4 #[.val (.int p1), .val (.int p2), .val (.long q3), .second, .val (.int p4), .val (.int p5), .unset, .unset, .unset, .unset, .unset, .unset, .unset, .unset, .unset] [(.int (p1 &&& (2147483647 : Int32)))])) _
  refine XS.istore X0.here hx rfl (hb hby at_4) rfl (l' := #[.val (.int p1), .val (.int p2), .val (.long q3), .second, .val (.int p4), .val (.int p5), .val (.int (p1 &&& (2147483647 : Int32))), .unset, .unset, .unset, .unset, .unset, .unset, .unset, .unset]) rfl ?_
  show Steps p.tables e below (T0.setTop (mkF m 6 #[.val (.int p1), .val (.int p2), .val (.long q3), .second, .val (.int p4), .val (.int p5), .val (.int (p1 &&& (2147483647 : Int32))), .unset, .unset, .unset, .unset, .unset, .unset, .unset, .unset] [])) _
  refine XS.iload X0.here hx rfl (hb hby at_6) rfl ?_
  show Steps p.tables e below (T0.setTop (mkF m 8 #[.val (.int p1), .val (.int p2), .val (.long q3), .second, .val (.int p4), .val (.int p5), .val (.int (p1 &&& (2147483647 : Int32))), .unset, .unset, .unset, .unset, .unset, .unset, .unset, .unset] [(.int (p1 &&& (2147483647 : Int32)))])) _
  refine XS.ifYes X0.here hx rfl (pc0 := 8) (pc' := 14) rfl (hb hby at_8) rfl ((if0 _ _).trans (feq hz).2) (by decide) (by decide) ?_
  exact kt
set_option maxRecDepth 65536 in
set_option maxHeartbeats 40000000 in
theorem tn_B1 {p : Program} {l : Launch} {e : Env} {R : Room} {s : State} {m : MethodId} {args : Array Value} {below : List Frame} {meth : Method} {c : Code} {T0 : State} {locs : List Loc} {cells slots : Nat} {Z : State} {a0 : Array Value} {h0 : Heap} (p1 : Int32) (p2 : Int32) (q3 : Int64) (p4 : Int32) (p5 : Int32) (s6 : Int32)
    (X0 : Stand p l e R s m args below meth c T0 locs cells slots) (hx : p.tables.exec = Jvm.exec) (hZ : Z.Warmed39 s.vm) (hw : ∀ d ∈ tables_1, d.before a0 Z = true) (hby : c.code = code) (hml : c.maxLocals = 15) (hown : s.vm.findClass "com/example/allotd/allotd/store/CompactionSizeClassPinLaw" = some m.cls) (e0 : T0.heap = h0) (hz : (p2 &&& (2147483647 : Int32)) < (2 : Int32)) :
    ∃ (T' : State), Stand p l e R s m args below meth c T' locs cells slots ∧ T'.heap = h0 ∧ ∀ target, Steps p.tables e below (T'.setTop (mkF m 29 #[.val (.int p1), .val (.int p2), .val (.long q3), .second, .val (.int p4), .val (.int p5), .val (.int s6), .val (.int (2 : Int32)), .unset, .unset, .unset, .unset, .unset, .unset, .unset] [])) target → Steps p.tables e below (T0.setTop (mkF m 14 #[.val (.int p1), .val (.int p2), .val (.long q3), .second, .val (.int p4), .val (.int p5), .val (.int s6), .unset, .unset, .unset, .unset, .unset, .unset, .unset, .unset] [])) target := by
  refine ⟨T0, X0, e0, fun target kt => ?_⟩
  show Steps p.tables e below (T0.setTop (mkF m 14 #[.val (.int p1), .val (.int p2), .val (.long q3), .second, .val (.int p4), .val (.int p5), .val (.int s6), .unset, .unset, .unset, .unset, .unset, .unset, .unset, .unset] [])) _
  refine XS.iloadN X0.here hx rfl (hb hby at_14) rfl ?_
  show Steps p.tables e below (T0.setTop (mkF m 15 #[.val (.int p1), .val (.int p2), .val (.long q3), .second, .val (.int p4), .val (.int p5), .val (.int s6), .unset, .unset, .unset, .unset, .unset, .unset, .unset, .unset] [(.int p2)])) _
  refine X0.ldcInt hx hown (mvT hZ (hw _ (List.mem_of_getElem? (i := 0) rfl))) (g := (mkF m 15 #[.val (.int p1), .val (.int p2), .val (.long q3), .second, .val (.int p4), .val (.int p5), .val (.int s6), .unset, .unset, .unset, .unset, .unset, .unset, .unset, .unset] [(.int p2)])) rfl (hb hby at_15) _ ?_
  show Steps p.tables e below (T0.setTop (mkF m 17 #[.val (.int p1), .val (.int p2), .val (.long q3), .second, .val (.int p4), .val (.int p5), .val (.int s6), .unset, .unset, .unset, .unset, .unset, .unset, .unset, .unset] [(.int (2147483647 : Int32)), (.int p2)])) _
  refine XS.iand X0.here hx rfl (hb hby at_17) rfl ?_
  show Steps p.tables e below (T0.setTop (mkF m 18 #[.val (.int p1), .val (.int p2), .val (.long q3), .second, .val (.int p4), .val (.int p5), .val (.int s6), .unset, .unset, .unset, .unset, .unset, .unset, .unset, .unset] [(.int (p2 &&& (2147483647 : Int32)))])) _
  refine XS.istore X0.here hx rfl (hb hby at_18) rfl (l' := #[.val (.int p1), .val (.int p2), .val (.long q3), .second, .val (.int p4), .val (.int p5), .val (.int s6), .val (.int (p2 &&& (2147483647 : Int32))), .unset, .unset, .unset, .unset, .unset, .unset, .unset]) rfl ?_
  show Steps p.tables e below (T0.setTop (mkF m 20 #[.val (.int p1), .val (.int p2), .val (.long q3), .second, .val (.int p4), .val (.int p5), .val (.int s6), .val (.int (p2 &&& (2147483647 : Int32))), .unset, .unset, .unset, .unset, .unset, .unset, .unset] [])) _
  refine XS.iload X0.here hx rfl (hb hby at_20) rfl ?_
  show Steps p.tables e below (T0.setTop (mkF m 22 #[.val (.int p1), .val (.int p2), .val (.long q3), .second, .val (.int p4), .val (.int p5), .val (.int s6), .val (.int (p2 &&& (2147483647 : Int32))), .unset, .unset, .unset, .unset, .unset, .unset, .unset] [(.int (p2 &&& (2147483647 : Int32)))])) _
  refine XS.iconst X0.here hx rfl (hb hby at_22) ?_
  show Steps p.tables e below (T0.setTop (mkF m 23 #[.val (.int p1), .val (.int p2), .val (.long q3), .second, .val (.int p4), .val (.int p5), .val (.int s6), .val (.int (p2 &&& (2147483647 : Int32))), .unset, .unset, .unset, .unset, .unset, .unset, .unset] [(.int (2 : Int32)), (.int (p2 &&& (2147483647 : Int32)))])) _
  refine XS.icmpNo X0.here hx rfl (hb hby at_23) rfl (tlt hz).2.1 ?_
  show Steps p.tables e below (T0.setTop (mkF m 26 #[.val (.int p1), .val (.int p2), .val (.long q3), .second, .val (.int p4), .val (.int p5), .val (.int s6), .val (.int (p2 &&& (2147483647 : Int32))), .unset, .unset, .unset, .unset, .unset, .unset, .unset] [])) _
  refine XS.iconst X0.here hx rfl (hb hby at_26) ?_
  show Steps p.tables e below (T0.setTop (mkF m 27 #[.val (.int p1), .val (.int p2), .val (.long q3), .second, .val (.int p4), .val (.int p5), .val (.int s6), .val (.int (p2 &&& (2147483647 : Int32))), .unset, .unset, .unset, .unset, .unset, .unset, .unset] [(.int (2 : Int32))])) _
  refine XS.istore X0.here hx rfl (hb hby at_27) rfl (l' := #[.val (.int p1), .val (.int p2), .val (.long q3), .second, .val (.int p4), .val (.int p5), .val (.int s6), .val (.int (2 : Int32)), .unset, .unset, .unset, .unset, .unset, .unset, .unset]) rfl ?_
  exact kt
set_option maxRecDepth 65536 in
set_option maxHeartbeats 40000000 in
theorem tn_B2 {p : Program} {l : Launch} {e : Env} {R : Room} {s : State} {m : MethodId} {args : Array Value} {below : List Frame} {meth : Method} {c : Code} {T0 : State} {locs : List Loc} {cells slots : Nat} {Z : State} {a0 : Array Value} {h0 : Heap} (p1 : Int32) (p2 : Int32) (q3 : Int64) (p4 : Int32) (p5 : Int32) (s6 : Int32)
    (X0 : Stand p l e R s m args below meth c T0 locs cells slots) (hx : p.tables.exec = Jvm.exec) (hZ : Z.Warmed39 s.vm) (hw : ∀ d ∈ tables_1, d.before a0 Z = true) (hby : c.code = code) (hml : c.maxLocals = 15) (hown : s.vm.findClass "com/example/allotd/allotd/store/CompactionSizeClassPinLaw" = some m.cls) (e0 : T0.heap = h0) (hz : ¬ ((p2 &&& (2147483647 : Int32)) < (2 : Int32))) :
    ∃ (T' : State), Stand p l e R s m args below meth c T' locs cells slots ∧ T'.heap = h0 ∧ ∀ target, Steps p.tables e below (T'.setTop (mkF m 29 #[.val (.int p1), .val (.int p2), .val (.long q3), .second, .val (.int p4), .val (.int p5), .val (.int s6), .val (.int (p2 &&& (2147483647 : Int32))), .unset, .unset, .unset, .unset, .unset, .unset, .unset] [])) target → Steps p.tables e below (T0.setTop (mkF m 14 #[.val (.int p1), .val (.int p2), .val (.long q3), .second, .val (.int p4), .val (.int p5), .val (.int s6), .unset, .unset, .unset, .unset, .unset, .unset, .unset, .unset] [])) target := by
  refine ⟨T0, X0, e0, fun target kt => ?_⟩
  show Steps p.tables e below (T0.setTop (mkF m 14 #[.val (.int p1), .val (.int p2), .val (.long q3), .second, .val (.int p4), .val (.int p5), .val (.int s6), .unset, .unset, .unset, .unset, .unset, .unset, .unset, .unset] [])) _
  refine XS.iloadN X0.here hx rfl (hb hby at_14) rfl ?_
  show Steps p.tables e below (T0.setTop (mkF m 15 #[.val (.int p1), .val (.int p2), .val (.long q3), .second, .val (.int p4), .val (.int p5), .val (.int s6), .unset, .unset, .unset, .unset, .unset, .unset, .unset, .unset] [(.int p2)])) _
  refine X0.ldcInt hx hown (mvT hZ (hw _ (List.mem_of_getElem? (i := 0) rfl))) (g := (mkF m 15 #[.val (.int p1), .val (.int p2), .val (.long q3), .second, .val (.int p4), .val (.int p5), .val (.int s6), .unset, .unset, .unset, .unset, .unset, .unset, .unset, .unset] [(.int p2)])) rfl (hb hby at_15) _ ?_
  show Steps p.tables e below (T0.setTop (mkF m 17 #[.val (.int p1), .val (.int p2), .val (.long q3), .second, .val (.int p4), .val (.int p5), .val (.int s6), .unset, .unset, .unset, .unset, .unset, .unset, .unset, .unset] [(.int (2147483647 : Int32)), (.int p2)])) _
  refine XS.iand X0.here hx rfl (hb hby at_17) rfl ?_
  show Steps p.tables e below (T0.setTop (mkF m 18 #[.val (.int p1), .val (.int p2), .val (.long q3), .second, .val (.int p4), .val (.int p5), .val (.int s6), .unset, .unset, .unset, .unset, .unset, .unset, .unset, .unset] [(.int (p2 &&& (2147483647 : Int32)))])) _
  refine XS.istore X0.here hx rfl (hb hby at_18) rfl (l' := #[.val (.int p1), .val (.int p2), .val (.long q3), .second, .val (.int p4), .val (.int p5), .val (.int s6), .val (.int (p2 &&& (2147483647 : Int32))), .unset, .unset, .unset, .unset, .unset, .unset, .unset]) rfl ?_
  show Steps p.tables e below (T0.setTop (mkF m 20 #[.val (.int p1), .val (.int p2), .val (.long q3), .second, .val (.int p4), .val (.int p5), .val (.int s6), .val (.int (p2 &&& (2147483647 : Int32))), .unset, .unset, .unset, .unset, .unset, .unset, .unset] [])) _
  refine XS.iload X0.here hx rfl (hb hby at_20) rfl ?_
  show Steps p.tables e below (T0.setTop (mkF m 22 #[.val (.int p1), .val (.int p2), .val (.long q3), .second, .val (.int p4), .val (.int p5), .val (.int s6), .val (.int (p2 &&& (2147483647 : Int32))), .unset, .unset, .unset, .unset, .unset, .unset, .unset] [(.int (p2 &&& (2147483647 : Int32)))])) _
  refine XS.iconst X0.here hx rfl (hb hby at_22) ?_
  show Steps p.tables e below (T0.setTop (mkF m 23 #[.val (.int p1), .val (.int p2), .val (.long q3), .second, .val (.int p4), .val (.int p5), .val (.int s6), .val (.int (p2 &&& (2147483647 : Int32))), .unset, .unset, .unset, .unset, .unset, .unset, .unset] [(.int (2 : Int32)), (.int (p2 &&& (2147483647 : Int32)))])) _
  refine XS.icmpYes X0.here hx rfl (pc0 := 23) (pc' := 29) rfl (hb hby at_23) rfl (flt hz).2.1 (by decide) (by decide) ?_
  exact kt
set_option maxRecDepth 65536 in
set_option maxHeartbeats 40000000 in
theorem tn_C1 {p : Program} {l : Launch} {e : Env} {R : Room} {s : State} {m : MethodId} {args : Array Value} {below : List Frame} {meth : Method} {c : Code} {T0 : State} {locs : List Loc} {cells slots : Nat} {Z : State} {a0 : Array Value} {h0 : Heap} (p1 : Int32) (p2 : Int32) (q3 : Int64) (p4 : Int32) (p5 : Int32) (s6 : Int32) (m7 : Int32)
    (X0 : Stand p l e R s m args below meth c T0 locs cells slots) (hx : p.tables.exec = Jvm.exec) (hZ : Z.Warmed39 s.vm) (hw : ∀ d ∈ tables_1, d.before a0 Z = true) (hby : c.code = code) (hml : c.maxLocals = 15) (hown : s.vm.findClass "com/example/allotd/allotd/store/CompactionSizeClassPinLaw" = some m.cls) (e0 : T0.heap = h0) (hz : (p4 &&& (3 : Int32)) = (1 : Int32)) :
    ∃ (T' : State), Stand p l e R s m args below meth c T' locs cells slots ∧ T'.heap = h0 ∧ ∀ target, Steps p.tables e below (T'.setTop (mkF m 73 #[.val (.int p1), .val (.int p2), .val (.long q3), .second, .val (.int p4), .val (.int p5), .val (.int s6), .val (.int m7), .val (.long ((s6.toInt64) * (m7.toInt64))), .second, .val (.int (p4 &&& (3 : Int32))), .unset, .unset, .unset, .unset] [])) target → Steps p.tables e below (T0.setTop (mkF m 29 #[.val (.int p1), .val (.int p2), .val (.long q3), .second, .val (.int p4), .val (.int p5), .val (.int s6), .val (.int m7), .unset, .unset, .unset, .unset, .unset, .unset, .unset] [])) target := by
  refine ⟨T0, X0, e0, fun target kt => ?_⟩
  show Steps p.tables e below (T0.setTop (mkF m 29 #[.val (.int p1), .val (.int p2), .val (.long q3), .second, .val (.int p4), .val (.int p5), .val (.int s6), .val (.int m7), .unset, .unset, .unset, .unset, .unset, .unset, .unset] [])) _
  refine XS.lloadN X0.here hx rfl (hb hby at_29) rfl ?_
  show Steps p.tables e below (T0.setTop (mkF m 30 #[.val (.int p1), .val (.int p2), .val (.long q3), .second, .val (.int p4), .val (.int p5), .val (.int s6), .val (.int m7), .unset, .unset, .unset, .unset, .unset, .unset, .unset] [(.long q3)])) _
  refine XS.lstore X0.here hx rfl (hb hby at_30) rfl (l' := #[.val (.int p1), .val (.int p2), .val (.long q3), .second, .val (.int p4), .val (.int p5), .val (.int s6), .val (.int m7), .val (.long q3), .second, .unset, .unset, .unset, .unset, .unset]) rfl ?_
  show Steps p.tables e below (T0.setTop (mkF m 32 #[.val (.int p1), .val (.int p2), .val (.long q3), .second, .val (.int p4), .val (.int p5), .val (.int s6), .val (.int m7), .val (.long q3), .second, .unset, .unset, .unset, .unset, .unset] [])) _
  refine XS.iload X0.here hx rfl (hb hby at_32) rfl ?_
  show Steps p.tables e below (T0.setTop (mkF m 34 #[.val (.int p1), .val (.int p2), .val (.long q3), .second, .val (.int p4), .val (.int p5), .val (.int s6), .val (.int m7), .val (.long q3), .second, .unset, .unset, .unset, .unset, .unset] [(.int p4)])) _
  refine XS.iconst X0.here hx rfl (hb hby at_34) ?_
  show Steps p.tables e below (T0.setTop (mkF m 35 #[.val (.int p1), .val (.int p2), .val (.long q3), .second, .val (.int p4), .val (.int p5), .val (.int s6), .val (.int m7), .val (.long q3), .second, .unset, .unset, .unset, .unset, .unset] [(.int (3 : Int32)), (.int p4)])) _
  refine XS.iand X0.here hx rfl (hb hby at_35) rfl ?_
  show Steps p.tables e below (T0.setTop (mkF m 36 #[.val (.int p1), .val (.int p2), .val (.long q3), .second, .val (.int p4), .val (.int p5), .val (.int s6), .val (.int m7), .val (.long q3), .second, .unset, .unset, .unset, .unset, .unset] [(.int (p4 &&& (3 : Int32)))])) _
  refine XS.istore X0.here hx rfl (hb hby at_36) rfl (l' := #[.val (.int p1), .val (.int p2), .val (.long q3), .second, .val (.int p4), .val (.int p5), .val (.int s6), .val (.int m7), .val (.long q3), .second, .val (.int (p4 &&& (3 : Int32))), .unset, .unset, .unset, .unset]) rfl ?_
  show Steps p.tables e below (T0.setTop (mkF m 38 #[.val (.int p1), .val (.int p2), .val (.long q3), .second, .val (.int p4), .val (.int p5), .val (.int s6), .val (.int m7), .val (.long q3), .second, .val (.int (p4 &&& (3 : Int32))), .unset, .unset, .unset, .unset] [])) _
  refine XS.iload X0.here hx rfl (hb hby at_38) rfl ?_
  show Steps p.tables e below (T0.setTop (mkF m 40 #[.val (.int p1), .val (.int p2), .val (.long q3), .second, .val (.int p4), .val (.int p5), .val (.int s6), .val (.int m7), .val (.long q3), .second, .val (.int (p4 &&& (3 : Int32))), .unset, .unset, .unset, .unset] [(.int (p4 &&& (3 : Int32)))])) _
  refine XS.iconst X0.here hx rfl (hb hby at_40) ?_
  show Steps p.tables e below (T0.setTop (mkF m 41 #[.val (.int p1), .val (.int p2), .val (.long q3), .second, .val (.int p4), .val (.int p5), .val (.int s6), .val (.int m7), .val (.long q3), .second, .val (.int (p4 &&& (3 : Int32))), .unset, .unset, .unset, .unset] [(.int (1 : Int32)), (.int (p4 &&& (3 : Int32)))])) _
  refine XS.icmpNo X0.here hx rfl (hb hby at_41) rfl (teq hz).2 ?_
  show Steps p.tables e below (T0.setTop (mkF m 44 #[.val (.int p1), .val (.int p2), .val (.long q3), .second, .val (.int p4), .val (.int p5), .val (.int s6), .val (.int m7), .val (.long q3), .second, .val (.int (p4 &&& (3 : Int32))), .unset, .unset, .unset, .unset] [])) _
  refine XS.iload X0.here hx rfl (hb hby at_44) rfl ?_
  show Steps p.tables e below (T0.setTop (mkF m 46 #[.val (.int p1), .val (.int p2), .val (.long q3), .second, .val (.int p4), .val (.int p5), .val (.int s6), .val (.int m7), .val (.long q3), .second, .val (.int (p4 &&& (3 : Int32))), .unset, .unset, .unset, .unset] [(.int s6)])) _
  refine XS.i2l X0.here hx rfl (hb hby at_46) rfl ?_
  show Steps p.tables e below (T0.setTop (mkF m 47 #[.val (.int p1), .val (.int p2), .val (.long q3), .second, .val (.int p4), .val (.int p5), .val (.int s6), .val (.int m7), .val (.long q3), .second, .val (.int (p4 &&& (3 : Int32))), .unset, .unset, .unset, .unset] [(.long (s6.toInt64))])) _
  refine XS.iload X0.here hx rfl (hb hby at_47) rfl ?_
  show Steps p.tables e below (T0.setTop (mkF m 49 #[.val (.int p1), .val (.int p2), .val (.long q3), .second, .val (.int p4), .val (.int p5), .val (.int s6), .val (.int m7), .val (.long q3), .second, .val (.int (p4 &&& (3 : Int32))), .unset, .unset, .unset, .unset] [(.int m7), (.long (s6.toInt64))])) _
  refine XS.i2l X0.here hx rfl (hb hby at_49) rfl ?_
  show Steps p.tables e below (T0.setTop (mkF m 50 #[.val (.int p1), .val (.int p2), .val (.long q3), .second, .val (.int p4), .val (.int p5), .val (.int s6), .val (.int m7), .val (.long q3), .second, .val (.int (p4 &&& (3 : Int32))), .unset, .unset, .unset, .unset] [(.long (m7.toInt64)), (.long (s6.toInt64))])) _
  refine XS.lmul X0.here hx rfl (hb hby at_50) rfl ?_
  show Steps p.tables e below (T0.setTop (mkF m 51 #[.val (.int p1), .val (.int p2), .val (.long q3), .second, .val (.int p4), .val (.int p5), .val (.int s6), .val (.int m7), .val (.long q3), .second, .val (.int (p4 &&& (3 : Int32))), .unset, .unset, .unset, .unset] [(.long ((s6.toInt64) * (m7.toInt64)))])) _
  refine XS.lstore X0.here hx rfl (hb hby at_51) rfl (l' := #[.val (.int p1), .val (.int p2), .val (.long q3), .second, .val (.int p4), .val (.int p5), .val (.int s6), .val (.int m7), .val (.long ((s6.toInt64) * (m7.toInt64))), .second, .val (.int (p4 &&& (3 : Int32))), .unset, .unset, .unset, .unset]) rfl ?_
  show Steps p.tables e below (T0.setTop (mkF m 53 #[.val (.int p1), .val (.int p2), .val (.long q3), .second, .val (.int p4), .val (.int p5), .val (.int s6), .val (.int m7), .val (.long ((s6.toInt64) * (m7.toInt64))), .second, .val (.int (p4 &&& (3 : Int32))), .unset, .unset, .unset, .unset] [])) _
  refine XS.goto X0.here hx rfl (pc0 := 53) (pc' := 73) rfl (hb hby at_53) (by decide) (by decide) ?_
  exact kt
set_option maxRecDepth 65536 in
set_option maxHeartbeats 40000000 in
theorem tn_C2 {p : Program} {l : Launch} {e : Env} {R : Room} {s : State} {m : MethodId} {args : Array Value} {below : List Frame} {meth : Method} {c : Code} {T0 : State} {locs : List Loc} {cells slots : Nat} {Z : State} {a0 : Array Value} {h0 : Heap} (p1 : Int32) (p2 : Int32) (q3 : Int64) (p4 : Int32) (p5 : Int32) (s6 : Int32) (m7 : Int32)
    (X0 : Stand p l e R s m args below meth c T0 locs cells slots) (hx : p.tables.exec = Jvm.exec) (hZ : Z.Warmed39 s.vm) (hw : ∀ d ∈ tables_1, d.before a0 Z = true) (hby : c.code = code) (hml : c.maxLocals = 15) (hown : s.vm.findClass "com/example/allotd/allotd/store/CompactionSizeClassPinLaw" = some m.cls) (e0 : T0.heap = h0) (hz : ¬ ((p4 &&& (3 : Int32)) = (1 : Int32))) (hy : (p4 &&& (3 : Int32)) = (2 : Int32)) :
    ∃ (T' : State), Stand p l e R s m args below meth c T' locs cells slots ∧ T'.heap = h0 ∧ ∀ target, Steps p.tables e below (T'.setTop (mkF m 73 #[.val (.int p1), .val (.int p2), .val (.long q3), .second, .val (.int p4), .val (.int p5), .val (.int s6), .val (.int m7), .val (.long (((s6.toInt64) * (m7.toInt64)) - (1 : Int64))), .second, .val (.int (p4 &&& (3 : Int32))), .unset, .unset, .unset, .unset] [])) target → Steps p.tables e below (T0.setTop (mkF m 29 #[.val (.int p1), .val (.int p2), .val (.long q3), .second, .val (.int p4), .val (.int p5), .val (.int s6), .val (.int m7), .unset, .unset, .unset, .unset, .unset, .unset, .unset] [])) target := by
  refine ⟨T0, X0, e0, fun target kt => ?_⟩
  show Steps p.tables e below (T0.setTop (mkF m 29 #[.val (.int p1), .val (.int p2), .val (.long q3), .second, .val (.int p4), .val (.int p5), .val (.int s6), .val (.int m7), .unset, .unset, .unset, .unset, .unset, .unset, .unset] [])) _
  refine XS.lloadN X0.here hx rfl (hb hby at_29) rfl ?_
  show Steps p.tables e below (T0.setTop (mkF m 30 #[.val (.int p1), .val (.int p2), .val (.long q3), .second, .val (.int p4), .val (.int p5), .val (.int s6), .val (.int m7), .unset, .unset, .unset, .unset, .unset, .unset, .unset] [(.long q3)])) _
  refine XS.lstore X0.here hx rfl (hb hby at_30) rfl (l' := #[.val (.int p1), .val (.int p2), .val (.long q3), .second, .val (.int p4), .val (.int p5), .val (.int s6), .val (.int m7), .val (.long q3), .second, .unset, .unset, .unset, .unset, .unset]) rfl ?_
  show Steps p.tables e below (T0.setTop (mkF m 32 #[.val (.int p1), .val (.int p2), .val (.long q3), .second, .val (.int p4), .val (.int p5), .val (.int s6), .val (.int m7), .val (.long q3), .second, .unset, .unset, .unset, .unset, .unset] [])) _
  refine XS.iload X0.here hx rfl (hb hby at_32) rfl ?_
  show Steps p.tables e below (T0.setTop (mkF m 34 #[.val (.int p1), .val (.int p2), .val (.long q3), .second, .val (.int p4), .val (.int p5), .val (.int s6), .val (.int m7), .val (.long q3), .second, .unset, .unset, .unset, .unset, .unset] [(.int p4)])) _
  refine XS.iconst X0.here hx rfl (hb hby at_34) ?_
  show Steps p.tables e below (T0.setTop (mkF m 35 #[.val (.int p1), .val (.int p2), .val (.long q3), .second, .val (.int p4), .val (.int p5), .val (.int s6), .val (.int m7), .val (.long q3), .second, .unset, .unset, .unset, .unset, .unset] [(.int (3 : Int32)), (.int p4)])) _
  refine XS.iand X0.here hx rfl (hb hby at_35) rfl ?_
  show Steps p.tables e below (T0.setTop (mkF m 36 #[.val (.int p1), .val (.int p2), .val (.long q3), .second, .val (.int p4), .val (.int p5), .val (.int s6), .val (.int m7), .val (.long q3), .second, .unset, .unset, .unset, .unset, .unset] [(.int (p4 &&& (3 : Int32)))])) _
  refine XS.istore X0.here hx rfl (hb hby at_36) rfl (l' := #[.val (.int p1), .val (.int p2), .val (.long q3), .second, .val (.int p4), .val (.int p5), .val (.int s6), .val (.int m7), .val (.long q3), .second, .val (.int (p4 &&& (3 : Int32))), .unset, .unset, .unset, .unset]) rfl ?_
  show Steps p.tables e below (T0.setTop (mkF m 38 #[.val (.int p1), .val (.int p2), .val (.long q3), .second, .val (.int p4), .val (.int p5), .val (.int s6), .val (.int m7), .val (.long q3), .second, .val (.int (p4 &&& (3 : Int32))), .unset, .unset, .unset, .unset] [])) _
  refine XS.iload X0.here hx rfl (hb hby at_38) rfl ?_
  show Steps p.tables e below (T0.setTop (mkF m 40 #[.val (.int p1), .val (.int p2), .val (.long q3), .second, .val (.int p4), .val (.int p5), .val (.int s6), .val (.int m7), .val (.long q3), .second, .val (.int (p4 &&& (3 : Int32))), .unset, .unset, .unset, .unset] [(.int (p4 &&& (3 : Int32)))])) _
  refine XS.iconst X0.here hx rfl (hb hby at_40) ?_
  show Steps p.tables e below (T0.setTop (mkF m 41 #[.val (.int p1), .val (.int p2), .val (.long q3), .second, .val (.int p4), .val (.int p5), .val (.int s6), .val (.int m7), .val (.long q3), .second, .val (.int (p4 &&& (3 : Int32))), .unset, .unset, .unset, .unset] [(.int (1 : Int32)), (.int (p4 &&& (3 : Int32)))])) _
  refine XS.icmpYes X0.here hx rfl (pc0 := 41) (pc' := 56) rfl (hb hby at_41) rfl (feq hz).2 (by decide) (by decide) ?_
  show Steps p.tables e below (T0.setTop (mkF m 56 #[.val (.int p1), .val (.int p2), .val (.long q3), .second, .val (.int p4), .val (.int p5), .val (.int s6), .val (.int m7), .val (.long q3), .second, .val (.int (p4 &&& (3 : Int32))), .unset, .unset, .unset, .unset] [])) _
  refine XS.iload X0.here hx rfl (hb hby at_56) rfl ?_
  show Steps p.tables e below (T0.setTop (mkF m 58 #[.val (.int p1), .val (.int p2), .val (.long q3), .second, .val (.int p4), .val (.int p5), .val (.int s6), .val (.int m7), .val (.long q3), .second, .val (.int (p4 &&& (3 : Int32))), .unset, .unset, .unset, .unset] [(.int (p4 &&& (3 : Int32)))])) _
  refine XS.iconst X0.here hx rfl (hb hby at_58) ?_
  show Steps p.tables e below (T0.setTop (mkF m 59 #[.val (.int p1), .val (.int p2), .val (.long q3), .second, .val (.int p4), .val (.int p5), .val (.int s6), .val (.int m7), .val (.long q3), .second, .val (.int (p4 &&& (3 : Int32))), .unset, .unset, .unset, .unset] [(.int (2 : Int32)), (.int (p4 &&& (3 : Int32)))])) _
  refine XS.icmpNo X0.here hx rfl (hb hby at_59) rfl (teq hy).2 ?_
  show Steps p.tables e below (T0.setTop (mkF m 62 #[.val (.int p1), .val (.int p2), .val (.long q3), .second, .val (.int p4), .val (.int p5), .val (.int s6), .val (.int m7), .val (.long q3), .second, .val (.int (p4 &&& (3 : Int32))), .unset, .unset, .unset, .unset] [])) _
  refine XS.iload X0.here hx rfl (hb hby at_62) rfl ?_
  show Steps p.tables e below (T0.setTop (mkF m 64 #[.val (.int p1), .val (.int p2), .val (.long q3), .second, .val (.int p4), .val (.int p5), .val (.int s6), .val (.int m7), .val (.long q3), .second, .val (.int (p4 &&& (3 : Int32))), .unset, .unset, .unset, .unset] [(.int s6)])) _
  refine XS.i2l X0.here hx rfl (hb hby at_64) rfl ?_
  show Steps p.tables e below (T0.setTop (mkF m 65 #[.val (.int p1), .val (.int p2), .val (.long q3), .second, .val (.int p4), .val (.int p5), .val (.int s6), .val (.int m7), .val (.long q3), .second, .val (.int (p4 &&& (3 : Int32))), .unset, .unset, .unset, .unset] [(.long (s6.toInt64))])) _
  refine XS.iload X0.here hx rfl (hb hby at_65) rfl ?_
  show Steps p.tables e below (T0.setTop (mkF m 67 #[.val (.int p1), .val (.int p2), .val (.long q3), .second, .val (.int p4), .val (.int p5), .val (.int s6), .val (.int m7), .val (.long q3), .second, .val (.int (p4 &&& (3 : Int32))), .unset, .unset, .unset, .unset] [(.int m7), (.long (s6.toInt64))])) _
  refine XS.i2l X0.here hx rfl (hb hby at_67) rfl ?_
  show Steps p.tables e below (T0.setTop (mkF m 68 #[.val (.int p1), .val (.int p2), .val (.long q3), .second, .val (.int p4), .val (.int p5), .val (.int s6), .val (.int m7), .val (.long q3), .second, .val (.int (p4 &&& (3 : Int32))), .unset, .unset, .unset, .unset] [(.long (m7.toInt64)), (.long (s6.toInt64))])) _
  refine XS.lmul X0.here hx rfl (hb hby at_68) rfl ?_
  show Steps p.tables e below (T0.setTop (mkF m 69 #[.val (.int p1), .val (.int p2), .val (.long q3), .second, .val (.int p4), .val (.int p5), .val (.int s6), .val (.int m7), .val (.long q3), .second, .val (.int (p4 &&& (3 : Int32))), .unset, .unset, .unset, .unset] [(.long ((s6.toInt64) * (m7.toInt64)))])) _
  refine XS.lconst X0.here hx rfl (hb hby at_69) ?_
  show Steps p.tables e below (T0.setTop (mkF m 70 #[.val (.int p1), .val (.int p2), .val (.long q3), .second, .val (.int p4), .val (.int p5), .val (.int s6), .val (.int m7), .val (.long q3), .second, .val (.int (p4 &&& (3 : Int32))), .unset, .unset, .unset, .unset] [(.long (1 : Int64)), (.long ((s6.toInt64) * (m7.toInt64)))])) _
  refine XS.lsub X0.here hx rfl (hb hby at_70) rfl ?_
  show Steps p.tables e below (T0.setTop (mkF m 71 #[.val (.int p1), .val (.int p2), .val (.long q3), .second, .val (.int p4), .val (.int p5), .val (.int s6), .val (.int m7), .val (.long q3), .second, .val (.int (p4 &&& (3 : Int32))), .unset, .unset, .unset, .unset] [(.long (((s6.toInt64) * (m7.toInt64)) - (1 : Int64)))])) _
  refine XS.lstore X0.here hx rfl (hb hby at_71) rfl (l' := #[.val (.int p1), .val (.int p2), .val (.long q3), .second, .val (.int p4), .val (.int p5), .val (.int s6), .val (.int m7), .val (.long (((s6.toInt64) * (m7.toInt64)) - (1 : Int64))), .second, .val (.int (p4 &&& (3 : Int32))), .unset, .unset, .unset, .unset]) rfl ?_
  exact kt
set_option maxRecDepth 65536 in
set_option maxHeartbeats 40000000 in
theorem tn_C3 {p : Program} {l : Launch} {e : Env} {R : Room} {s : State} {m : MethodId} {args : Array Value} {below : List Frame} {meth : Method} {c : Code} {T0 : State} {locs : List Loc} {cells slots : Nat} {Z : State} {a0 : Array Value} {h0 : Heap} (p1 : Int32) (p2 : Int32) (q3 : Int64) (p4 : Int32) (p5 : Int32) (s6 : Int32) (m7 : Int32)
    (X0 : Stand p l e R s m args below meth c T0 locs cells slots) (hx : p.tables.exec = Jvm.exec) (hZ : Z.Warmed39 s.vm) (hw : ∀ d ∈ tables_1, d.before a0 Z = true) (hby : c.code = code) (hml : c.maxLocals = 15) (hown : s.vm.findClass "com/example/allotd/allotd/store/CompactionSizeClassPinLaw" = some m.cls) (e0 : T0.heap = h0) (hz : ¬ ((p4 &&& (3 : Int32)) = (1 : Int32))) (hy : ¬ ((p4 &&& (3 : Int32)) = (2 : Int32))) :
    ∃ (T' : State), Stand p l e R s m args below meth c T' locs cells slots ∧ T'.heap = h0 ∧ ∀ target, Steps p.tables e below (T'.setTop (mkF m 73 #[.val (.int p1), .val (.int p2), .val (.long q3), .second, .val (.int p4), .val (.int p5), .val (.int s6), .val (.int m7), .val (.long q3), .second, .val (.int (p4 &&& (3 : Int32))), .unset, .unset, .unset, .unset] [])) target → Steps p.tables e below (T0.setTop (mkF m 29 #[.val (.int p1), .val (.int p2), .val (.long q3), .second, .val (.int p4), .val (.int p5), .val (.int s6), .val (.int m7), .unset, .unset, .unset, .unset, .unset, .unset, .unset] [])) target := by
  refine ⟨T0, X0, e0, fun target kt => ?_⟩
  show Steps p.tables e below (T0.setTop (mkF m 29 #[.val (.int p1), .val (.int p2), .val (.long q3), .second, .val (.int p4), .val (.int p5), .val (.int s6), .val (.int m7), .unset, .unset, .unset, .unset, .unset, .unset, .unset] [])) _
  refine XS.lloadN X0.here hx rfl (hb hby at_29) rfl ?_
  show Steps p.tables e below (T0.setTop (mkF m 30 #[.val (.int p1), .val (.int p2), .val (.long q3), .second, .val (.int p4), .val (.int p5), .val (.int s6), .val (.int m7), .unset, .unset, .unset, .unset, .unset, .unset, .unset] [(.long q3)])) _
  refine XS.lstore X0.here hx rfl (hb hby at_30) rfl (l' := #[.val (.int p1), .val (.int p2), .val (.long q3), .second, .val (.int p4), .val (.int p5), .val (.int s6), .val (.int m7), .val (.long q3), .second, .unset, .unset, .unset, .unset, .unset]) rfl ?_
  show Steps p.tables e below (T0.setTop (mkF m 32 #[.val (.int p1), .val (.int p2), .val (.long q3), .second, .val (.int p4), .val (.int p5), .val (.int s6), .val (.int m7), .val (.long q3), .second, .unset, .unset, .unset, .unset, .unset] [])) _
  refine XS.iload X0.here hx rfl (hb hby at_32) rfl ?_
  show Steps p.tables e below (T0.setTop (mkF m 34 #[.val (.int p1), .val (.int p2), .val (.long q3), .second, .val (.int p4), .val (.int p5), .val (.int s6), .val (.int m7), .val (.long q3), .second, .unset, .unset, .unset, .unset, .unset] [(.int p4)])) _
  refine XS.iconst X0.here hx rfl (hb hby at_34) ?_
  show Steps p.tables e below (T0.setTop (mkF m 35 #[.val (.int p1), .val (.int p2), .val (.long q3), .second, .val (.int p4), .val (.int p5), .val (.int s6), .val (.int m7), .val (.long q3), .second, .unset, .unset, .unset, .unset, .unset] [(.int (3 : Int32)), (.int p4)])) _
  refine XS.iand X0.here hx rfl (hb hby at_35) rfl ?_
  show Steps p.tables e below (T0.setTop (mkF m 36 #[.val (.int p1), .val (.int p2), .val (.long q3), .second, .val (.int p4), .val (.int p5), .val (.int s6), .val (.int m7), .val (.long q3), .second, .unset, .unset, .unset, .unset, .unset] [(.int (p4 &&& (3 : Int32)))])) _
  refine XS.istore X0.here hx rfl (hb hby at_36) rfl (l' := #[.val (.int p1), .val (.int p2), .val (.long q3), .second, .val (.int p4), .val (.int p5), .val (.int s6), .val (.int m7), .val (.long q3), .second, .val (.int (p4 &&& (3 : Int32))), .unset, .unset, .unset, .unset]) rfl ?_
  show Steps p.tables e below (T0.setTop (mkF m 38 #[.val (.int p1), .val (.int p2), .val (.long q3), .second, .val (.int p4), .val (.int p5), .val (.int s6), .val (.int m7), .val (.long q3), .second, .val (.int (p4 &&& (3 : Int32))), .unset, .unset, .unset, .unset] [])) _
  refine XS.iload X0.here hx rfl (hb hby at_38) rfl ?_
  show Steps p.tables e below (T0.setTop (mkF m 40 #[.val (.int p1), .val (.int p2), .val (.long q3), .second, .val (.int p4), .val (.int p5), .val (.int s6), .val (.int m7), .val (.long q3), .second, .val (.int (p4 &&& (3 : Int32))), .unset, .unset, .unset, .unset] [(.int (p4 &&& (3 : Int32)))])) _
  refine XS.iconst X0.here hx rfl (hb hby at_40) ?_
  show Steps p.tables e below (T0.setTop (mkF m 41 #[.val (.int p1), .val (.int p2), .val (.long q3), .second, .val (.int p4), .val (.int p5), .val (.int s6), .val (.int m7), .val (.long q3), .second, .val (.int (p4 &&& (3 : Int32))), .unset, .unset, .unset, .unset] [(.int (1 : Int32)), (.int (p4 &&& (3 : Int32)))])) _
  refine XS.icmpYes X0.here hx rfl (pc0 := 41) (pc' := 56) rfl (hb hby at_41) rfl (feq hz).2 (by decide) (by decide) ?_
  show Steps p.tables e below (T0.setTop (mkF m 56 #[.val (.int p1), .val (.int p2), .val (.long q3), .second, .val (.int p4), .val (.int p5), .val (.int s6), .val (.int m7), .val (.long q3), .second, .val (.int (p4 &&& (3 : Int32))), .unset, .unset, .unset, .unset] [])) _
  refine XS.iload X0.here hx rfl (hb hby at_56) rfl ?_
  show Steps p.tables e below (T0.setTop (mkF m 58 #[.val (.int p1), .val (.int p2), .val (.long q3), .second, .val (.int p4), .val (.int p5), .val (.int s6), .val (.int m7), .val (.long q3), .second, .val (.int (p4 &&& (3 : Int32))), .unset, .unset, .unset, .unset] [(.int (p4 &&& (3 : Int32)))])) _
  refine XS.iconst X0.here hx rfl (hb hby at_58) ?_
  show Steps p.tables e below (T0.setTop (mkF m 59 #[.val (.int p1), .val (.int p2), .val (.long q3), .second, .val (.int p4), .val (.int p5), .val (.int s6), .val (.int m7), .val (.long q3), .second, .val (.int (p4 &&& (3 : Int32))), .unset, .unset, .unset, .unset] [(.int (2 : Int32)), (.int (p4 &&& (3 : Int32)))])) _
  refine XS.icmpYes X0.here hx rfl (pc0 := 59) (pc' := 73) rfl (hb hby at_59) rfl (feq hy).2 (by decide) (by decide) ?_
  exact kt

theorem headL {p : Program} {l : Launch} {e : Env} {R : Room} {s : State} {m : MethodId} {args : Array Value} {below : List Frame} {meth : Method} {c : Code} {T0 : State} {locs : List Loc} {cells slots : Nat} {Z : State} {a0 : Array Value} {h0 : Heap} (p1 p2 : Int32) (q3 : Int64) (p4 p5 : Int32) (X0 : Stand p l e R s m args below meth c T0 locs cells slots) (hx : p.tables.exec = Jvm.exec) (hZ : Z.Warmed39 s.vm) (hw : ∀ d ∈ tables_1, d.before a0 Z = true) (hby : c.code = code) (hml : c.maxLocals = 15) (hown : s.vm.findClass "com/example/allotd/allotd/store/CompactionSizeClassPinLaw" = some m.cls) (e0 : T0.heap = h0) :
    ∃ (T' : State) (s6 m7 : Int32) (k8 : Int64), 1 ≤ s6.toInt ∧ 2 ≤ m7.toInt ∧ Stand p l e R s m args below meth c T' locs cells slots ∧ T'.heap = h0 ∧ ∀ target, Steps p.tables e below (T'.setTop (mkF m 73 #[.val (.int p1), .val (.int p2), .val (.long q3), .second, .val (.int p4), .val (.int p5), .val (.int s6), .val (.int m7), .val (.long k8), .second, .val (.int (p4 &&& (3 : Int32))), .unset, .unset, .unset, .unset] [])) target → Steps p.tables e below (T0.setTop (mkF m 0 #[.val (.int p1), .val (.int p2), .val (.long q3), .second, .val (.int p4), .val (.int p5), .unset, .unset, .unset, .unset, .unset, .unset, .unset, .unset, .unset] [])) target := by
  obtain ⟨TA, s6, hs, XA, eA, stA⟩ : ∃ (T' : State) (s6 : Int32), 1 ≤ s6.toInt ∧ Stand p l e R s m args below meth c T' locs cells slots ∧ T'.heap = h0 ∧ ∀ target, Steps p.tables e below (T'.setTop (mkF m 14 #[.val (.int p1), .val (.int p2), .val (.long q3), .second, .val (.int p4), .val (.int p5), .val (.int s6), .unset, .unset, .unset, .unset, .unset, .unset, .unset, .unset] [])) target → Steps p.tables e below (T0.setTop (mkF m 0 #[.val (.int p1), .val (.int p2), .val (.long q3), .second, .val (.int p4), .val (.int p5), .unset, .unset, .unset, .unset, .unset, .unset, .unset, .unset, .unset] [])) target := by
    by_cases hz : (p1 &&& (2147483647 : Int32)) = (0 : Int32)
    · obtain ⟨T1, X1, e1, st1⟩ := tn_A1 p1 p2 q3 p4 p5 X0 hx hZ hw hby hml hown e0 hz
      exact ⟨T1, _, by decide, X1, e1, st1⟩
    · obtain ⟨T1, X1, e1, st1⟩ := tn_A2 p1 p2 q3 p4 p5 X0 hx hZ hw hby hml hown e0 hz
      exact ⟨T1, _, own_s hz, X1, e1, st1⟩
  obtain ⟨TB, m7, hm, XB, eB, stB⟩ : ∃ (T' : State) (m7 : Int32), 2 ≤ m7.toInt ∧ Stand p l e R s m args below meth c T' locs cells slots ∧ T'.heap = h0 ∧ ∀ target, Steps p.tables e below (T'.setTop (mkF m 29 #[.val (.int p1), .val (.int p2), .val (.long q3), .second, .val (.int p4), .val (.int p5), .val (.int s6), .val (.int m7), .unset, .unset, .unset, .unset, .unset, .unset, .unset] [])) target → Steps p.tables e below (TA.setTop (mkF m 14 #[.val (.int p1), .val (.int p2), .val (.long q3), .second, .val (.int p4), .val (.int p5), .val (.int s6), .unset, .unset, .unset, .unset, .unset, .unset, .unset, .unset] [])) target := by
    by_cases hz : (p2 &&& (2147483647 : Int32)) < (2 : Int32)
    · obtain ⟨T1, X1, e1, st1⟩ := tn_B1 p1 p2 q3 p4 p5 s6 XA hx hZ hw hby hml hown eA hz
      exact ⟨T1, _, by decide, X1, e1, st1⟩
    · obtain ⟨T1, X1, e1, st1⟩ := tn_B2 p1 p2 q3 p4 p5 s6 XA hx hZ hw hby hml hown eA hz
      exact ⟨T1, _, own_m hz, X1, e1, st1⟩
  by_cases hz : (p4 &&& (3 : Int32)) = (1 : Int32)
  · obtain ⟨T1, X1, e1, st1⟩ := tn_C1 p1 p2 q3 p4 p5 s6 m7 XB hx hZ hw hby hml hown eB hz
    exact ⟨T1, s6, m7, _, hs, hm, X1, e1, fun target h => stA target (stB target (st1 target h))⟩
  · by_cases hy : (p4 &&& (3 : Int32)) = (2 : Int32)
    · obtain ⟨T1, X1, e1, st1⟩ := tn_C2 p1 p2 q3 p4 p5 s6 m7 XB hx hZ hw hby hml hown eB hz hy
      exact ⟨T1, s6, m7, _, hs, hm, X1, e1, fun target h => stA target (stB target (st1 target h))⟩
    · obtain ⟨T1, X1, e1, st1⟩ := tn_C3 p1 p2 q3 p4 p5 s6 m7 XB hx hZ hw hby hml hown eB hz hy
      exact ⟨T1, s6, m7, _, hs, hm, X1, e1, fun target h => stA target (stB target (st1 target h))⟩

theorem pd__40IIIIII_41V : parseMethodDescriptor "(IIIIII)V" = some ⟨[.int, .int, .int, .int, .int, .int], none⟩ := by decide +kernel
theorem pd__40J_41I : parseMethodDescriptor "(J)I" = some ⟨[.long], some .int⟩ := by decide +kernel
theorem pn_com_example_allotd_allotd_store_CompactionSizeClassPinLaw : plainName "com/example/allotd/allotd/store/CompactionSizeClassPinLaw" = true := by first | (simp [plainName, overriddenIn]; done) | decide +kernel
theorem ef_rm0 (m : MethodId) (x0 : Int32) (x1 : Int32) (x2 : Int64) (x3 : Int32) (x4 : Int32) : entryFrame m #[(.int x0), (.int x1), (.long x2), (.int x3), (.int x4)] maxLocals = mkF m 0 #[.val (.int x0), .val (.int x1), .val (.long x2), .second, .val (.int x3), .val (.int x4), .unset, .unset, .unset, .unset, .unset, .unset, .unset, .unset, .unset] [] := by first | (simp [entryFrame, mkF, argsToLocals, Value.category, maxLocals]; done) | rfl
def Q_rm0 (Z : State) (p1 : Int32) (p2 : Int32) (q3 : Int64) (p4 : Int32) (p5 : Int32) (h0 : Heap) (n0 : Nat) (v : Option Value) (h : Heap) (L : List Loc) : Prop := v = some (.int (1 : Int32)) ∧ Fr n0 L
set_option maxRecDepth 65536 in
set_option maxHeartbeats 40000000 in
theorem rm0 (l : Launch) (Z : State) (a0 : Array Value) (hw : ∀ d ∈ tables_1, d.before a0 Z = true) (ws : List Jvm.Cond) (p1 : Int32) (p2 : Int32) (q3 : Int64) (p4 : Int32) (p5 : Int32) (h0 : Heap) (n0 : Nat) (Z0 : n0 ≤ h0.size) :
    MetFree l x (head1 (Jvm.Cond.code x code maxLocals ret :: ws) room_1) (fun a U => a = #[(.int p1), (.int p2), (.long q3), (.int p4), (.int p5)] ∧ Z.Warmed39 U.vm ∧ U.heap = h0) (fun _ _ _ _ _ => True) (fun _ U o U' => ∃ v L, o = .returned v ∧ Q_rm0 Z p1 p2 q3 p4 p5 h0 n0 v U'.heap L ∧ FrameEnd U o U' L room_1.cells room_1.slots) := by
  refine MetFree.of_bodySF (plainFor_of_name pn_com_example_allotd_allotd_store_CompactionSizeClassPinLaw) hisR ?_
  intro p e s m args below meth c s₁ Bd hml0 hP hK
  obtain ⟨rfl, hZ, hh⟩ := hP
  have hx := Bd.exec
  have hby := Bd.bytes
  have hml : c.maxLocals = 15 := hml0
  have hown : s.vm.findClass "com/example/allotd/allotd/store/CompactionSizeClassPinLaw" = some m.cls := findClass_of_methodNamed Bd.named
  have hnm := (name_of_methodNamed Bd.named Bd.method).1
  have X0 : Stand p l e room_1 s m #[(.int p1), (.int p2), (.long q3), (.int p4), (.int p5)] below meth c s₁ [] 0 0 := Stand.of_body Bd
  have e0 : s₁.heap = h0 := by rw [← hh, Bd.state]; rfl
  have N0 := Fr.nil n0
  have pre0 : ∀ t, Steps p.tables e below (s₁.setTop (mkF m 0 #[.val (.int p1), .val (.int p2), .val (.long q3), .second, .val (.int p4), .val (.int p5), .unset, .unset, .unset, .unset, .unset, .unset, .unset, .unset, .unset] [])) t → Steps p.tables e below (s₁.setTop (entryFrame m #[(.int p1), (.int p2), (.long q3), (.int p4), (.int p5)] maxLocals)) t := fun t k => castTop (ef_rm0 m p1 p2 q3 p4 p5) k
  obtain ⟨T1, s6, m7, k8, hs, hm, X1, e1, st1⟩ := headL p1 p2 q3 p4 p5 X0 hx hZ hw hby hml hown e0
  obtain ⟨T2, h2, X2, e2, E2, A2, D2, -, st2⟩ := newO X1 hx hZ hown (hw _ (List.mem_of_getElem? (i := 1) rfl)) (hw _ (List.mem_of_getElem? (i := 2) rfl)) (hw _ (List.mem_of_getElem? (i := 3) rfl)) e1 (g := (mkF m 73 #[.val (.int p1), .val (.int p2), .val (.long q3), .second, .val (.int p4), .val (.int p5), .val (.int s6), .val (.int m7), .val (.long k8), .second, .val (.int (p4 &&& (3 : Int32))), .unset, .unset, .unset, .unset] [])) rfl (hb hby at_73) (by decide) (by decide)
  obtain ⟨b2, g2⟩ : ∃ z, z = h0.size := ⟨_, rfl⟩
  rw [← g2] at A2 D2 st2
  have gnb2 : n0 ≤ b2 := Nat.le_trans (Nat.le_trans Z0 (Keep.refl h0 []).1) (Nat.le_of_eq g2.symm)
  have gzb2 : h0.size ≤ b2 := Nat.le_trans (Keep.refl h0 []).1 (Nat.le_of_eq g2.symm)
  have K3 : Keep h0 h2 [] := (Keep.refl h0 []).ext E2
  have f4 : Fld Z h2 b2 "com/example/allotd/allotd/store/CountedRequests$Compaction" "every" "I" (.int (0 : Int32)) := D2 (Or.inr (hw _ (List.mem_of_getElem? (i := 16) rfl))) (ty := .int) (by decide)
  have f5 : Fld Z h2 b2 "com/example/allotd/allotd/store/CountedRequests$Compaction" "sealAt" "I" (.int (0 : Int32)) := D2 (Or.inr (hw _ (List.mem_of_getElem? (i := 18) rfl))) (ty := .int) (by decide)
  have f6 : Fld Z h2 b2 "com/example/allotd/allotd/store/CountedRequests$Compaction" "sealAtMost" "I" (.int (0 : Int32)) := D2 (Or.inr (hw _ (List.mem_of_getElem? (i := 20) rfl))) (ty := .int) (by decide)
  have f7 : Fld Z h2 b2 "com/example/allotd/allotd/store/CountedRequests$Compaction" "mergeWidth" "I" (.int (0 : Int32)) := D2 (Or.inr (hw _ (List.mem_of_getElem? (i := 22) rfl))) (ty := .int) (by decide)
  have f8 : Fld Z h2 b2 "com/example/allotd/allotd/store/CountedRequests$Compaction" "stepKeys" "I" (.int (0 : Int32)) := D2 (Or.inr (hw _ (List.mem_of_getElem? (i := 24) rfl))) (ty := .int) (by decide)
  have f9 : Fld Z h2 b2 "com/example/allotd/allotd/store/CountedRequests$Compaction" "bucketKeys" "I" (.int (0 : Int32)) := D2 (Or.inr (hw _ (List.mem_of_getElem? (i := 26) rfl))) (ty := .int) (by decide)
  obtain ⟨_, _, ⟨T10, L10, k10, n10⟩, -, X10, ⟨Lc10, hQ10, l10, y10, z10⟩, st10⟩ := X2.specialBack hx (y := (⟨"com/example/allotd/allotd/store/CountedRequests$Compaction", "<init>", "(IIIIII)V"⟩ : MethodName)) rfl hown (mvT hZ (hw _ (List.mem_of_getElem? (i := 4) rfl))) (mvT hZ (hw _ (List.mem_of_getElem? (i := 5) rfl))) (mvT hZ (hw _ (List.mem_of_getElem? (i := 6) rfl))) (by decide) (backOf (W := 1) (rm_ini l Z a0 hw [] b2 p5 s6 p5 m7 p5 p5 (.int (0 : Int32)) (.int (0 : Int32)) (.int (0 : Int32)) (.int (0 : Int32)) (.int (0 : Int32)) (.int (0 : Int32)) h2 n0 (Nat.le_trans Z0 K3.1) A2 f4 f5 f6 f7 f8 f9 gnb2) hZ (hw _ (List.mem_of_getElem? (i := 6) rfl)) (hw _ (List.mem_of_getElem? (i := 3) rfl)) (by decide) (by decide)) (g := (mkF m 89 #[.val (.int p1), .val (.int p2), .val (.long q3), .second, .val (.int p4), .val (.int p5), .val (.int s6), .val (.int m7), .val (.long k8), .second, .val (.int (p4 &&& (3 : Int32))), .unset, .unset, .unset, .unset] [(.int p5), (.int p5), (.int m7), (.int p5), (.int s6), (.int p5), (.ref b2), (.ref b2)])) rfl (by rw [hml]; rfl) (Steps.refl _) (a := b2) (argsL := [(.int p5), (.int s6), (.int p5), (.int m7), (.int p5), (.int p5)]) (rest := [(.ref b2)]) (lenOf pd__40IIIIII_41V rfl) rfl (by show 2 * 0 + _ ≤ _; exact Nat.le_of_eq rfl) (hb hby at_89) (fun _ _ => ⟨rfl, e2, (by decide : 1 + 0 ≤ _), (by decide : 6 + 0 ≤ _)⟩)
  dsimp only [Pt.U, Pt.locs, Pt.cells, Pt.slots] at X10 l10 y10 z10 st10 hQ10
  subst l10 y10 z10
  obtain ⟨rfl, Nq10, Kc10, p10_0, p10_1⟩ := hQ10
  have K11 : Keep h0 T10.heap [] := K3.trans Kc10 (allS (Or.inr gzb2) all0)
  have N10 := Fr.app N0 Nq10
  have f13 : Exa Z T10.heap b2 "com/example/allotd/allotd/store/CountedRequests$Compaction" := (A2.keep Kc10)
  obtain ⟨cq12, kq12, q12a, q12b, q12c⟩ := isOf hZ rfl f13
  obtain ⟨_, _, ⟨T12, L12, k12, n12⟩, -, X12, ⟨Lc12, hQ12, l12, y12, z12⟩, st12⟩ := X10.virtualBack hx (y := (⟨"com/example/allotd/allotd/store/CountedRequests$Compaction", "sizeClass", "(J)I"⟩ : MethodName)) (z := (⟨"com/example/allotd/allotd/store/CountedRequests$Compaction", "sizeClass", "(J)I"⟩ : MethodName)) hown (mvT hZ (hw _ (List.mem_of_getElem? (i := 27) rfl))) (mvT hZ (hw _ (List.mem_of_getElem? (i := 28) rfl))) (notFace_of_selects (args := #[]) (mvT hZ (hw _ (List.mem_of_getElem? (i := 30) rfl)))) (mvT hZ (hw _ (List.mem_of_getElem? (i := 30) rfl))) (mvT hZ (hw _ (List.mem_of_getElem? (i := 29) rfl))) (by decide) (backOf (W := 0) (rm_sc l Z a0 hw [] b2 k8 m7 s6 T10.heap n0 (Nat.le_trans Z0 K11.1) p10_1 p10_0 hm (own_sz hs)) hZ (hw _ (List.mem_of_getElem? (i := 31) rfl)) (hw _ (List.mem_of_getElem? (i := 3) rfl)) (by decide) (by decide)) q12a q12c (g := (mkF m 98 #[.val (.int p1), .val (.int p2), .val (.long q3), .second, .val (.int p4), .val (.int p5), .val (.int s6), .val (.int m7), .val (.long k8), .second, .val (.int (p4 &&& (3 : Int32))), .val (.ref b2), .unset, .unset, .unset] [(.long k8), (.ref b2)])) rfl (by rw [hml]; rfl) (Steps.refl _) (argsL := [(.long k8)]) (rest := []) (lenOf pd__40J_41I rfl) rfl (by show 2 * 0 + _ ≤ _; exact Nat.le_of_eq rfl) (hb hby at_98) (fun _ _ => ⟨rfl, rfl, (by decide : 1 + 0 ≤ _), (by decide : 6 + 0 ≤ _)⟩)
  dsimp only [Pt.U, Pt.locs, Pt.cells, Pt.slots] at X12 l12 y12 z12 st12 hQ12
  subst l12 y12 z12
  obtain ⟨rfl, Nq12, e12⟩ := hQ12
  have N12 := Fr.app N10 Nq12
  obtain ⟨cq14, kq14, q14a, q14b, q14c⟩ := isOf hZ e12 f13
  obtain ⟨_, _, ⟨T14, L14, k14, n14⟩, -, X14, ⟨Lc14, hQ14, l14, y14, z14⟩, st14⟩ := X12.virtualBack hx (y := (⟨"com/example/allotd/allotd/store/CountedRequests$Compaction", "sizeClass", "(J)I"⟩ : MethodName)) (z := (⟨"com/example/allotd/allotd/store/CountedRequests$Compaction", "sizeClass", "(J)I"⟩ : MethodName)) hown (mvT hZ (hw _ (List.mem_of_getElem? (i := 27) rfl))) (mvT hZ (hw _ (List.mem_of_getElem? (i := 28) rfl))) (notFace_of_selects (args := #[]) (mvT hZ (hw _ (List.mem_of_getElem? (i := 30) rfl)))) (mvT hZ (hw _ (List.mem_of_getElem? (i := 30) rfl))) (mvT hZ (hw _ (List.mem_of_getElem? (i := 29) rfl))) (by decide) (backOf (W := 0) (rm_sc l Z a0 hw [] b2 (k8 / (m7.toInt64)) m7 s6 T10.heap n0 (Nat.le_trans Z0 K11.1) p10_1 p10_0 hm (own_sz hs)) hZ (hw _ (List.mem_of_getElem? (i := 31) rfl)) (hw _ (List.mem_of_getElem? (i := 3) rfl)) (by decide) (by decide)) q14a q14c (g := (mkF m 111 #[.val (.int p1), .val (.int p2), .val (.long q3), .second, .val (.int p4), .val (.int p5), .val (.int s6), .val (.int m7), .val (.long k8), .second, .val (.int (p4 &&& (3 : Int32))), .val (.ref b2), .val (.int (own_sc m7 63 (k8 / (s6.toInt64)))), .unset, .unset] [(.long (k8 / (m7.toInt64))), (.ref b2)])) rfl (by rw [hml]; rfl) (Steps.refl _) (argsL := [(.long (k8 / (m7.toInt64)))]) (rest := []) (lenOf pd__40J_41I rfl) rfl (by show 2 * 0 + _ ≤ _; exact Nat.le_of_eq rfl) (hb hby at_111) (fun _ _ => ⟨rfl, e12, (by decide : 1 + 0 ≤ _), (by decide : 6 + 0 ≤ _)⟩)
  dsimp only [Pt.U, Pt.locs, Pt.cells, Pt.slots] at X14 l14 y14 z14 st14 hQ14
  subst l14 y14 z14
  obtain ⟨rfl, Nq14, e14⟩ := hQ14
  have N14 := Fr.app N12 Nq14
  by_cases hc1 : (k8 / (s6.toInt64)) < (m7.toInt64)
  · obtain ⟨fs, hr, hrun, hended, hW, hsame⟩ := X14.leave (v := some (.int (1 : Int32))) (fun h => by rw [Bd.returns] at h; cases h)
    refine ⟨_, _, pre0 _ ?_, hrun, hended, _, _, rfl, ?_, ⟨_, rfl⟩, hW, hsame.mono (by decide) (by decide)⟩
    · show Steps p.tables e below (s₁.setTop (mkF m 0 #[.val (.int p1), .val (.int p2), .val (.long q3), .second, .val (.int p4), .val (.int p5), .unset, .unset, .unset, .unset, .unset, .unset, .unset, .unset, .unset] [])) _
      refine st1 _ ?_
      show Steps p.tables e below (T1.setTop (mkF m 73 #[.val (.int p1), .val (.int p2), .val (.long q3), .second, .val (.int p4), .val (.int p5), .val (.int s6), .val (.int m7), .val (.long k8), .second, .val (.int (p4 &&& (3 : Int32))), .unset, .unset, .unset, .unset] [])) _
      refine st2 _ ?_
      show Steps p.tables e below (T2.setTop (mkF m 76 #[.val (.int p1), .val (.int p2), .val (.long q3), .second, .val (.int p4), .val (.int p5), .val (.int s6), .val (.int m7), .val (.long k8), .second, .val (.int (p4 &&& (3 : Int32))), .unset, .unset, .unset, .unset] [(.ref b2)])) _
      refine XS.dup X2.here hx rfl (hb hby at_76) rfl rfl ?_
      show Steps p.tables e below (T2.setTop (mkF m 77 #[.val (.int p1), .val (.int p2), .val (.long q3), .second, .val (.int p4), .val (.int p5), .val (.int s6), .val (.int m7), .val (.long k8), .second, .val (.int (p4 &&& (3 : Int32))), .unset, .unset, .unset, .unset] [(.ref b2), (.ref b2)])) _
      refine XS.iload X2.here hx rfl (hb hby at_77) rfl ?_
      show Steps p.tables e below (T2.setTop (mkF m 79 #[.val (.int p1), .val (.int p2), .val (.long q3), .second, .val (.int p4), .val (.int p5), .val (.int s6), .val (.int m7), .val (.long k8), .second, .val (.int (p4 &&& (3 : Int32))), .unset, .unset, .unset, .unset] [(.int p5), (.ref b2), (.ref b2)])) _
      refine XS.iload X2.here hx rfl (hb hby at_79) rfl ?_
      show Steps p.tables e below (T2.setTop (mkF m 81 #[.val (.int p1), .val (.int p2), .val (.long q3), .second, .val (.int p4), .val (.int p5), .val (.int s6), .val (.int m7), .val (.long k8), .second, .val (.int (p4 &&& (3 : Int32))), .unset, .unset, .unset, .unset] [(.int s6), (.int p5), (.ref b2), (.ref b2)])) _
      refine XS.iload X2.here hx rfl (hb hby at_81) rfl ?_
      show Steps p.tables e below (T2.setTop (mkF m 83 #[.val (.int p1), .val (.int p2), .val (.long q3), .second, .val (.int p4), .val (.int p5), .val (.int s6), .val (.int m7), .val (.long k8), .second, .val (.int (p4 &&& (3 : Int32))), .unset, .unset, .unset, .unset] [(.int p5), (.int s6), (.int p5), (.ref b2), (.ref b2)])) _
      refine XS.iload X2.here hx rfl (hb hby at_83) rfl ?_
      show Steps p.tables e below (T2.setTop (mkF m 85 #[.val (.int p1), .val (.int p2), .val (.long q3), .second, .val (.int p4), .val (.int p5), .val (.int s6), .val (.int m7), .val (.long k8), .second, .val (.int (p4 &&& (3 : Int32))), .unset, .unset, .unset, .unset] [(.int m7), (.int p5), (.int s6), (.int p5), (.ref b2), (.ref b2)])) _
      refine XS.iload X2.here hx rfl (hb hby at_85) rfl ?_
      show Steps p.tables e below (T2.setTop (mkF m 87 #[.val (.int p1), .val (.int p2), .val (.long q3), .second, .val (.int p4), .val (.int p5), .val (.int s6), .val (.int m7), .val (.long k8), .second, .val (.int (p4 &&& (3 : Int32))), .unset, .unset, .unset, .unset] [(.int p5), (.int m7), (.int p5), (.int s6), (.int p5), (.ref b2), (.ref b2)])) _
      refine XS.iload X2.here hx rfl (hb hby at_87) rfl ?_
      show Steps p.tables e below (T2.setTop (mkF m 89 #[.val (.int p1), .val (.int p2), .val (.long q3), .second, .val (.int p4), .val (.int p5), .val (.int s6), .val (.int m7), .val (.long k8), .second, .val (.int (p4 &&& (3 : Int32))), .unset, .unset, .unset, .unset] [(.int p5), (.int p5), (.int m7), (.int p5), (.int s6), (.int p5), (.ref b2), (.ref b2)])) _
      refine st10.trans ?_
      show Steps p.tables e below (T10.setTop (mkF m 92 #[.val (.int p1), .val (.int p2), .val (.long q3), .second, .val (.int p4), .val (.int p5), .val (.int s6), .val (.int m7), .val (.long k8), .second, .val (.int (p4 &&& (3 : Int32))), .unset, .unset, .unset, .unset] [(.ref b2)])) _
      refine XS.astore X10.here hx rfl (hb hby at_92) rfl rfl (l' := #[.val (.int p1), .val (.int p2), .val (.long q3), .second, .val (.int p4), .val (.int p5), .val (.int s6), .val (.int m7), .val (.long k8), .second, .val (.int (p4 &&& (3 : Int32))), .val (.ref b2), .unset, .unset, .unset]) rfl ?_
      show Steps p.tables e below (T10.setTop (mkF m 94 #[.val (.int p1), .val (.int p2), .val (.long q3), .second, .val (.int p4), .val (.int p5), .val (.int s6), .val (.int m7), .val (.long k8), .second, .val (.int (p4 &&& (3 : Int32))), .val (.ref b2), .unset, .unset, .unset] [])) _
      refine XS.aload X10.here hx rfl (hb hby at_94) rfl rfl ?_
      show Steps p.tables e below (T10.setTop (mkF m 96 #[.val (.int p1), .val (.int p2), .val (.long q3), .second, .val (.int p4), .val (.int p5), .val (.int s6), .val (.int m7), .val (.long k8), .second, .val (.int (p4 &&& (3 : Int32))), .val (.ref b2), .unset, .unset, .unset] [(.ref b2)])) _
      refine XS.lload X10.here hx rfl (hb hby at_96) rfl ?_
      show Steps p.tables e below (T10.setTop (mkF m 98 #[.val (.int p1), .val (.int p2), .val (.long q3), .second, .val (.int p4), .val (.int p5), .val (.int s6), .val (.int m7), .val (.long k8), .second, .val (.int (p4 &&& (3 : Int32))), .val (.ref b2), .unset, .unset, .unset] [(.long k8), (.ref b2)])) _
      refine st12.trans ?_
      show Steps p.tables e below (T12.setTop (mkF m 101 #[.val (.int p1), .val (.int p2), .val (.long q3), .second, .val (.int p4), .val (.int p5), .val (.int s6), .val (.int m7), .val (.long k8), .second, .val (.int (p4 &&& (3 : Int32))), .val (.ref b2), .unset, .unset, .unset] [(.int (own_sc m7 63 (k8 / (s6.toInt64))))])) _
      refine XS.istore X12.here hx rfl (hb hby at_101) rfl (l' := #[.val (.int p1), .val (.int p2), .val (.long q3), .second, .val (.int p4), .val (.int p5), .val (.int s6), .val (.int m7), .val (.long k8), .second, .val (.int (p4 &&& (3 : Int32))), .val (.ref b2), .val (.int (own_sc m7 63 (k8 / (s6.toInt64)))), .unset, .unset]) rfl ?_
      show Steps p.tables e below (T12.setTop (mkF m 103 #[.val (.int p1), .val (.int p2), .val (.long q3), .second, .val (.int p4), .val (.int p5), .val (.int s6), .val (.int m7), .val (.long k8), .second, .val (.int (p4 &&& (3 : Int32))), .val (.ref b2), .val (.int (own_sc m7 63 (k8 / (s6.toInt64)))), .unset, .unset] [])) _
      refine XS.aload X12.here hx rfl (hb hby at_103) rfl rfl ?_
      show Steps p.tables e below (T12.setTop (mkF m 105 #[.val (.int p1), .val (.int p2), .val (.long q3), .second, .val (.int p4), .val (.int p5), .val (.int s6), .val (.int m7), .val (.long k8), .second, .val (.int (p4 &&& (3 : Int32))), .val (.ref b2), .val (.int (own_sc m7 63 (k8 / (s6.toInt64)))), .unset, .unset] [(.ref b2)])) _
      refine XS.lload X12.here hx rfl (hb hby at_105) rfl ?_
      show Steps p.tables e below (T12.setTop (mkF m 107 #[.val (.int p1), .val (.int p2), .val (.long q3), .second, .val (.int p4), .val (.int p5), .val (.int s6), .val (.int m7), .val (.long k8), .second, .val (.int (p4 &&& (3 : Int32))), .val (.ref b2), .val (.int (own_sc m7 63 (k8 / (s6.toInt64)))), .unset, .unset] [(.long k8), (.ref b2)])) _
      refine XS.iload X12.here hx rfl (hb hby at_107) rfl ?_
      show Steps p.tables e below (T12.setTop (mkF m 109 #[.val (.int p1), .val (.int p2), .val (.long q3), .second, .val (.int p4), .val (.int p5), .val (.int s6), .val (.int m7), .val (.long k8), .second, .val (.int (p4 &&& (3 : Int32))), .val (.ref b2), .val (.int (own_sc m7 63 (k8 / (s6.toInt64)))), .unset, .unset] [(.int m7), (.long k8), (.ref b2)])) _
      refine XS.i2l X12.here hx rfl (hb hby at_109) rfl ?_
      show Steps p.tables e below (T12.setTop (mkF m 110 #[.val (.int p1), .val (.int p2), .val (.long q3), .second, .val (.int p4), .val (.int p5), .val (.int s6), .val (.int m7), .val (.long k8), .second, .val (.int (p4 &&& (3 : Int32))), .val (.ref b2), .val (.int (own_sc m7 63 (k8 / (s6.toInt64)))), .unset, .unset] [(.long (m7.toInt64)), (.long k8), (.ref b2)])) _
      refine XS.ldiv X12.here hx rfl (hb hby at_110) rfl (own_mz hm) ?_
      show Steps p.tables e below (T12.setTop (mkF m 111 #[.val (.int p1), .val (.int p2), .val (.long q3), .second, .val (.int p4), .val (.int p5), .val (.int s6), .val (.int m7), .val (.long k8), .second, .val (.int (p4 &&& (3 : Int32))), .val (.ref b2), .val (.int (own_sc m7 63 (k8 / (s6.toInt64)))), .unset, .unset] [(.long (k8 / (m7.toInt64))), (.ref b2)])) _
      refine st14.trans ?_
      show Steps p.tables e below (T14.setTop (mkF m 114 #[.val (.int p1), .val (.int p2), .val (.long q3), .second, .val (.int p4), .val (.int p5), .val (.int s6), .val (.int m7), .val (.long k8), .second, .val (.int (p4 &&& (3 : Int32))), .val (.ref b2), .val (.int (own_sc m7 63 (k8 / (s6.toInt64)))), .unset, .unset] [(.int (own_sc m7 63 ((k8 / (m7.toInt64)) / (s6.toInt64))))])) _
      refine XS.istore X14.here hx rfl (hb hby at_114) rfl (l' := #[.val (.int p1), .val (.int p2), .val (.long q3), .second, .val (.int p4), .val (.int p5), .val (.int s6), .val (.int m7), .val (.long k8), .second, .val (.int (p4 &&& (3 : Int32))), .val (.ref b2), .val (.int (own_sc m7 63 (k8 / (s6.toInt64)))), .val (.int (own_sc m7 63 ((k8 / (m7.toInt64)) / (s6.toInt64)))), .unset]) rfl ?_
      show Steps p.tables e below (T14.setTop (mkF m 116 #[.val (.int p1), .val (.int p2), .val (.long q3), .second, .val (.int p4), .val (.int p5), .val (.int s6), .val (.int m7), .val (.long k8), .second, .val (.int (p4 &&& (3 : Int32))), .val (.ref b2), .val (.int (own_sc m7 63 (k8 / (s6.toInt64)))), .val (.int (own_sc m7 63 ((k8 / (m7.toInt64)) / (s6.toInt64)))), .unset] [])) _
      refine XS.lload X14.here hx rfl (hb hby at_116) rfl ?_
      show Steps p.tables e below (T14.setTop (mkF m 118 #[.val (.int p1), .val (.int p2), .val (.long q3), .second, .val (.int p4), .val (.int p5), .val (.int s6), .val (.int m7), .val (.long k8), .second, .val (.int (p4 &&& (3 : Int32))), .val (.ref b2), .val (.int (own_sc m7 63 (k8 / (s6.toInt64)))), .val (.int (own_sc m7 63 ((k8 / (m7.toInt64)) / (s6.toInt64)))), .unset] [(.long k8)])) _
      refine XS.iload X14.here hx rfl (hb hby at_118) rfl ?_
      show Steps p.tables e below (T14.setTop (mkF m 120 #[.val (.int p1), .val (.int p2), .val (.long q3), .second, .val (.int p4), .val (.int p5), .val (.int s6), .val (.int m7), .val (.long k8), .second, .val (.int (p4 &&& (3 : Int32))), .val (.ref b2), .val (.int (own_sc m7 63 (k8 / (s6.toInt64)))), .val (.int (own_sc m7 63 ((k8 / (m7.toInt64)) / (s6.toInt64)))), .unset] [(.int s6), (.long k8)])) _
      refine XS.i2l X14.here hx rfl (hb hby at_120) rfl ?_
      show Steps p.tables e below (T14.setTop (mkF m 121 #[.val (.int p1), .val (.int p2), .val (.long q3), .second, .val (.int p4), .val (.int p5), .val (.int s6), .val (.int m7), .val (.long k8), .second, .val (.int (p4 &&& (3 : Int32))), .val (.ref b2), .val (.int (own_sc m7 63 (k8 / (s6.toInt64)))), .val (.int (own_sc m7 63 ((k8 / (m7.toInt64)) / (s6.toInt64)))), .unset] [(.long (s6.toInt64)), (.long k8)])) _
      refine XS.ldiv X14.here hx rfl (hb hby at_121) rfl (own_sz hs) ?_
      show Steps p.tables e below (T14.setTop (mkF m 122 #[.val (.int p1), .val (.int p2), .val (.long q3), .second, .val (.int p4), .val (.int p5), .val (.int s6), .val (.int m7), .val (.long k8), .second, .val (.int (p4 &&& (3 : Int32))), .val (.ref b2), .val (.int (own_sc m7 63 (k8 / (s6.toInt64)))), .val (.int (own_sc m7 63 ((k8 / (m7.toInt64)) / (s6.toInt64)))), .unset] [(.long (k8 / (s6.toInt64)))])) _
      refine XS.iload X14.here hx rfl (hb hby at_122) rfl ?_
      show Steps p.tables e below (T14.setTop (mkF m 124 #[.val (.int p1), .val (.int p2), .val (.long q3), .second, .val (.int p4), .val (.int p5), .val (.int s6), .val (.int m7), .val (.long k8), .second, .val (.int (p4 &&& (3 : Int32))), .val (.ref b2), .val (.int (own_sc m7 63 (k8 / (s6.toInt64)))), .val (.int (own_sc m7 63 ((k8 / (m7.toInt64)) / (s6.toInt64)))), .unset] [(.int m7), (.long (k8 / (s6.toInt64)))])) _
      refine XS.i2l X14.here hx rfl (hb hby at_124) rfl ?_
      show Steps p.tables e below (T14.setTop (mkF m 125 #[.val (.int p1), .val (.int p2), .val (.long q3), .second, .val (.int p4), .val (.int p5), .val (.int s6), .val (.int m7), .val (.long k8), .second, .val (.int (p4 &&& (3 : Int32))), .val (.ref b2), .val (.int (own_sc m7 63 (k8 / (s6.toInt64)))), .val (.int (own_sc m7 63 ((k8 / (m7.toInt64)) / (s6.toInt64)))), .unset] [(.long (m7.toInt64)), (.long (k8 / (s6.toInt64)))])) _
      refine XS.lcmp X14.here hx rfl (hb hby at_125) rfl ?_
      show Steps p.tables e below (T14.setTop (mkF m 126 #[.val (.int p1), .val (.int p2), .val (.long q3), .second, .val (.int p4), .val (.int p5), .val (.int s6), .val (.int m7), .val (.long k8), .second, .val (.int (p4 &&& (3 : Int32))), .val (.ref b2), .val (.int (own_sc m7 63 (k8 / (s6.toInt64)))), .val (.int (own_sc m7 63 ((k8 / (m7.toInt64)) / (s6.toInt64)))), .unset] [(.int (lcmpW (k8 / (s6.toInt64)) (m7.toInt64)))])) _
      refine XS.ifYes X14.here hx rfl (pc0 := 126) (pc' := 136) rfl (hb hby at_126) rfl ((if0 _ _).trans (tlt ((lw_lt _ _).mpr hc1)).1) (by decide) (by decide) ?_
      show Steps p.tables e below (T14.setTop (mkF m 136 #[.val (.int p1), .val (.int p2), .val (.long q3), .second, .val (.int p4), .val (.int p5), .val (.int s6), .val (.int m7), .val (.long k8), .second, .val (.int (p4 &&& (3 : Int32))), .val (.ref b2), .val (.int (own_sc m7 63 (k8 / (s6.toInt64)))), .val (.int (own_sc m7 63 ((k8 / (m7.toInt64)) / (s6.toInt64)))), .unset] [])) _
      refine XS.iconst X14.here hx rfl (hb hby at_136) ?_
      show Steps p.tables e below (T14.setTop (mkF m 137 #[.val (.int p1), .val (.int p2), .val (.long q3), .second, .val (.int p4), .val (.int p5), .val (.int s6), .val (.int m7), .val (.long k8), .second, .val (.int (p4 &&& (3 : Int32))), .val (.ref b2), .val (.int (own_sc m7 63 (k8 / (s6.toInt64)))), .val (.int (own_sc m7 63 ((k8 / (m7.toInt64)) / (s6.toInt64)))), .unset] [(.int (0 : Int32))])) _
      refine XS.istore X14.here hx rfl (hb hby at_137) rfl (l' := #[.val (.int p1), .val (.int p2), .val (.long q3), .second, .val (.int p4), .val (.int p5), .val (.int s6), .val (.int m7), .val (.long k8), .second, .val (.int (p4 &&& (3 : Int32))), .val (.ref b2), .val (.int (own_sc m7 63 (k8 / (s6.toInt64)))), .val (.int (own_sc m7 63 ((k8 / (m7.toInt64)) / (s6.toInt64)))), .val (.int (0 : Int32))]) rfl ?_
      show Steps p.tables e below (T14.setTop (mkF m 139 #[.val (.int p1), .val (.int p2), .val (.long q3), .second, .val (.int p4), .val (.int p5), .val (.int s6), .val (.int m7), .val (.long k8), .second, .val (.int (p4 &&& (3 : Int32))), .val (.ref b2), .val (.int (own_sc m7 63 (k8 / (s6.toInt64)))), .val (.int (own_sc m7 63 ((k8 / (m7.toInt64)) / (s6.toInt64)))), .val (.int (0 : Int32))] [])) _
      refine XS.iload X14.here hx rfl (hb hby at_139) rfl ?_
      show Steps p.tables e below (T14.setTop (mkF m 141 #[.val (.int p1), .val (.int p2), .val (.long q3), .second, .val (.int p4), .val (.int p5), .val (.int s6), .val (.int m7), .val (.long k8), .second, .val (.int (p4 &&& (3 : Int32))), .val (.ref b2), .val (.int (own_sc m7 63 (k8 / (s6.toInt64)))), .val (.int (own_sc m7 63 ((k8 / (m7.toInt64)) / (s6.toInt64)))), .val (.int (0 : Int32))] [(.int (own_sc m7 63 (k8 / (s6.toInt64))))])) _
      refine XS.iload X14.here hx rfl (hb hby at_141) rfl ?_
      show Steps p.tables e below (T14.setTop (mkF m 143 #[.val (.int p1), .val (.int p2), .val (.long q3), .second, .val (.int p4), .val (.int p5), .val (.int s6), .val (.int m7), .val (.long k8), .second, .val (.int (p4 &&& (3 : Int32))), .val (.ref b2), .val (.int (own_sc m7 63 (k8 / (s6.toInt64)))), .val (.int (own_sc m7 63 ((k8 / (m7.toInt64)) / (s6.toInt64)))), .val (.int (0 : Int32))] [(.int (0 : Int32)), (.int (own_sc m7 63 (k8 / (s6.toInt64))))])) _
      refine XS.icmpNo X14.here hx rfl (hb hby at_143) rfl (teq (own_law0 hc1)).2 ?_
      show Steps p.tables e below (T14.setTop (mkF m 146 #[.val (.int p1), .val (.int p2), .val (.long q3), .second, .val (.int p4), .val (.int p5), .val (.int s6), .val (.int m7), .val (.long k8), .second, .val (.int (p4 &&& (3 : Int32))), .val (.ref b2), .val (.int (own_sc m7 63 (k8 / (s6.toInt64)))), .val (.int (own_sc m7 63 ((k8 / (m7.toInt64)) / (s6.toInt64)))), .val (.int (0 : Int32))] [])) _
      refine XS.iconst X14.here hx rfl (hb hby at_146) ?_
      show Steps p.tables e below (T14.setTop (mkF m 147 #[.val (.int p1), .val (.int p2), .val (.long q3), .second, .val (.int p4), .val (.int p5), .val (.int s6), .val (.int m7), .val (.long k8), .second, .val (.int (p4 &&& (3 : Int32))), .val (.ref b2), .val (.int (own_sc m7 63 (k8 / (s6.toInt64)))), .val (.int (own_sc m7 63 ((k8 / (m7.toInt64)) / (s6.toInt64)))), .val (.int (0 : Int32))] [(.int (1 : Int32))])) _
      refine XS.goto X14.here hx rfl (pc0 := 147) (pc' := 151) rfl (hb hby at_147) (by decide) (by decide) ?_
      show Steps p.tables e below (T14.setTop (mkF m 151 #[.val (.int p1), .val (.int p2), .val (.long q3), .second, .val (.int p4), .val (.int p5), .val (.int s6), .val (.int m7), .val (.long k8), .second, .val (.int (p4 &&& (3 : Int32))), .val (.ref b2), .val (.int (own_sc m7 63 (k8 / (s6.toInt64)))), .val (.int (own_sc m7 63 ((k8 / (m7.toInt64)) / (s6.toInt64)))), .val (.int (0 : Int32))] [(.int (1 : Int32))])) _
      exact retN X14 hx (t := .boolean) Bd.returns (by simp) (hb hby at_151) hr
    · show Q_rm0 Z p1 p2 q3 p4 p5 h0 n0 _ T14.heap _
      exact ⟨rfl, N14⟩
  · obtain ⟨fs, hr, hrun, hended, hW, hsame⟩ := X14.leave (v := some (.int (1 : Int32))) (fun h => by rw [Bd.returns] at h; cases h)
    refine ⟨_, _, pre0 _ ?_, hrun, hended, _, _, rfl, ?_, ⟨_, rfl⟩, hW, hsame.mono (by decide) (by decide)⟩
    · show Steps p.tables e below (s₁.setTop (mkF m 0 #[.val (.int p1), .val (.int p2), .val (.long q3), .second, .val (.int p4), .val (.int p5), .unset, .unset, .unset, .unset, .unset, .unset, .unset, .unset, .unset] [])) _
      refine st1 _ ?_
      show Steps p.tables e below (T1.setTop (mkF m 73 #[.val (.int p1), .val (.int p2), .val (.long q3), .second, .val (.int p4), .val (.int p5), .val (.int s6), .val (.int m7), .val (.long k8), .second, .val (.int (p4 &&& (3 : Int32))), .unset, .unset, .unset, .unset] [])) _
      refine st2 _ ?_
      show Steps p.tables e below (T2.setTop (mkF m 76 #[.val (.int p1), .val (.int p2), .val (.long q3), .second, .val (.int p4), .val (.int p5), .val (.int s6), .val (.int m7), .val (.long k8), .second, .val (.int (p4 &&& (3 : Int32))), .unset, .unset, .unset, .unset] [(.ref b2)])) _
      refine XS.dup X2.here hx rfl (hb hby at_76) rfl rfl ?_
      show Steps p.tables e below (T2.setTop (mkF m 77 #[.val (.int p1), .val (.int p2), .val (.long q3), .second, .val (.int p4), .val (.int p5), .val (.int s6), .val (.int m7), .val (.long k8), .second, .val (.int (p4 &&& (3 : Int32))), .unset, .unset, .unset, .unset] [(.ref b2), (.ref b2)])) _
      refine XS.iload X2.here hx rfl (hb hby at_77) rfl ?_
      show Steps p.tables e below (T2.setTop (mkF m 79 #[.val (.int p1), .val (.int p2), .val (.long q3), .second, .val (.int p4), .val (.int p5), .val (.int s6), .val (.int m7), .val (.long k8), .second, .val (.int (p4 &&& (3 : Int32))), .unset, .unset, .unset, .unset] [(.int p5), (.ref b2), (.ref b2)])) _
      refine XS.iload X2.here hx rfl (hb hby at_79) rfl ?_
      show Steps p.tables e below (T2.setTop (mkF m 81 #[.val (.int p1), .val (.int p2), .val (.long q3), .second, .val (.int p4), .val (.int p5), .val (.int s6), .val (.int m7), .val (.long k8), .second, .val (.int (p4 &&& (3 : Int32))), .unset, .unset, .unset, .unset] [(.int s6), (.int p5), (.ref b2), (.ref b2)])) _
      refine XS.iload X2.here hx rfl (hb hby at_81) rfl ?_
      show Steps p.tables e below (T2.setTop (mkF m 83 #[.val (.int p1), .val (.int p2), .val (.long q3), .second, .val (.int p4), .val (.int p5), .val (.int s6), .val (.int m7), .val (.long k8), .second, .val (.int (p4 &&& (3 : Int32))), .unset, .unset, .unset, .unset] [(.int p5), (.int s6), (.int p5), (.ref b2), (.ref b2)])) _
      refine XS.iload X2.here hx rfl (hb hby at_83) rfl ?_
      show Steps p.tables e below (T2.setTop (mkF m 85 #[.val (.int p1), .val (.int p2), .val (.long q3), .second, .val (.int p4), .val (.int p5), .val (.int s6), .val (.int m7), .val (.long k8), .second, .val (.int (p4 &&& (3 : Int32))), .unset, .unset, .unset, .unset] [(.int m7), (.int p5), (.int s6), (.int p5), (.ref b2), (.ref b2)])) _
      refine XS.iload X2.here hx rfl (hb hby at_85) rfl ?_
      show Steps p.tables e below (T2.setTop (mkF m 87 #[.val (.int p1), .val (.int p2), .val (.long q3), .second, .val (.int p4), .val (.int p5), .val (.int s6), .val (.int m7), .val (.long k8), .second, .val (.int (p4 &&& (3 : Int32))), .unset, .unset, .unset, .unset] [(.int p5), (.int m7), (.int p5), (.int s6), (.int p5), (.ref b2), (.ref b2)])) _
      refine XS.iload X2.here hx rfl (hb hby at_87) rfl ?_
      show Steps p.tables e below (T2.setTop (mkF m 89 #[.val (.int p1), .val (.int p2), .val (.long q3), .second, .val (.int p4), .val (.int p5), .val (.int s6), .val (.int m7), .val (.long k8), .second, .val (.int (p4 &&& (3 : Int32))), .unset, .unset, .unset, .unset] [(.int p5), (.int p5), (.int m7), (.int p5), (.int s6), (.int p5), (.ref b2), (.ref b2)])) _
      refine st10.trans ?_
      show Steps p.tables e below (T10.setTop (mkF m 92 #[.val (.int p1), .val (.int p2), .val (.long q3), .second, .val (.int p4), .val (.int p5), .val (.int s6), .val (.int m7), .val (.long k8), .second, .val (.int (p4 &&& (3 : Int32))), .unset, .unset, .unset, .unset] [(.ref b2)])) _
      refine XS.astore X10.here hx rfl (hb hby at_92) rfl rfl (l' := #[.val (.int p1), .val (.int p2), .val (.long q3), .second, .val (.int p4), .val (.int p5), .val (.int s6), .val (.int m7), .val (.long k8), .second, .val (.int (p4 &&& (3 : Int32))), .val (.ref b2), .unset, .unset, .unset]) rfl ?_
      show Steps p.tables e below (T10.setTop (mkF m 94 #[.val (.int p1), .val (.int p2), .val (.long q3), .second, .val (.int p4), .val (.int p5), .val (.int s6), .val (.int m7), .val (.long k8), .second, .val (.int (p4 &&& (3 : Int32))), .val (.ref b2), .unset, .unset, .unset] [])) _
      refine XS.aload X10.here hx rfl (hb hby at_94) rfl rfl ?_
      show Steps p.tables e below (T10.setTop (mkF m 96 #[.val (.int p1), .val (.int p2), .val (.long q3), .second, .val (.int p4), .val (.int p5), .val (.int s6), .val (.int m7), .val (.long k8), .second, .val (.int (p4 &&& (3 : Int32))), .val (.ref b2), .unset, .unset, .unset] [(.ref b2)])) _
      refine XS.lload X10.here hx rfl (hb hby at_96) rfl ?_
      show Steps p.tables e below (T10.setTop (mkF m 98 #[.val (.int p1), .val (.int p2), .val (.long q3), .second, .val (.int p4), .val (.int p5), .val (.int s6), .val (.int m7), .val (.long k8), .second, .val (.int (p4 &&& (3 : Int32))), .val (.ref b2), .unset, .unset, .unset] [(.long k8), (.ref b2)])) _
      refine st12.trans ?_
      show Steps p.tables e below (T12.setTop (mkF m 101 #[.val (.int p1), .val (.int p2), .val (.long q3), .second, .val (.int p4), .val (.int p5), .val (.int s6), .val (.int m7), .val (.long k8), .second, .val (.int (p4 &&& (3 : Int32))), .val (.ref b2), .unset, .unset, .unset] [(.int (own_sc m7 63 (k8 / (s6.toInt64))))])) _
      refine XS.istore X12.here hx rfl (hb hby at_101) rfl (l' := #[.val (.int p1), .val (.int p2), .val (.long q3), .second, .val (.int p4), .val (.int p5), .val (.int s6), .val (.int m7), .val (.long k8), .second, .val (.int (p4 &&& (3 : Int32))), .val (.ref b2), .val (.int (own_sc m7 63 (k8 / (s6.toInt64)))), .unset, .unset]) rfl ?_
      show Steps p.tables e below (T12.setTop (mkF m 103 #[.val (.int p1), .val (.int p2), .val (.long q3), .second, .val (.int p4), .val (.int p5), .val (.int s6), .val (.int m7), .val (.long k8), .second, .val (.int (p4 &&& (3 : Int32))), .val (.ref b2), .val (.int (own_sc m7 63 (k8 / (s6.toInt64)))), .unset, .unset] [])) _
      refine XS.aload X12.here hx rfl (hb hby at_103) rfl rfl ?_
      show Steps p.tables e below (T12.setTop (mkF m 105 #[.val (.int p1), .val (.int p2), .val (.long q3), .second, .val (.int p4), .val (.int p5), .val (.int s6), .val (.int m7), .val (.long k8), .second, .val (.int (p4 &&& (3 : Int32))), .val (.ref b2), .val (.int (own_sc m7 63 (k8 / (s6.toInt64)))), .unset, .unset] [(.ref b2)])) _
      refine XS.lload X12.here hx rfl (hb hby at_105) rfl ?_
      show Steps p.tables e below (T12.setTop (mkF m 107 #[.val (.int p1), .val (.int p2), .val (.long q3), .second, .val (.int p4), .val (.int p5), .val (.int s6), .val (.int m7), .val (.long k8), .second, .val (.int (p4 &&& (3 : Int32))), .val (.ref b2), .val (.int (own_sc m7 63 (k8 / (s6.toInt64)))), .unset, .unset] [(.long k8), (.ref b2)])) _
      refine XS.iload X12.here hx rfl (hb hby at_107) rfl ?_
      show Steps p.tables e below (T12.setTop (mkF m 109 #[.val (.int p1), .val (.int p2), .val (.long q3), .second, .val (.int p4), .val (.int p5), .val (.int s6), .val (.int m7), .val (.long k8), .second, .val (.int (p4 &&& (3 : Int32))), .val (.ref b2), .val (.int (own_sc m7 63 (k8 / (s6.toInt64)))), .unset, .unset] [(.int m7), (.long k8), (.ref b2)])) _
      refine XS.i2l X12.here hx rfl (hb hby at_109) rfl ?_
      show Steps p.tables e below (T12.setTop (mkF m 110 #[.val (.int p1), .val (.int p2), .val (.long q3), .second, .val (.int p4), .val (.int p5), .val (.int s6), .val (.int m7), .val (.long k8), .second, .val (.int (p4 &&& (3 : Int32))), .val (.ref b2), .val (.int (own_sc m7 63 (k8 / (s6.toInt64)))), .unset, .unset] [(.long (m7.toInt64)), (.long k8), (.ref b2)])) _
      refine XS.ldiv X12.here hx rfl (hb hby at_110) rfl (own_mz hm) ?_
      show Steps p.tables e below (T12.setTop (mkF m 111 #[.val (.int p1), .val (.int p2), .val (.long q3), .second, .val (.int p4), .val (.int p5), .val (.int s6), .val (.int m7), .val (.long k8), .second, .val (.int (p4 &&& (3 : Int32))), .val (.ref b2), .val (.int (own_sc m7 63 (k8 / (s6.toInt64)))), .unset, .unset] [(.long (k8 / (m7.toInt64))), (.ref b2)])) _
      refine st14.trans ?_
      show Steps p.tables e below (T14.setTop (mkF m 114 #[.val (.int p1), .val (.int p2), .val (.long q3), .second, .val (.int p4), .val (.int p5), .val (.int s6), .val (.int m7), .val (.long k8), .second, .val (.int (p4 &&& (3 : Int32))), .val (.ref b2), .val (.int (own_sc m7 63 (k8 / (s6.toInt64)))), .unset, .unset] [(.int (own_sc m7 63 ((k8 / (m7.toInt64)) / (s6.toInt64))))])) _
      refine XS.istore X14.here hx rfl (hb hby at_114) rfl (l' := #[.val (.int p1), .val (.int p2), .val (.long q3), .second, .val (.int p4), .val (.int p5), .val (.int s6), .val (.int m7), .val (.long k8), .second, .val (.int (p4 &&& (3 : Int32))), .val (.ref b2), .val (.int (own_sc m7 63 (k8 / (s6.toInt64)))), .val (.int (own_sc m7 63 ((k8 / (m7.toInt64)) / (s6.toInt64)))), .unset]) rfl ?_
      show Steps p.tables e below (T14.setTop (mkF m 116 #[.val (.int p1), .val (.int p2), .val (.long q3), .second, .val (.int p4), .val (.int p5), .val (.int s6), .val (.int m7), .val (.long k8), .second, .val (.int (p4 &&& (3 : Int32))), .val (.ref b2), .val (.int (own_sc m7 63 (k8 / (s6.toInt64)))), .val (.int (own_sc m7 63 ((k8 / (m7.toInt64)) / (s6.toInt64)))), .unset] [])) _
      refine XS.lload X14.here hx rfl (hb hby at_116) rfl ?_
      show Steps p.tables e below (T14.setTop (mkF m 118 #[.val (.int p1), .val (.int p2), .val (.long q3), .second, .val (.int p4), .val (.int p5), .val (.int s6), .val (.int m7), .val (.long k8), .second, .val (.int (p4 &&& (3 : Int32))), .val (.ref b2), .val (.int (own_sc m7 63 (k8 / (s6.toInt64)))), .val (.int (own_sc m7 63 ((k8 / (m7.toInt64)) / (s6.toInt64)))), .unset] [(.long k8)])) _
      refine XS.iload X14.here hx rfl (hb hby at_118) rfl ?_
      show Steps p.tables e below (T14.setTop (mkF m 120 #[.val (.int p1), .val (.int p2), .val (.long q3), .second, .val (.int p4), .val (.int p5), .val (.int s6), .val (.int m7), .val (.long k8), .second, .val (.int (p4 &&& (3 : Int32))), .val (.ref b2), .val (.int (own_sc m7 63 (k8 / (s6.toInt64)))), .val (.int (own_sc m7 63 ((k8 / (m7.toInt64)) / (s6.toInt64)))), .unset] [(.int s6), (.long k8)])) _
      refine XS.i2l X14.here hx rfl (hb hby at_120) rfl ?_
      show Steps p.tables e below (T14.setTop (mkF m 121 #[.val (.int p1), .val (.int p2), .val (.long q3), .second, .val (.int p4), .val (.int p5), .val (.int s6), .val (.int m7), .val (.long k8), .second, .val (.int (p4 &&& (3 : Int32))), .val (.ref b2), .val (.int (own_sc m7 63 (k8 / (s6.toInt64)))), .val (.int (own_sc m7 63 ((k8 / (m7.toInt64)) / (s6.toInt64)))), .unset] [(.long (s6.toInt64)), (.long k8)])) _
      refine XS.ldiv X14.here hx rfl (hb hby at_121) rfl (own_sz hs) ?_
      show Steps p.tables e below (T14.setTop (mkF m 122 #[.val (.int p1), .val (.int p2), .val (.long q3), .second, .val (.int p4), .val (.int p5), .val (.int s6), .val (.int m7), .val (.long k8), .second, .val (.int (p4 &&& (3 : Int32))), .val (.ref b2), .val (.int (own_sc m7 63 (k8 / (s6.toInt64)))), .val (.int (own_sc m7 63 ((k8 / (m7.toInt64)) / (s6.toInt64)))), .unset] [(.long (k8 / (s6.toInt64)))])) _
      refine XS.iload X14.here hx rfl (hb hby at_122) rfl ?_
      show Steps p.tables e below (T14.setTop (mkF m 124 #[.val (.int p1), .val (.int p2), .val (.long q3), .second, .val (.int p4), .val (.int p5), .val (.int s6), .val (.int m7), .val (.long k8), .second, .val (.int (p4 &&& (3 : Int32))), .val (.ref b2), .val (.int (own_sc m7 63 (k8 / (s6.toInt64)))), .val (.int (own_sc m7 63 ((k8 / (m7.toInt64)) / (s6.toInt64)))), .unset] [(.int m7), (.long (k8 / (s6.toInt64)))])) _
      refine XS.i2l X14.here hx rfl (hb hby at_124) rfl ?_
      show Steps p.tables e below (T14.setTop (mkF m 125 #[.val (.int p1), .val (.int p2), .val (.long q3), .second, .val (.int p4), .val (.int p5), .val (.int s6), .val (.int m7), .val (.long k8), .second, .val (.int (p4 &&& (3 : Int32))), .val (.ref b2), .val (.int (own_sc m7 63 (k8 / (s6.toInt64)))), .val (.int (own_sc m7 63 ((k8 / (m7.toInt64)) / (s6.toInt64)))), .unset] [(.long (m7.toInt64)), (.long (k8 / (s6.toInt64)))])) _
      refine XS.lcmp X14.here hx rfl (hb hby at_125) rfl ?_
      show Steps p.tables e below (T14.setTop (mkF m 126 #[.val (.int p1), .val (.int p2), .val (.long q3), .second, .val (.int p4), .val (.int p5), .val (.int s6), .val (.int m7), .val (.long k8), .second, .val (.int (p4 &&& (3 : Int32))), .val (.ref b2), .val (.int (own_sc m7 63 (k8 / (s6.toInt64)))), .val (.int (own_sc m7 63 ((k8 / (m7.toInt64)) / (s6.toInt64)))), .unset] [(.int (lcmpW (k8 / (s6.toInt64)) (m7.toInt64)))])) _
      refine XS.ifNo X14.here hx rfl (hb hby at_126) rfl ((if0 _ _).trans (flt (fun q_ => hc1 ((lw_lt _ _).mp q_))).1) ?_
      show Steps p.tables e below (T14.setTop (mkF m 129 #[.val (.int p1), .val (.int p2), .val (.long q3), .second, .val (.int p4), .val (.int p5), .val (.int s6), .val (.int m7), .val (.long k8), .second, .val (.int (p4 &&& (3 : Int32))), .val (.ref b2), .val (.int (own_sc m7 63 (k8 / (s6.toInt64)))), .val (.int (own_sc m7 63 ((k8 / (m7.toInt64)) / (s6.toInt64)))), .unset] [])) _
      refine XS.iconst X14.here hx rfl (hb hby at_129) ?_
      show Steps p.tables e below (T14.setTop (mkF m 130 #[.val (.int p1), .val (.int p2), .val (.long q3), .second, .val (.int p4), .val (.int p5), .val (.int s6), .val (.int m7), .val (.long k8), .second, .val (.int (p4 &&& (3 : Int32))), .val (.ref b2), .val (.int (own_sc m7 63 (k8 / (s6.toInt64)))), .val (.int (own_sc m7 63 ((k8 / (m7.toInt64)) / (s6.toInt64)))), .unset] [(.int (1 : Int32))])) _
      refine XS.iload X14.here hx rfl (hb hby at_130) rfl ?_
      show Steps p.tables e below (T14.setTop (mkF m 132 #[.val (.int p1), .val (.int p2), .val (.long q3), .second, .val (.int p4), .val (.int p5), .val (.int s6), .val (.int m7), .val (.long k8), .second, .val (.int (p4 &&& (3 : Int32))), .val (.ref b2), .val (.int (own_sc m7 63 (k8 / (s6.toInt64)))), .val (.int (own_sc m7 63 ((k8 / (m7.toInt64)) / (s6.toInt64)))), .unset] [(.int (own_sc m7 63 ((k8 / (m7.toInt64)) / (s6.toInt64)))), (.int (1 : Int32))])) _
      refine XS.iadd X14.here hx rfl (hb hby at_132) rfl ?_
      show Steps p.tables e below (T14.setTop (mkF m 133 #[.val (.int p1), .val (.int p2), .val (.long q3), .second, .val (.int p4), .val (.int p5), .val (.int s6), .val (.int m7), .val (.long k8), .second, .val (.int (p4 &&& (3 : Int32))), .val (.ref b2), .val (.int (own_sc m7 63 (k8 / (s6.toInt64)))), .val (.int (own_sc m7 63 ((k8 / (m7.toInt64)) / (s6.toInt64)))), .unset] [(.int ((1 : Int32) + (own_sc m7 63 ((k8 / (m7.toInt64)) / (s6.toInt64)))))])) _
      refine XS.goto X14.here hx rfl (pc0 := 133) (pc' := 137) rfl (hb hby at_133) (by decide) (by decide) ?_
      show Steps p.tables e below (T14.setTop (mkF m 137 #[.val (.int p1), .val (.int p2), .val (.long q3), .second, .val (.int p4), .val (.int p5), .val (.int s6), .val (.int m7), .val (.long k8), .second, .val (.int (p4 &&& (3 : Int32))), .val (.ref b2), .val (.int (own_sc m7 63 (k8 / (s6.toInt64)))), .val (.int (own_sc m7 63 ((k8 / (m7.toInt64)) / (s6.toInt64)))), .unset] [(.int ((1 : Int32) + (own_sc m7 63 ((k8 / (m7.toInt64)) / (s6.toInt64)))))])) _
      refine XS.istore X14.here hx rfl (hb hby at_137) rfl (l' := #[.val (.int p1), .val (.int p2), .val (.long q3), .second, .val (.int p4), .val (.int p5), .val (.int s6), .val (.int m7), .val (.long k8), .second, .val (.int (p4 &&& (3 : Int32))), .val (.ref b2), .val (.int (own_sc m7 63 (k8 / (s6.toInt64)))), .val (.int (own_sc m7 63 ((k8 / (m7.toInt64)) / (s6.toInt64)))), .val (.int ((1 : Int32) + (own_sc m7 63 ((k8 / (m7.toInt64)) / (s6.toInt64)))))]) rfl ?_
      show Steps p.tables e below (T14.setTop (mkF m 139 #[.val (.int p1), .val (.int p2), .val (.long q3), .second, .val (.int p4), .val (.int p5), .val (.int s6), .val (.int m7), .val (.long k8), .second, .val (.int (p4 &&& (3 : Int32))), .val (.ref b2), .val (.int (own_sc m7 63 (k8 / (s6.toInt64)))), .val (.int (own_sc m7 63 ((k8 / (m7.toInt64)) / (s6.toInt64)))), .val (.int ((1 : Int32) + (own_sc m7 63 ((k8 / (m7.toInt64)) / (s6.toInt64)))))] [])) _
      refine XS.iload X14.here hx rfl (hb hby at_139) rfl ?_
      show Steps p.tables e below (T14.setTop (mkF m 141 #[.val (.int p1), .val (.int p2), .val (.long q3), .second, .val (.int p4), .val (.int p5), .val (.int s6), .val (.int m7), .val (.long k8), .second, .val (.int (p4 &&& (3 : Int32))), .val (.ref b2), .val (.int (own_sc m7 63 (k8 / (s6.toInt64)))), .val (.int (own_sc m7 63 ((k8 / (m7.toInt64)) / (s6.toInt64)))), .val (.int ((1 : Int32) + (own_sc m7 63 ((k8 / (m7.toInt64)) / (s6.toInt64)))))] [(.int (own_sc m7 63 (k8 / (s6.toInt64))))])) _
      refine XS.iload X14.here hx rfl (hb hby at_141) rfl ?_
      show Steps p.tables e below (T14.setTop (mkF m 143 #[.val (.int p1), .val (.int p2), .val (.long q3), .second, .val (.int p4), .val (.int p5), .val (.int s6), .val (.int m7), .val (.long k8), .second, .val (.int (p4 &&& (3 : Int32))), .val (.ref b2), .val (.int (own_sc m7 63 (k8 / (s6.toInt64)))), .val (.int (own_sc m7 63 ((k8 / (m7.toInt64)) / (s6.toInt64)))), .val (.int ((1 : Int32) + (own_sc m7 63 ((k8 / (m7.toInt64)) / (s6.toInt64)))))] [(.int ((1 : Int32) + (own_sc m7 63 ((k8 / (m7.toInt64)) / (s6.toInt64))))), (.int (own_sc m7 63 (k8 / (s6.toInt64))))])) _
      refine XS.icmpNo X14.here hx rfl (hb hby at_143) rfl (teq (own_law1 hs hm hc1)).2 ?_
      show Steps p.tables e below (T14.setTop (mkF m 146 #[.val (.int p1), .val (.int p2), .val (.long q3), .second, .val (.int p4), .val (.int p5), .val (.int s6), .val (.int m7), .val (.long k8), .second, .val (.int (p4 &&& (3 : Int32))), .val (.ref b2), .val (.int (own_sc m7 63 (k8 / (s6.toInt64)))), .val (.int (own_sc m7 63 ((k8 / (m7.toInt64)) / (s6.toInt64)))), .val (.int ((1 : Int32) + (own_sc m7 63 ((k8 / (m7.toInt64)) / (s6.toInt64)))))] [])) _
      refine XS.iconst X14.here hx rfl (hb hby at_146) ?_
      show Steps p.tables e below (T14.setTop (mkF m 147 #[.val (.int p1), .val (.int p2), .val (.long q3), .second, .val (.int p4), .val (.int p5), .val (.int s6), .val (.int m7), .val (.long k8), .second, .val (.int (p4 &&& (3 : Int32))), .val (.ref b2), .val (.int (own_sc m7 63 (k8 / (s6.toInt64)))), .val (.int (own_sc m7 63 ((k8 / (m7.toInt64)) / (s6.toInt64)))), .val (.int ((1 : Int32) + (own_sc m7 63 ((k8 / (m7.toInt64)) / (s6.toInt64)))))] [(.int (1 : Int32))])) _
      refine XS.goto X14.here hx rfl (pc0 := 147) (pc' := 151) rfl (hb hby at_147) (by decide) (by decide) ?_
      show Steps p.tables e below (T14.setTop (mkF m 151 #[.val (.int p1), .val (.int p2), .val (.long q3), .second, .val (.int p4), .val (.int p5), .val (.int s6), .val (.int m7), .val (.long k8), .second, .val (.int (p4 &&& (3 : Int32))), .val (.ref b2), .val (.int (own_sc m7 63 (k8 / (s6.toInt64)))), .val (.int (own_sc m7 63 ((k8 / (m7.toInt64)) / (s6.toInt64)))), .val (.int ((1 : Int32) + (own_sc m7 63 ((k8 / (m7.toInt64)) / (s6.toInt64)))))] [(.int (1 : Int32))])) _
      exact retN X14 hx (t := .boolean) Bd.returns (by simp) (hb hby at_151) hr
    · show Q_rm0 Z p1 p2 q3 p4 p5 h0 n0 _ T14.heap _
      exact ⟨rfl, N14⟩
set_option maxRecDepth 65536 in
set_option maxHeartbeats 40000000 in
theorem comes_1 {Post : Tables → Env → Array Value → State → Outcome → State → Prop} (hpost : ∀ tb e args s v u, (limb_1_1.after args s (.returned v) u = true ∧ limb_1_2.after args s (.returned v) u = true ∧ True) → FrameEnd s (.returned v) u (Jvm.fieldLocs frame_1_writes args s ++ Jvm.arrayLocs frame_1_arrays args s ++ Jvm.staticLocs frame_1_statics s) 16 128 → Post tb e args s (.returned v) u) :
    ArmFor flags0 classFile x code maxLocals ret World_1 tables_1 room_1 Calls_1 rest_1 Pre_1 Post := by
  intro l hfl _ _ p e ha hc hk s m args below hf hA hF happ hP
  obtain ⟨hcalls, hrest, hpre⟩ := hP
  obtain ⟨-, -, -, hnamed, -, -, -, hat⟩ := (Spec.applies_iff hf).mp happ
  obtain ⟨hg, hn⟩ := and_e (Cond.before_iff.mp (show (Jvm.Cond.and given_1 narrow_1).before args s = true from hpre))
  obtain ⟨gg1, gg2⟩ := and_e hg
  obtain ⟨gg3, gg4⟩ := and_e gg2
  obtain ⟨gg5, gg6⟩ := and_e gg4
  obtain ⟨gg7, gg8⟩ := and_e gg6
  obtain ⟨gg9, gg10⟩ := and_e gg8
  obtain ⟨w0, w1, w2, w3, w4, rfl⟩ : ∃ w0 w1 w2 w3 w4 : Value, args = #[w0, w1, w2, w3, w4] := by
    have hs : args.size = 5 := by simpa [Cond.value, given_1] using gg1
    obtain ⟨L⟩ := args
    match L, hs with
    | [w0, w1, w2, w3, w4], _ => exact ⟨w0, w1, w2, w3, w4, rfl⟩
  have hw := fun d (hd : d ∈ tables_1) => atoms_spec (ws := Jvm.Cond.code x code maxLocals ret :: tables_1) hat d (List.mem_cons_of_mem _ hd)
  have hfit : Fit s := fun {y c} hc i hi => by
    obtain ⟨ha, rfl⟩ := Array.getElem?_eq_some_iff.mp hc
    have q := List.all_eq_true.mp ((Array.all_eq_true_iff_forall_mem.mp hF) _ (Array.getElem_mem ha)) i (List.mem_range.mpr hi)
    simpa [Array.getElem?_eq_getElem hi] using q
  obtain ⟨i0, ei0⟩ := is_v gg3
  obtain rfl : w0 = (.int i0) := Option.some.inj ei0
  obtain ⟨i1, ei1⟩ := is_v gg5
  obtain rfl : w1 = (.int i1) := Option.some.inj ei1
  obtain ⟨i2, ei2⟩ := isL_v gg7
  obtain rfl : w2 = (.long i2) := Option.some.inj ei2
  obtain ⟨i3, ei3⟩ := is_v gg9
  obtain rfl : w3 = (.int i3) := Option.some.inj ei3
  obtain ⟨i4, ei4⟩ := is_v gg10
  obtain rfl : w4 = (.int i4) := Option.some.inj ei4
  obtain ⟨n, o, h1, h2, h3, _, L, rfl, ⟨rfl, N⟩, hq⟩ := rm0 l s _ hw tables_1 i0 i1 i2 i3 i4 s.heap s.heap.size (Nat.le_refl _) p e ha hc hk s m _ below hf ((Spec.applies_iff_loose hf).mp happ).1 ⟨rfl, State.Warmed39.refl s, rfl⟩ trivial
  refine ⟨n, _, h1, h2, h3, hpost _ _ _ _ _ _ ⟨Cond.after_iff.mpr rfl, Cond.after_iff.mpr (eq_i res_at (Term.int_eval (1)) rfl), trivial⟩ ⟨hq.1, hq.2.1, (hq.2.2.sift fun y hy => Or.inr (N y hy)).mono (by decide) (by decide)⟩⟩
theorem main_1_1 : Claimed_1_1 := comes_1 fun _ _ _ _ _ _ h hF => ⟨h.1, hF⟩
theorem main_1_2 : Claimed_1_2 := comes_1 fun _ _ _ _ _ _ h hF => ⟨h.2.1, hF⟩
end Jvm.Pilot.@@N@@
namespace Jvm.Pilot.@@N@@
open Jvm Jvm.ClassFile Sem Op Lib Jvm.Free Jvm.Stand Jvm.Pilot.@@N@@.Jvm.D
/-! MADE BY PROGRAM (witnessworld.py) out of the Statement's table words and the real class files: 10 classes; the members and pool entries that the words name. The judged class is class 1, her method 1. -/
namespace start1
open Jvm.ClassFile
def u (s : String) : CpInfo := .utf8 (stringToUtf16 s)
/-- a pool by its gaps: so many unusable entries, then the entry; so many at the end -/
def gap : Nat → List CpInfo → List CpInfo
  | 0, r => r
  | n + 1, r => .unusable :: gap n r
def poolList (es : List (Nat × CpInfo)) (last : Nat) : List CpInfo := es.foldr (fun e r => gap e.1 (e.2 :: r)) (gap last [])
def pool (es : List (Nat × CpInfo)) (last : Nat) : Array CpInfo := ⟨poolList es last⟩
def fileOf (pool : Array CpInfo) (this : Nat) (attrs : Array Attribute := #[]) (ms : Array MethodInfo := #[]) (fl : Nat := 33) (sup : Nat := 0) (ifs : Array Nat := #[]) (fds : Array FieldInfo := #[]) : ClassFile where
  minorVersion := 0
  majorVersion := 65
  constantPool := pool
  accessFlags := fl
  thisClass := this
  superClass := sup
  interfaces := ifs
  fields := fds
  methods := ms
  attributes := attrs
def plain (name : String) (sup : Option ClassId) : Class where
  name := name
  kind := .ordinary
  loader := none
  accessFlags := 33
  super := sup
  interfaces := #[]
  cf := none
  fields := #[]
  methods := #[]
  instanceTypes := #[]
  staticTypes := #[]
  resolved := #[]
  callSites := []
  init := .initialized
  statics := none
  mirror := none

def pool0 : Array CpInfo := pool [(5, u "<init>"), (0, u "()V"), (1, .class_ 10), (1, u "java/lang/Object")] 113

def k0c0 : Code := { maxStack := 0, maxLocals := 1, code := object_method_1_code, exceptionTable := #[], attributes := #[] }
def k0m0 : Method := { name := "<init>", desc := "()V", sig := { parameters := [], returnType := none }, accessFlags := 1, code := some k0c0 }
/-- java/lang/Object -/
def k0 : Class := { plain "java/lang/Object" none with
  accessFlags := 33
  interfaces := #[]
  cf := some (fileOf pool0 8 #[] #[{ accessFlags := 1, nameIndex := 5, descriptorIndex := 6, attributes := #[] }] 33 0 #[] #[])
  fields := #[]
  methods := #[k0m0]
  instanceTypes := #[]
  staticTypes := #[]
  resolved := Array.replicate 124 none
  statics := none }

def pool1 : Array CpInfo := pool [(2, .class_ 4), (1, u "java/lang/Object"), (0, u "<init>"), (0, u "()V"), (0, .integer 2147483647), (0, .class_ 9), (0, u "com/example/allotd/allotd/store/CountedRequests$Compaction"), (0, .methodref 8 11), (0, .nameAndType 5 12), (0, u "(IIIIII)V"), (0, .methodref 8 14), (0, .nameAndType 15 16), (0, u "sizeClass"), (0, u "(J)I"), (0, .class_ 18), (0, u "com/example/allotd/allotd/store/CompactionSizeClassPinLaw"), (2, u "law"), (0, u "(IIJII)Z")] 7

def k1m0 : Method := { name := "<init>", desc := "()V", sig := { parameters := [], returnType := none }, accessFlags := 1, code := none }
def k1c1 : Code := { maxStack := 8, maxLocals := 15, code := code, exceptionTable := #[], attributes := #[] }
def k1m1 : Method := { name := "law", desc := "(IIJII)Z", sig := { parameters := [.int, .int, .long, .int, .int], returnType := some .boolean }, accessFlags := 9, code := some k1c1 }
/-- com/example/allotd/allotd/store/CompactionSizeClassPinLaw -/
def k1 : Class := { plain "com/example/allotd/allotd/store/CompactionSizeClassPinLaw" (some 0) with
  accessFlags := 49
  interfaces := #[]
  cf := some (fileOf pool1 17 #[] #[{ accessFlags := 1, nameIndex := 5, descriptorIndex := 6, attributes := #[] }, { accessFlags := 9, nameIndex := 21, descriptorIndex := 22, attributes := #[] }] 49 2 #[] #[])
  fields := #[]
  methods := #[k1m0, k1m1]
  instanceTypes := #[]
  staticTypes := #[]
  resolved := Array.replicate 30 none
  statics := none }

def pool2 : Array CpInfo := pool [(1, .methodref 2 3), (0, .class_ 4), (0, .nameAndType 5 6), (0, u "java/lang/Object"), (0, u "<init>"), (0, u "()V"), (0, .class_ 8), (0, u "java/lang/Record")] 13

def k2c0 : Code := { maxStack := 1, maxLocals := 1, code := jdk_30_method_1_code, exceptionTable := #[], attributes := #[] }
def k2m0 : Method := { name := "<init>", desc := "()V", sig := { parameters := [], returnType := none }, accessFlags := 4, code := some k2c0 }
/-- java/lang/Record -/
def k2 : Class := { plain "java/lang/Record" (some 0) with
  accessFlags := 1057
  interfaces := #[]
  cf := some (fileOf pool2 7 #[] #[{ accessFlags := 4, nameIndex := 5, descriptorIndex := 6, attributes := #[] }] 1057 2 #[] #[])
  fields := #[]
  methods := #[k2m0]
  instanceTypes := #[]
  staticTypes := #[]
  resolved := Array.replicate 22 none
  statics := none }

def pool3 : Array CpInfo := pool [(1, .methodref 2 3), (0, .class_ 4), (0, .nameAndType 5 6), (0, u "java/lang/Record"), (0, u "<init>"), (0, u "()V"), (0, .fieldref 8 9), (0, .class_ 10), (0, .nameAndType 11 12), (0, u "com/example/allotd/allotd/store/CountedRequests$Compaction"), (0, u "every"), (0, u "I"), (0, .fieldref 8 14), (0, .nameAndType 15 12), (0, u "sealAt"), (0, .fieldref 8 17), (0, .nameAndType 18 12), (0, u "sealAtMost"), (0, .fieldref 8 20), (0, .nameAndType 21 12), (0, u "mergeWidth"), (0, .fieldref 8 23), (0, .nameAndType 24 12), (0, u "stepKeys"), (0, .fieldref 8 26), (0, .nameAndType 27 12), (0, u "bucketKeys"), (14, u "(IIIIII)V"), (2, u "DEFAULT"), (0, u "Lcom/example/allotd/allotd/store/CountedRequests$Compaction;"), (4, u "(J)I"), (1, u "sizeClass"), (7, .class_ 62), (0, u "com/example/allotd/allotd/store/CountedRequests")] 24

def k3c0 : Code := { maxStack := 2, maxLocals := 7, code := prog_57_method_1_code, exceptionTable := #[], attributes := #[] }
def k3m0 : Method := { name := "<init>", desc := "(IIIIII)V", sig := { parameters := [.int, .int, .int, .int, .int, .int], returnType := none }, accessFlags := 0, code := some k3c0 }
def k3c1 : Code := { maxStack := 4, maxLocals := 6, code := prog_57_method_3_code, exceptionTable := #[], attributes := #[] }
def k3m1 : Method := { name := "sizeClass", desc := "(J)I", sig := { parameters := [.long], returnType := some .int }, accessFlags := 0, code := some k3c1 }
/-- com/example/allotd/allotd/store/CountedRequests$Compaction -/
def k3 : Class := { plain "com/example/allotd/allotd/store/CountedRequests$Compaction" (some 2) with
  accessFlags := 48
  interfaces := #[]
  cf := some (fileOf pool3 8 #[.nestHost 61] #[{ accessFlags := 0, nameIndex := 5, descriptorIndex := 42, attributes := #[] }, { accessFlags := 0, nameIndex := 53, descriptorIndex := 51, attributes := #[] }] 48 2 #[] #[{ accessFlags := 18, nameIndex := 11, descriptorIndex := 12, attributes := #[] }, { accessFlags := 18, nameIndex := 15, descriptorIndex := 12, attributes := #[] }, { accessFlags := 18, nameIndex := 18, descriptorIndex := 12, attributes := #[] }, { accessFlags := 18, nameIndex := 21, descriptorIndex := 12, attributes := #[] }, { accessFlags := 18, nameIndex := 24, descriptorIndex := 12, attributes := #[] }, { accessFlags := 18, nameIndex := 27, descriptorIndex := 12, attributes := #[] }, { accessFlags := 24, nameIndex := 45, descriptorIndex := 46, attributes := #[] }])
  fields := #[{ name := "every", type := .int, accessFlags := 18, slot := 0, constantValue := 0 }, { name := "sealAt", type := .int, accessFlags := 18, slot := 1, constantValue := 0 }, { name := "sealAtMost", type := .int, accessFlags := 18, slot := 2, constantValue := 0 }, { name := "mergeWidth", type := .int, accessFlags := 18, slot := 3, constantValue := 0 }, { name := "stepKeys", type := .int, accessFlags := 18, slot := 4, constantValue := 0 }, { name := "bucketKeys", type := .int, accessFlags := 18, slot := 5, constantValue := 0 }, { name := "DEFAULT", type := (.object "com/example/allotd/allotd/store/CountedRequests$Compaction"), accessFlags := 24, slot := 0, constantValue := 0 }]
  methods := #[k3m0, k3m1]
  instanceTypes := #[.int, .int, .int, .int, .int, .int]
  staticTypes := #[(.object "com/example/allotd/allotd/store/CountedRequests$Compaction")]
  resolved := Array.replicate 87 none
  statics := none }

def pool4 : Array CpInfo := pool [(1, u "java/lang/Cloneable"), (0, .class_ 1), (0, u "java/lang/Object"), (0, .class_ 3)] 3

/-- java/lang/Cloneable -/
def k4 : Class := { plain "java/lang/Cloneable" (some 0) with
  accessFlags := 1537
  interfaces := #[]
  cf := some (fileOf pool4 2 #[] #[] 1537 4 #[] #[])
  fields := #[]
  methods := #[]
  instanceTypes := #[]
  staticTypes := #[]
  resolved := Array.replicate 8 none
  statics := none }

def pool5 : Array CpInfo := pool [(1, u "java/io/Serializable"), (0, .class_ 1), (0, u "java/lang/Object"), (0, .class_ 3)] 3

/-- java/io/Serializable -/
def k5 : Class := { plain "java/io/Serializable" (some 0) with
  accessFlags := 1537
  interfaces := #[]
  cf := some (fileOf pool5 2 #[] #[] 1537 4 #[] #[])
  fields := #[]
  methods := #[]
  instanceTypes := #[]
  staticTypes := #[]
  resolved := Array.replicate 8 none
  statics := none }

/-- the primitive byte -/
def k6 : Class := { plain "byte" none with kind := .primitive 'B', accessFlags := 0x411 }
/-- [B -/
def k7 : Class := { plain "[B" (some 0) with kind := .array 6 .byte, interfaces := #[4, 5], accessFlags := 1041 }

/-- the primitive int -/
def k8 : Class := { plain "int" none with kind := .primitive 'I', accessFlags := 0x411 }
/-- [I -/
def k9 : Class := { plain "[I" (some 0) with kind := .array 8 .int, interfaces := #[4, 5], accessFlags := 1041 }

def heap : Heap := #[]
def classes : Array Class := #[k0, k1, k2, k3, k4, k5, k6, k7, k8, k9]
def interned : List (Array UInt16 × Addr) := []
def slotsUsed : Nat := 0
def theMethod : MethodId := ⟨1, 1⟩
def args0 : Array Value := #[.int 3, .int 4, .long 100, .int 0, .int 5]
def aboutOver (below : List Frame) : State where
  vm := { classes := classes, interned := interned.toArray }
  heap := heap
  slotsUsed := slotsUsed
  threads := #[{ frames := .invoking theMethod args0 :: below }]
def below0 : List Frame := [.native { method := ⟨0, 0⟩, args := #[] }]
def about1 : State := aboutOver below0
def p0 : Program := .bare "" "" ""
def e0 : Env := launch0.env 0 0 0
theorem w_frames : about1.frames = Frame.invoking theMethod args0 :: below0 := rfl
set_option maxRecDepth 65536 in
theorem w_args : argsFit about1.vm theMethod args0 = true := by decide +kernel
set_option maxRecDepth 65536 in
theorem w_heap : heapFits about1 = true := by decide +kernel
set_option maxRecDepth 65536 in
theorem w_runnable : about1.curStatus? = some .runnable := by decide +kernel
set_option maxRecDepth 65536 in
theorem w_alone : about1.alone = true := by decide +kernel
set_option maxRecDepth 65536 in
theorem w_named : about1.methodNamed? x = some theMethod := by decide +kernel
set_option maxRecDepth 65536 in
theorem w_hears : about1.hears theMethod below0 = true := by decide +kernel
set_option maxRecDepth 65536 in
theorem w_ripe : about1.ripe theMethod args0 below0 = true := by decide +kernel
theorem w_running : about1.status = .running := rfl
set_option maxRecDepth 65536 in
theorem w_room : about1.hasRoom e0.platform room_1 = true :=
  launch0.hasRoom_least _ room_1 (by decide +kernel) (by decide +kernel) (by decide +kernel) (by decide +kernel) (by decide +kernel) (by decide +kernel)
theorem allAtoms_all (ts : List Jvm.Cond) (a : Array Jvm.Value) (st : Jvm.State) : (allAtoms ts).before a st = ts.all (fun c => c.before a st) := by
  induction ts with
  | nil => rfl
  | cons c t ih =>
    show (Jvm.Cond.and c (allAtoms t)).before a st = _
    rw [Jvm.Cond.before_and, ih, List.all_cons]
def words1 : List Jvm.Cond := Jvm.Cond.code x code maxLocals ret :: tables_1
/-- a 'code' word, met by the world's own term for the bytes: nothing is compared byte by byte -/
theorem code_word {y : MethodName} {bytes : ByteArray} {mx : Nat} {rt : Option FieldType} {a : Array Value} {s : State} {m : MethodId} {meth : Method} {c : Code} (h1 : s.methodNamed? y = some m) (h2 : s.vm.method? m = some meth) (h3 : meth.code = some c) (h4 : c.code = bytes)
    (h5 : (c.maxLocals == mx && c.exceptionTable.isEmpty && decide (c.maxStack ≤ mostOperands) && decide (meth.sig.returnType = rt) && !meth.locks && decide (parseMethodDescriptor y.desc = some meth.sig)) = true) : (Jvm.Cond.code y bytes mx rt).before a s = true := by
  simp only [Bool.and_eq_true, beq_iff_eq, Bool.not_eq_true', decide_eq_true_eq] at h5
  obtain ⟨⟨⟨⟨⟨g1, g2⟩, g3⟩, g4⟩, g5⟩, g6⟩ := h5
  simp [Cond.before, Cond.holds, Cond.value, h1, h2, h3, h4, g1, g2, g3, g4, g5, g6]
def isCode : Jvm.Cond → Bool
  | .code _ _ _ _ => true
  | _ => false
theorem all_split {L : List Jvm.Cond} {P : Jvm.Cond → Bool} (h1 : L.all (fun c => isCode c || P c) = true) (h2 : ∀ c ∈ L.filter isCode, P c = true) : L.all P = true := by
  refine List.all_eq_true.mpr fun c hc => ?_
  have h := List.all_eq_true.mp h1 c hc
  rcases Bool.eq_false_or_eq_true (isCode c) with hi | hi
  · exact h2 c (List.mem_filter.mpr ⟨hc, hi⟩)
  · simpa [hi] using h
set_option maxRecDepth 65536 in
theorem w_c0 : (Jvm.Cond.code x code maxLocals ret).before args0 about1 = true := code_word (m := ⟨1, 1⟩) (meth := k1m1) (c := k1c1) (by decide +kernel) rfl rfl rfl (by decide +kernel)
set_option maxRecDepth 65536 in
theorem w_c1 : (Jvm.Cond.code ({ cls := "com/example/allotd/allotd/store/CountedRequests$Compaction", name := "<init>", desc := "(IIIIII)V" } : Jvm.MethodName) prog_57_method_1_code (7 : Nat) (Option.none : Option Jvm.ClassFile.FieldType)).before args0 about1 = true := code_word (m := ⟨3, 0⟩) (meth := k3m0) (c := k3c0) (by decide +kernel) rfl rfl rfl (by decide +kernel)
set_option maxRecDepth 65536 in
theorem w_c2 : (Jvm.Cond.code ({ cls := "java/lang/Record", name := "<init>", desc := "()V" } : Jvm.MethodName) jdk_30_method_1_code (1 : Nat) (Option.none : Option Jvm.ClassFile.FieldType)).before args0 about1 = true := code_word (m := ⟨2, 0⟩) (meth := k2m0) (c := k2c0) (by decide +kernel) rfl rfl rfl (by decide +kernel)
set_option maxRecDepth 65536 in
theorem w_c3 : (Jvm.Cond.code ({ cls := "java/lang/Object", name := "<init>", desc := "()V" } : Jvm.MethodName) object_method_1_code (1 : Nat) (Option.none : Option Jvm.ClassFile.FieldType)).before args0 about1 = true := code_word (m := ⟨0, 0⟩) (meth := k0m0) (c := k0c0) (by decide +kernel) rfl rfl rfl (by decide +kernel)
set_option maxRecDepth 65536 in
theorem w_c4 : (Jvm.Cond.code ({ cls := "com/example/allotd/allotd/store/CountedRequests$Compaction", name := "sizeClass", desc := "(J)I" } : Jvm.MethodName) prog_57_method_3_code (6 : Nat) (Option.some Jvm.ClassFile.FieldType.int)).before args0 about1 = true := code_word (m := ⟨3, 1⟩) (meth := k3m1) (c := k3c1) (by decide +kernel) rfl rfl rfl (by decide +kernel)
def codes1 : List Jvm.Cond := [Jvm.Cond.code x code maxLocals ret, Jvm.Cond.code ({ cls := "com/example/allotd/allotd/store/CountedRequests$Compaction", name := "<init>", desc := "(IIIIII)V" } : Jvm.MethodName) prog_57_method_1_code (7 : Nat) (Option.none : Option Jvm.ClassFile.FieldType), Jvm.Cond.code ({ cls := "java/lang/Record", name := "<init>", desc := "()V" } : Jvm.MethodName) jdk_30_method_1_code (1 : Nat) (Option.none : Option Jvm.ClassFile.FieldType), Jvm.Cond.code ({ cls := "java/lang/Object", name := "<init>", desc := "()V" } : Jvm.MethodName) object_method_1_code (1 : Nat) (Option.none : Option Jvm.ClassFile.FieldType), Jvm.Cond.code ({ cls := "com/example/allotd/allotd/store/CountedRequests$Compaction", name := "sizeClass", desc := "(J)I" } : Jvm.MethodName) prog_57_method_3_code (6 : Nat) (Option.some Jvm.ClassFile.FieldType.int)]
set_option maxRecDepth 65536 in
theorem codes_eq : words1.filter isCode = codes1 := rfl
theorem w_codes : ∀ c ∈ words1.filter isCode, c.before args0 about1 = true := by
  rw [codes_eq]
  intro c hc
  simp only [codes1, List.mem_cons, List.not_mem_nil, or_false] at hc
  rcases hc with rfl | rfl | rfl | rfl | rfl
  · exact w_c0
  · exact w_c1
  · exact w_c2
  · exact w_c3
  · exact w_c4
set_option maxRecDepth 65536 in
theorem w_t1 : (words1.take 24).all (fun c => isCode c || c.before args0 about1) = true := by decide +kernel
set_option maxRecDepth 65536 in
theorem w_t2 : (words1.drop 24).all (fun c => isCode c || c.before args0 about1) = true := by decide +kernel
theorem w_tables : (allAtoms (Jvm.Cond.code x code maxLocals ret :: tables_1)).before args0 about1 = true := by
  rw [allAtoms_all]
  show words1.all (fun c => c.before args0 about1) = true
  refine all_split ?_ w_codes
  rw [← List.take_append_drop 24 words1, List.all_append, w_t1, w_t2]
  rfl
set_option maxRecDepth 65536 in
theorem w_case : (Jvm.Cond.and given_1 narrow_1).before args0 about1 = true := by decide +kernel
theorem w_applies : (headSpec (Jvm.Cond.code x code maxLocals ret :: tables_1) room_1).applies x e0.platform about1 = true :=
  (Spec.applies_iff w_frames).mpr ⟨w_running, w_runnable, w_alone, w_named, w_hears, w_ripe, w_room, w_tables⟩
theorem atStart : AtStart classFile x code maxLocals ret World_1 tables_1 room_1 Calls_1 rest_1 Pre_1 launch0 p0 e0 about1 theMethod args0 below0 :=
  ⟨lists_1, trivial, launch0.admits_env _ _ _, launch0.least_env, fairChoices_fair.cas, fairChoices_fair.clock, w_frames, w_args, w_heap, w_applies, trivial, trivial, w_case⟩
end start1
theorem witness_1 : WitnessClaimed_1 := ⟨start1.p0, start1.e0, start1.about1, start1.theMethod, start1.args0, start1.below0, start1.atStart⟩
end Jvm.Pilot.@@N@@
