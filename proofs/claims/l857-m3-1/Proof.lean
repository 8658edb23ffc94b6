import JvmDerived
import JvmDerived.Pilot.@@N@@Statement
import JvmDerived.Pilot.@@N@@Code
set_option linter.unusedVariables false
set_option linter.unusedSimpArgs false

namespace Jvm.RoadKit
open Sem ClassFile Op Lib Jvm.Stand Jvm.Free Jvm.LawKit
section New
variable {p : Program} {l : Launch} {e : Env} {R : Room} {s : State} {m : MethodId} {args : Array Value} {below : List Frame} {meth : Method} {c : Code} {T : State} {locs : List Loc} {cells slots : Nat}
theorem retI (X : Stand p l e R s m args below meth c T locs cells slots) (hx : p.tables.exec = Jvm.exec) {pc : Nat} {Ls : Array Slot} {z : Int32} {rest : List Value} (hret : meth.sig.returnType = some .int) (hd : decode c.code pc = .ok (.ireturn, 1)) {fs : List Frame}
    (hl : ∀ (f : JFrame) (acts : List Action), f.method = m → f.locked = none → f.entered = [] → (doReturn e (T.setTop f) acts (some (.int z))).1 = T.setFrames fs) : Steps p.tables e below (T.setTop (mkF m pc Ls (.int z :: rest))) (T.setFrames fs) := by
  exact retOut X hx hret rfl (Or.inl ⟨rfl, Or.inl rfl, _, rfl⟩) hd hl
end New
end Jvm.RoadKit
namespace Jvm.Pilot.@@N@@
open Jvm Jvm.ClassFile Sem Op Lib Jvm.Free Jvm.Stand Jvm.LawKit Jvm.RoadKit Bundle Jvm.Pilot.@@N@@.Jvm.D
theorem own_a {p : Int64} (h : p < (1 : Int64)) : ¬ ((0 : Int64) < p) := by
  simp only [Int64.lt_iff_toInt_lt, Int64.reduceToInt] at *; omega
theorem own_b {p : Int64} (h : ¬ (p < (1 : Int64))) : (0 : Int64) < p := by
  simp only [Int64.lt_iff_toInt_lt, Int64.reduceToInt] at *; omega
theorem d2_0 : decode jdk_30_method_1_code 0 = .ok (.aload_n 0, 1) := by decide +kernel
theorem d2_1 : decode jdk_30_method_1_code 1 = .ok (.invokespecial 1, 3) := by decide +kernel
theorem d2_4 : decode jdk_30_method_1_code 4 = .ok (.return_, 1) := by decide +kernel
theorem pn_java_lang_Record : plainName "java/lang/Record" = true := by first | (simp [plainName, overriddenIn]; done) | decide +kernel
theorem ef_rm_rec (m : MethodId) (x0 : Addr) : entryFrame m #[(.ref x0)] 1 = mkF m 0 #[.val (.ref x0)] [] := by first | (simp [entryFrame, mkF, argsToLocals, Value.category]; done) | rfl
def Q_rm_rec (Z : State) (a1 : Addr) (h0 : Heap) (n0 : Nat) (v : Option Value) (h : Heap) (L : List Loc) : Prop := v = none ∧ Fr n0 L ∧ h = h0
set_option maxRecDepth 65536 in
set_option maxHeartbeats 40000000 in
theorem rm_rec (l : Launch) (Z : State) (a0 : Array Value) (hw : ∀ d ∈ tables_1, d.before a0 Z = true) (ws : List Jvm.Cond) (a1 : Addr) (h0 : Heap) (n0 : Nat) (Z0 : n0 ≤ h0.size) :
    MetFree l (⟨"java/lang/Record", "<init>", "()V"⟩ : MethodName) (head1 (Jvm.Cond.code (⟨"java/lang/Record", "<init>", "()V"⟩ : MethodName) jdk_30_method_1_code 1 none :: ws) ({ frames := 1, cells := 0, slots := 0, locals := 12 } : Room)) (fun a U => a = #[(.ref a1)] ∧ Z.Warmed39 U.vm ∧ U.heap = h0) (fun _ _ _ _ _ => True) (fun _ U o U' => ∃ v L, o = .returned v ∧ Q_rm_rec Z a1 h0 n0 v U'.heap L ∧ FrameEnd U o U' L ({ frames := 1, cells := 0, slots := 0, locals := 12 } : Room).cells ({ frames := 1, cells := 0, slots := 0, locals := 12 } : Room).slots) := by
  refine MetFree.of_bodySF (plainFor_of_name pn_java_lang_Record) hisR ?_
  intro p e s m args below meth c s₁ Bd hml0 hP hK
  obtain ⟨rfl, hZ, hh⟩ := hP
  have hx := Bd.exec
  have hby := Bd.bytes
  have hml : c.maxLocals = 1 := hml0
  have hown : s.vm.findClass "java/lang/Record" = some m.cls := findClass_of_methodNamed Bd.named
  have hnm := (name_of_methodNamed Bd.named Bd.method).1
  have X0 : Stand p l e ({ frames := 1, cells := 0, slots := 0, locals := 12 } : Room) s m #[(.ref a1)] below meth c s₁ [] 0 0 := Stand.of_body Bd
  have e0 : s₁.heap = h0 := by rw [← hh, Bd.state]; rfl
  have N0 := Fr.nil n0
  have pre0 : ∀ t, Steps p.tables e below (s₁.setTop (mkF m 0 #[.val (.ref a1)] [])) t → Steps p.tables e below (s₁.setTop (entryFrame m #[(.ref a1)] 1)) t := fun t k => castTop (ef_rm_rec m a1) k
  obtain ⟨T1, X1, e1, st1⟩ := initO X0 hx hZ hown (hw _ (List.mem_of_getElem? (i := 11) rfl)) (hw _ (List.mem_of_getElem? (i := 12) rfl)) (hw _ (List.mem_of_getElem? (i := 13) rfl)) e0 (g := (mkF m 1 #[.val (.ref a1)] [(.ref a1)])) rfl (by rw [hml]; rfl) rfl (hb hby d2_1) (by decide) (W := 0) (by show 2 * 0 + _ ≤ _; exact Nat.le_of_eq rfl) (by decide)
  obtain ⟨fs, hr, hrun, hended, hW, hsame⟩ := X1.leave (v := none) (fun _ => rfl)
  refine ⟨_, _, pre0 _ ?_, hrun, hended, _, _, rfl, ?_, ⟨_, rfl⟩, hW, hsame.mono (by decide) (by decide)⟩
  · show Steps p.tables e below (s₁.setTop (mkF m 0 #[.val (.ref a1)] [])) _
    refine XS.aloadN X0.here hx rfl (hb hby d2_0) rfl rfl ?_
    show Steps p.tables e below (s₁.setTop (mkF m 1 #[.val (.ref a1)] [(.ref a1)])) _
    refine st1 _ ?_
    show Steps p.tables e below (T1.setTop (mkF m 4 #[.val (.ref a1)] [])) _
    exact X1.returnOut hx Bd.returns (hb hby d2_4) hr
  · show Q_rm_rec Z a1 h0 n0 _ T1.heap _
    rw [e1]
    exact ⟨rfl, N0, rfl⟩
theorem d1_0 : decode prog_32_method_1_code 0 = .ok (.aload_n 0, 1) := by decide +kernel
theorem d1_1 : decode prog_32_method_1_code 1 = .ok (.invokespecial 1, 3) := by decide +kernel
theorem pd__40_41V : parseMethodDescriptor "()V" = some ⟨[], none⟩ := by decide +kernel
theorem d1_4 : decode prog_32_method_1_code 4 = .ok (.aload_n 0, 1) := by decide +kernel
theorem d1_5 : decode prog_32_method_1_code 5 = .ok (.iload_n 1, 1) := by decide +kernel
theorem d1_6 : decode prog_32_method_1_code 6 = .ok (.putfield 7, 3) := by decide +kernel
theorem d1_9 : decode prog_32_method_1_code 9 = .ok (.aload_n 0, 1) := by decide +kernel
theorem d1_10 : decode prog_32_method_1_code 10 = .ok (.lload_n 2, 1) := by decide +kernel
theorem d1_11 : decode prog_32_method_1_code 11 = .ok (.putfield 13, 3) := by decide +kernel
theorem d1_14 : decode prog_32_method_1_code 14 = .ok (.return_, 1) := by decide +kernel
theorem pn_com_example_concordat_concordat_model_StringType : plainName "com/example/concordat/concordat/model/StringType" = true := by first | (simp [plainName, overriddenIn]; done) | decide +kernel
theorem ef_rm_ini (m : MethodId) (x0 : Addr) (x1 : Int32) (x2 : Int64) : entryFrame m #[(.ref x0), (.int x1), (.long x2)] 4 = mkF m 0 #[.val (.ref x0), .val (.int x1), .val (.long x2), .second] [] := by first | (simp [entryFrame, mkF, argsToLocals, Value.category]; done) | rfl
def Q_rm_ini (Z : State) (a1 : Addr) (p2 : Int32) (q3 : Int64) (u1 : Value) (u2 : Value) (h0 : Heap) (n0 : Nat) (v : Option Value) (h : Heap) (L : List Loc) : Prop := v = none ∧ Fr n0 L ∧ Keep h0 h [a1] ∧ (Fld Z h a1 "com/example/concordat/concordat/model/StringType" "bound" "J" (.long q3))
set_option maxRecDepth 65536 in
set_option maxHeartbeats 40000000 in
theorem rm_ini (l : Launch) (Z : State) (a0 : Array Value) (hw : ∀ d ∈ tables_1, d.before a0 Z = true) (ws : List Jvm.Cond) (a1 : Addr) (p2 : Int32) (q3 : Int64) (u1 : Value) (u2 : Value) (h0 : Heap) (n0 : Nat) (Z0 : n0 ≤ h0.size) (pr0 : Exa Z h0 a1 "com/example/concordat/concordat/model/StringType") (pr1 : Fld Z h0 a1 "com/example/concordat/concordat/model/StringType" "wide" "Z" u1) (pr2 : Fld Z h0 a1 "com/example/concordat/concordat/model/StringType" "bound" "J" u2) (pr3 : n0 ≤ a1) :
    MetFree l (⟨"com/example/concordat/concordat/model/StringType", "<init>", "(ZJ)V"⟩ : MethodName) (head1 (Jvm.Cond.code (⟨"com/example/concordat/concordat/model/StringType", "<init>", "(ZJ)V"⟩ : MethodName) prog_32_method_1_code 4 none :: ws) ({ frames := 2, cells := 0, slots := 0, locals := 24 } : Room)) (fun a U => a = #[(.ref a1), (.int p2), (.long q3)] ∧ Z.Warmed39 U.vm ∧ U.heap = h0) (fun _ _ _ _ _ => True) (fun _ U o U' => ∃ v L, o = .returned v ∧ Q_rm_ini Z a1 p2 q3 u1 u2 h0 n0 v U'.heap L ∧ FrameEnd U o U' L ({ frames := 2, cells := 0, slots := 0, locals := 24 } : Room).cells ({ frames := 2, cells := 0, slots := 0, locals := 24 } : Room).slots) := by
  refine MetFree.of_bodySF (plainFor_of_name pn_com_example_concordat_concordat_model_StringType) hisR ?_
  intro p e s m args below meth c s₁ Bd hml0 hP hK
  obtain ⟨rfl, hZ, hh⟩ := hP
  have hx := Bd.exec
  have hby := Bd.bytes
  have hml : c.maxLocals = 4 := hml0
  have hown : s.vm.findClass "com/example/concordat/concordat/model/StringType" = some m.cls := findClass_of_methodNamed Bd.named
  have hnm := (name_of_methodNamed Bd.named Bd.method).1
  have X0 : Stand p l e ({ frames := 2, cells := 0, slots := 0, locals := 24 } : Room) s m #[(.ref a1), (.int p2), (.long q3)] below meth c s₁ [] 0 0 := Stand.of_body Bd
  have e0 : s₁.heap = h0 := by rw [← hh, Bd.state]; rfl
  have N0 := Fr.nil n0
  have pre0 : ∀ t, Steps p.tables e below (s₁.setTop (mkF m 0 #[.val (.ref a1), .val (.int p2), .val (.long q3), .second] [])) t → Steps p.tables e below (s₁.setTop (entryFrame m #[(.ref a1), (.int p2), (.long q3)] 4)) t := fun t k => castTop (ef_rm_ini m a1 p2 q3) k
  obtain ⟨_, _, ⟨T1, L1, k1, n1⟩, -, X1, ⟨Lc1, hQ1, l1, y1, z1⟩, st1⟩ := X0.specialBack hx (y := (⟨"java/lang/Record", "<init>", "()V"⟩ : MethodName)) rfl hown (mvT hZ (hw _ (List.mem_of_getElem? (i := 6) rfl))) (mvT hZ (hw _ (List.mem_of_getElem? (i := 7) rfl))) (mvT hZ (hw _ (List.mem_of_getElem? (i := 10) rfl))) (by decide) (backOf (W := 0) (rm_rec l Z a0 hw [] a1 h0 n0 Z0) hZ (hw _ (List.mem_of_getElem? (i := 10) rfl)) (hw _ (List.mem_of_getElem? (i := 9) rfl)) (by decide) (by decide)) (g := (mkF m 1 #[.val (.ref a1), .val (.int p2), .val (.long q3), .second] [(.ref a1)])) rfl (by rw [hml]; rfl) (Steps.refl _) (a := a1) (argsL := []) (rest := []) (lenOf pd__40_41V rfl) rfl (by show 2 * 0 + _ ≤ _; exact Nat.le_of_eq rfl) (hb hby d1_1) (fun _ _ => ⟨rfl, e0, (by decide : 0 + 0 ≤ _), (by decide : 0 + 0 ≤ _)⟩)
  dsimp only [Pt.U, Pt.locs, Pt.cells, Pt.slots] at X1 l1 y1 z1 st1 hQ1
  subst l1 y1 z1
  obtain ⟨rfl, Nq1, e1⟩ := hQ1
  have N1 := Fr.app N0 Nq1
  obtain ⟨T2, h2, X2, e2, W2, st2⟩ := putFN X1 hx hZ hown (hw _ (List.mem_of_getElem? (i := 14) rfl)) Via.refl e1 pr1 pr0 (Or.inr ⟨(hw _ (List.mem_of_getElem? (i := 15) rfl)), rfl, hnm⟩) (hw _ (List.mem_of_getElem? (i := 1) rfl)) (ty := .boolean) (v' := (.int (nar .boolean p2))) (by decide) rfl (fits_nar_bool _) (g := (mkF m 6 #[.val (.ref a1), .val (.int p2), .val (.long q3), .second] [(.int p2), (.ref a1)])) rfl rfl (hb hby d1_6)
  have N2 := Fr.snoc X2 N1 pr3
  have f2 : Fld Z h2 a1 "com/example/concordat/concordat/model/StringType" "wide" "Z" (.int (nar .boolean p2)) := pr1.same W2
  have K3 : Keep h0 h2 [a1] := (Keep.refl h0 [a1]).wr W2 (Or.inl (List.mem_of_getElem? (i := 0) rfl))
  have f4 : Fld Z h2 a1 "com/example/concordat/concordat/model/StringType" "bound" "J" u2 := (pr2.other W2 (Or.inr (slot_ne (Or.inr (hw _ (List.mem_of_getElem? (i := 17) rfl))) (Or.inr (hw _ (List.mem_of_getElem? (i := 15) rfl))) (by decide) (t := .long) (t' := .boolean) (by decide) (by decide))))
  have f5 : Exa Z h2 a1 "com/example/concordat/concordat/model/StringType" := (pr0.wr W2)
  obtain ⟨T6, h6, X6, e6, W6, st6⟩ := putF X2 hx hZ hown (host := "") (Or.inl (hw _ (List.mem_of_getElem? (i := 16) rfl))) Via.refl e2 f4 f5 (Or.inr ⟨(hw _ (List.mem_of_getElem? (i := 17) rfl)), rfl, hnm⟩) (hw _ (List.mem_of_getElem? (i := 1) rfl)) (ty := .long) (by decide) rfl rfl (g := (mkF m 11 #[.val (.ref a1), .val (.int p2), .val (.long q3), .second] [(.long q3), (.ref a1)])) rfl rfl (hb hby d1_11)
  have N6 := Fr.snoc X6 N2 pr3
  have f6 : Fld Z h6 a1 "com/example/concordat/concordat/model/StringType" "bound" "J" (.long q3) := f4.same W6
  have K7 : Keep h0 h6 [a1] := K3.wr W6 (Or.inl (List.mem_of_getElem? (i := 0) rfl))
  obtain ⟨fs, hr, hrun, hended, hW, hsame⟩ := X6.leave (v := none) (fun _ => rfl)
  refine ⟨_, _, pre0 _ ?_, hrun, hended, _, _, rfl, ?_, ⟨_, rfl⟩, hW, hsame.mono (by decide) (by decide)⟩
  · show Steps p.tables e below (s₁.setTop (mkF m 0 #[.val (.ref a1), .val (.int p2), .val (.long q3), .second] [])) _
    refine XS.aloadN X0.here hx rfl (hb hby d1_0) rfl rfl ?_
    show Steps p.tables e below (s₁.setTop (mkF m 1 #[.val (.ref a1), .val (.int p2), .val (.long q3), .second] [(.ref a1)])) _
    refine st1.trans ?_
    show Steps p.tables e below (T1.setTop (mkF m 4 #[.val (.ref a1), .val (.int p2), .val (.long q3), .second] [])) _
    refine XS.aloadN X1.here hx rfl (hb hby d1_4) rfl rfl ?_
    show Steps p.tables e below (T1.setTop (mkF m 5 #[.val (.ref a1), .val (.int p2), .val (.long q3), .second] [(.ref a1)])) _
    refine XS.iloadN X1.here hx rfl (hb hby d1_5) rfl ?_
    show Steps p.tables e below (T1.setTop (mkF m 6 #[.val (.ref a1), .val (.int p2), .val (.long q3), .second] [(.int p2), (.ref a1)])) _
    refine st2 _ ?_
    show Steps p.tables e below (T2.setTop (mkF m 9 #[.val (.ref a1), .val (.int p2), .val (.long q3), .second] [])) _
    refine XS.aloadN X2.here hx rfl (hb hby d1_9) rfl rfl ?_
    show Steps p.tables e below (T2.setTop (mkF m 10 #[.val (.ref a1), .val (.int p2), .val (.long q3), .second] [(.ref a1)])) _
    refine XS.lloadN X2.here hx rfl (hb hby d1_10) rfl ?_
    show Steps p.tables e below (T2.setTop (mkF m 11 #[.val (.ref a1), .val (.int p2), .val (.long q3), .second] [(.long q3), (.ref a1)])) _
    refine st6 _ ?_
    show Steps p.tables e below (T6.setTop (mkF m 14 #[.val (.ref a1), .val (.int p2), .val (.long q3), .second] [])) _
    exact X6.returnOut hx Bd.returns (hb hby d1_14) hr
  · show Q_rm_ini Z a1 p2 q3 u1 u2 h0 n0 _ T6.heap _
    rw [e6]
    exact ⟨rfl, N6, K7, f6⟩
theorem d4_0 : decode prog_32_method_2_code 0 = .ok (.aload_n 0, 1) := by decide +kernel
theorem d4_1 : decode prog_32_method_2_code 1 = .ok (.getfield 13, 3) := by decide +kernel
theorem d4_4 : decode prog_32_method_2_code 4 = .ok (.lconst 0, 1) := by decide +kernel
theorem d4_5 : decode prog_32_method_2_code 5 = .ok (.lcmp, 1) := by decide +kernel
theorem d4_6 : decode prog_32_method_2_code 6 = .ok (.ifCond .le 7, 3) := by decide +kernel
theorem d4_9 : decode prog_32_method_2_code 9 = .ok (.iconst 1, 1) := by decide +kernel
theorem d4_10 : decode prog_32_method_2_code 10 = .ok (.goto 4, 3) := by decide +kernel
theorem d4_14 : decode prog_32_method_2_code 14 = .ok (.ireturn, 1) := by decide +kernel
theorem ef_rm_bt (m : MethodId) (x0 : Addr) : entryFrame m #[(.ref x0)] 1 = mkF m 0 #[.val (.ref x0)] [] := by first | (simp [entryFrame, mkF, argsToLocals, Value.category]; done) | rfl
def Q_rm_bt (Z : State) (a1 : Addr) (q2 : Int64) (h0 : Heap) (n0 : Nat) (v : Option Value) (h : Heap) (L : List Loc) : Prop := v = some (.int (1 : Int32)) ∧ Fr n0 L ∧ h = h0
set_option maxRecDepth 65536 in
set_option maxHeartbeats 40000000 in
theorem rm_bt (l : Launch) (Z : State) (a0 : Array Value) (hw : ∀ d ∈ tables_1, d.before a0 Z = true) (ws : List Jvm.Cond) (a1 : Addr) (q2 : Int64) (h0 : Heap) (n0 : Nat) (Z0 : n0 ≤ h0.size) (pr0 : Fld Z h0 a1 "com/example/concordat/concordat/model/StringType" "bound" "J" (.long q2)) (hb_ : (0 : Int64) < q2) :
    MetFree l (⟨"com/example/concordat/concordat/model/StringType", "bounded", "()Z"⟩ : MethodName) (head1 (Jvm.Cond.code (⟨"com/example/concordat/concordat/model/StringType", "bounded", "()Z"⟩ : MethodName) prog_32_method_2_code 1 (some .boolean) :: ws) ({ frames := 0, cells := 0, slots := 0, locals := 0 } : Room)) (fun a U => a = #[(.ref a1)] ∧ Z.Warmed39 U.vm ∧ U.heap = h0) (fun _ _ _ _ _ => True) (fun _ U o U' => ∃ v L, o = .returned v ∧ Q_rm_bt Z a1 q2 h0 n0 v U'.heap L ∧ FrameEnd U o U' L ({ frames := 0, cells := 0, slots := 0, locals := 0 } : Room).cells ({ frames := 0, cells := 0, slots := 0, locals := 0 } : Room).slots) := by
  refine MetFree.of_bodySF (plainFor_of_name pn_com_example_concordat_concordat_model_StringType) hisR ?_
  intro p e s m args below meth c s₁ Bd hml0 hP hK
  obtain ⟨rfl, hZ, hh⟩ := hP
  have hx := Bd.exec
  have hby := Bd.bytes
  have hml : c.maxLocals = 1 := hml0
  have hown : s.vm.findClass "com/example/concordat/concordat/model/StringType" = some m.cls := findClass_of_methodNamed Bd.named
  have hnm := (name_of_methodNamed Bd.named Bd.method).1
  have X0 : Stand p l e ({ frames := 0, cells := 0, slots := 0, locals := 0 } : Room) s m #[(.ref a1)] below meth c s₁ [] 0 0 := Stand.of_body Bd
  have e0 : s₁.heap = h0 := by rw [← hh, Bd.state]; rfl
  have N0 := Fr.nil n0
  have pre0 : ∀ t, Steps p.tables e below (s₁.setTop (mkF m 0 #[.val (.ref a1)] [])) t → Steps p.tables e below (s₁.setTop (entryFrame m #[(.ref a1)] 1)) t := fun t k => castTop (ef_rm_bt m a1) k
  obtain ⟨T1, X1, e1, st1⟩ := getF X0 hx hZ hown (host := "") (Or.inl (hw _ (List.mem_of_getElem? (i := 16) rfl))) Via.refl e0 pr0 (g := (mkF m 1 #[.val (.ref a1)] [(.ref a1)])) rfl rfl (hb hby d4_1)
  obtain ⟨fs, hr, hrun, hended, hW, hsame⟩ := X1.leave (v := some (.int (1 : Int32))) (fun h => by rw [Bd.returns] at h; cases h)
  refine ⟨_, _, pre0 _ ?_, hrun, hended, _, _, rfl, ?_, ⟨_, rfl⟩, hW, hsame.mono (by decide) (by decide)⟩
  · show Steps p.tables e below (s₁.setTop (mkF m 0 #[.val (.ref a1)] [])) _
    refine XS.aloadN X0.here hx rfl (hb hby d4_0) rfl rfl ?_
    show Steps p.tables e below (s₁.setTop (mkF m 1 #[.val (.ref a1)] [(.ref a1)])) _
    refine st1 _ ?_
    show Steps p.tables e below (T1.setTop (mkF m 4 #[.val (.ref a1)] [(.long q2)])) _
    refine XS.lconst X1.here hx rfl (hb hby d4_4) ?_
    show Steps p.tables e below (T1.setTop (mkF m 5 #[.val (.ref a1)] [(.long (0 : Int64)), (.long q2)])) _
    refine XS.lcmp X1.here hx rfl (hb hby d4_5) rfl ?_
    show Steps p.tables e below (T1.setTop (mkF m 6 #[.val (.ref a1)] [(.int (lcmpW q2 (0 : Int64)))])) _
    refine XS.ifNo X1.here hx rfl (hb hby d4_6) rfl ((if0 _ _).trans (tlt ((lw_gt _ _).mpr hb_)).2.2.2) ?_
    show Steps p.tables e below (T1.setTop (mkF m 9 #[.val (.ref a1)] [])) _
    refine XS.iconst X1.here hx rfl (hb hby d4_9) ?_
    show Steps p.tables e below (T1.setTop (mkF m 10 #[.val (.ref a1)] [(.int (1 : Int32))])) _
    refine XS.goto X1.here hx rfl (pc0 := 10) (pc' := 14) rfl (hb hby d4_10) (by decide) (by decide) ?_
    show Steps p.tables e below (T1.setTop (mkF m 14 #[.val (.ref a1)] [(.int (1 : Int32))])) _
    exact retN X1 hx (t := .boolean) Bd.returns (by simp) (hb hby d4_14) hr
  · show Q_rm_bt Z a1 q2 h0 n0 _ T1.heap _
    rw [e1]
    exact ⟨rfl, N0, rfl⟩
theorem d4_13 : decode prog_32_method_2_code 13 = .ok (.iconst 0, 1) := by decide +kernel
theorem ef_rm_bf (m : MethodId) (x0 : Addr) : entryFrame m #[(.ref x0)] 1 = mkF m 0 #[.val (.ref x0)] [] := by first | (simp [entryFrame, mkF, argsToLocals, Value.category]; done) | rfl
def Q_rm_bf (Z : State) (a1 : Addr) (q2 : Int64) (h0 : Heap) (n0 : Nat) (v : Option Value) (h : Heap) (L : List Loc) : Prop := v = some (.int (0 : Int32)) ∧ Fr n0 L ∧ h = h0
set_option maxRecDepth 65536 in
set_option maxHeartbeats 40000000 in
theorem rm_bf (l : Launch) (Z : State) (a0 : Array Value) (hw : ∀ d ∈ tables_1, d.before a0 Z = true) (ws : List Jvm.Cond) (a1 : Addr) (q2 : Int64) (h0 : Heap) (n0 : Nat) (Z0 : n0 ≤ h0.size) (pr0 : Fld Z h0 a1 "com/example/concordat/concordat/model/StringType" "bound" "J" (.long q2)) (hb_ : ¬ ((0 : Int64) < q2)) :
    MetFree l (⟨"com/example/concordat/concordat/model/StringType", "bounded", "()Z"⟩ : MethodName) (head1 (Jvm.Cond.code (⟨"com/example/concordat/concordat/model/StringType", "bounded", "()Z"⟩ : MethodName) prog_32_method_2_code 1 (some .boolean) :: ws) ({ frames := 0, cells := 0, slots := 0, locals := 0 } : Room)) (fun a U => a = #[(.ref a1)] ∧ Z.Warmed39 U.vm ∧ U.heap = h0) (fun _ _ _ _ _ => True) (fun _ U o U' => ∃ v L, o = .returned v ∧ Q_rm_bf Z a1 q2 h0 n0 v U'.heap L ∧ FrameEnd U o U' L ({ frames := 0, cells := 0, slots := 0, locals := 0 } : Room).cells ({ frames := 0, cells := 0, slots := 0, locals := 0 } : Room).slots) := by
  refine MetFree.of_bodySF (plainFor_of_name pn_com_example_concordat_concordat_model_StringType) hisR ?_
  intro p e s m args below meth c s₁ Bd hml0 hP hK
  obtain ⟨rfl, hZ, hh⟩ := hP
  have hx := Bd.exec
  have hby := Bd.bytes
  have hml : c.maxLocals = 1 := hml0
  have hown : s.vm.findClass "com/example/concordat/concordat/model/StringType" = some m.cls := findClass_of_methodNamed Bd.named
  have hnm := (name_of_methodNamed Bd.named Bd.method).1
  have X0 : Stand p l e ({ frames := 0, cells := 0, slots := 0, locals := 0 } : Room) s m #[(.ref a1)] below meth c s₁ [] 0 0 := Stand.of_body Bd
  have e0 : s₁.heap = h0 := by rw [← hh, Bd.state]; rfl
  have N0 := Fr.nil n0
  have pre0 : ∀ t, Steps p.tables e below (s₁.setTop (mkF m 0 #[.val (.ref a1)] [])) t → Steps p.tables e below (s₁.setTop (entryFrame m #[(.ref a1)] 1)) t := fun t k => castTop (ef_rm_bf m a1) k
  obtain ⟨T1, X1, e1, st1⟩ := getF X0 hx hZ hown (host := "") (Or.inl (hw _ (List.mem_of_getElem? (i := 16) rfl))) Via.refl e0 pr0 (g := (mkF m 1 #[.val (.ref a1)] [(.ref a1)])) rfl rfl (hb hby d4_1)
  obtain ⟨fs, hr, hrun, hended, hW, hsame⟩ := X1.leave (v := some (.int (0 : Int32))) (fun h => by rw [Bd.returns] at h; cases h)
  refine ⟨_, _, pre0 _ ?_, hrun, hended, _, _, rfl, ?_, ⟨_, rfl⟩, hW, hsame.mono (by decide) (by decide)⟩
  · show Steps p.tables e below (s₁.setTop (mkF m 0 #[.val (.ref a1)] [])) _
    refine XS.aloadN X0.here hx rfl (hb hby d4_0) rfl rfl ?_
    show Steps p.tables e below (s₁.setTop (mkF m 1 #[.val (.ref a1)] [(.ref a1)])) _
    refine st1 _ ?_
    show Steps p.tables e below (T1.setTop (mkF m 4 #[.val (.ref a1)] [(.long q2)])) _
    refine XS.lconst X1.here hx rfl (hb hby d4_4) ?_
    show Steps p.tables e below (T1.setTop (mkF m 5 #[.val (.ref a1)] [(.long (0 : Int64)), (.long q2)])) _
    refine XS.lcmp X1.here hx rfl (hb hby d4_5) rfl ?_
    show Steps p.tables e below (T1.setTop (mkF m 6 #[.val (.ref a1)] [(.int (lcmpW q2 (0 : Int64)))])) _
    refine XS.ifYes X1.here hx rfl (pc0 := 6) (pc' := 13) rfl (hb hby d4_6) rfl ((if0 _ _).trans (flt (fun q_ => hb_ ((lw_gt _ _).mp q_))).2.2.2) (by decide) (by decide) ?_
    show Steps p.tables e below (T1.setTop (mkF m 13 #[.val (.ref a1)] [])) _
    refine XS.iconst X1.here hx rfl (hb hby d4_13) ?_
    show Steps p.tables e below (T1.setTop (mkF m 14 #[.val (.ref a1)] [(.int (0 : Int32))])) _
    exact retN X1 hx (t := .boolean) Bd.returns (by simp) (hb hby d4_14) hr
  · show Q_rm_bf Z a1 q2 h0 n0 _ T1.heap _
    rw [e1]
    exact ⟨rfl, N0, rfl⟩
theorem d5_0 : decode prog_32_method_8_code 0 = .ok (.aload_n 0, 1) := by decide +kernel
theorem d5_1 : decode prog_32_method_8_code 1 = .ok (.getfield 13, 3) := by decide +kernel
theorem d5_4 : decode prog_32_method_8_code 4 = .ok (.lreturn, 1) := by decide +kernel
theorem ef_rm_bo (m : MethodId) (x0 : Addr) : entryFrame m #[(.ref x0)] 1 = mkF m 0 #[.val (.ref x0)] [] := by first | (simp [entryFrame, mkF, argsToLocals, Value.category]; done) | rfl
def Q_rm_bo (Z : State) (a1 : Addr) (q2 : Int64) (h0 : Heap) (n0 : Nat) (v : Option Value) (h : Heap) (L : List Loc) : Prop := v = some (.long q2) ∧ Fr n0 L ∧ h = h0
set_option maxRecDepth 65536 in
set_option maxHeartbeats 40000000 in
theorem rm_bo (l : Launch) (Z : State) (a0 : Array Value) (hw : ∀ d ∈ tables_1, d.before a0 Z = true) (ws : List Jvm.Cond) (a1 : Addr) (q2 : Int64) (h0 : Heap) (n0 : Nat) (Z0 : n0 ≤ h0.size) (pr0 : Fld Z h0 a1 "com/example/concordat/concordat/model/StringType" "bound" "J" (.long q2)) :
    MetFree l (⟨"com/example/concordat/concordat/model/StringType", "bound", "()J"⟩ : MethodName) (head1 (Jvm.Cond.code (⟨"com/example/concordat/concordat/model/StringType", "bound", "()J"⟩ : MethodName) prog_32_method_8_code 1 (some .long) :: ws) ({ frames := 0, cells := 0, slots := 0, locals := 0 } : Room)) (fun a U => a = #[(.ref a1)] ∧ Z.Warmed39 U.vm ∧ U.heap = h0) (fun _ _ _ _ _ => True) (fun _ U o U' => ∃ v L, o = .returned v ∧ Q_rm_bo Z a1 q2 h0 n0 v U'.heap L ∧ FrameEnd U o U' L ({ frames := 0, cells := 0, slots := 0, locals := 0 } : Room).cells ({ frames := 0, cells := 0, slots := 0, locals := 0 } : Room).slots) := by
  refine MetFree.of_bodySF (plainFor_of_name pn_com_example_concordat_concordat_model_StringType) hisR ?_
  intro p e s m args below meth c s₁ Bd hml0 hP hK
  obtain ⟨rfl, hZ, hh⟩ := hP
  have hx := Bd.exec
  have hby := Bd.bytes
  have hml : c.maxLocals = 1 := hml0
  have hown : s.vm.findClass "com/example/concordat/concordat/model/StringType" = some m.cls := findClass_of_methodNamed Bd.named
  have hnm := (name_of_methodNamed Bd.named Bd.method).1
  have X0 : Stand p l e ({ frames := 0, cells := 0, slots := 0, locals := 0 } : Room) s m #[(.ref a1)] below meth c s₁ [] 0 0 := Stand.of_body Bd
  have e0 : s₁.heap = h0 := by rw [← hh, Bd.state]; rfl
  have N0 := Fr.nil n0
  have pre0 : ∀ t, Steps p.tables e below (s₁.setTop (mkF m 0 #[.val (.ref a1)] [])) t → Steps p.tables e below (s₁.setTop (entryFrame m #[(.ref a1)] 1)) t := fun t k => castTop (ef_rm_bo m a1) k
  obtain ⟨T1, X1, e1, st1⟩ := getF X0 hx hZ hown (host := "") (Or.inl (hw _ (List.mem_of_getElem? (i := 16) rfl))) Via.refl e0 pr0 (g := (mkF m 1 #[.val (.ref a1)] [(.ref a1)])) rfl rfl (hb hby d5_1)
  obtain ⟨fs, hr, hrun, hended, hW, hsame⟩ := X1.leave (v := some (.long q2)) (fun h => by rw [Bd.returns] at h; cases h)
  refine ⟨_, _, pre0 _ ?_, hrun, hended, _, _, rfl, ?_, ⟨_, rfl⟩, hW, hsame.mono (by decide) (by decide)⟩
  · show Steps p.tables e below (s₁.setTop (mkF m 0 #[.val (.ref a1)] [])) _
    refine XS.aloadN X0.here hx rfl (hb hby d5_0) rfl rfl ?_
    show Steps p.tables e below (s₁.setTop (mkF m 1 #[.val (.ref a1)] [(.ref a1)])) _
    refine st1 _ ?_
    show Steps p.tables e below (T1.setTop (mkF m 4 #[.val (.ref a1)] [(.long q2)])) _
    exact retOut X1 hx Bd.returns rfl (Or.inr (Or.inl ⟨rfl, rfl, _, rfl⟩)) (hb hby d5_4) hr
  · show Q_rm_bo Z a1 q2 h0 n0 _ T1.heap _
    rw [e1]
    exact ⟨rfl, N0, rfl⟩
theorem pd__40ZJ_41V : parseMethodDescriptor "(ZJ)V" = some ⟨[.boolean, .long], none⟩ := by decide +kernel
theorem pd__40_41Z : parseMethodDescriptor "()Z" = some ⟨[], some .boolean⟩ := by decide +kernel
theorem pd__40_41J : parseMethodDescriptor "()J" = some ⟨[], some .long⟩ := by decide +kernel
theorem pn_com_example_concordat_concordat_model_StringTypeBoundedPinLaw : plainName "com/example/concordat/concordat/model/StringTypeBoundedPinLaw" = true := by first | (simp [plainName, overriddenIn]; done) | decide +kernel
theorem ef_rm0 (m : MethodId) (x0 : Int64) (x1 : Int32) : entryFrame m #[(.long x0), (.int x1)] maxLocals = mkF m 0 #[.val (.long x0), .second, .val (.int x1), .unset, .unset, .unset, .unset] [] := by first | (simp [entryFrame, mkF, argsToLocals, Value.category, maxLocals]; done) | rfl
def Q_rm0 (Z : State) (p1 : Int64) (p2 : Int32) (h0 : Heap) (n0 : Nat) (v : Option Value) (h : Heap) (L : List Loc) : Prop := v = some (.int (1 : Int32)) ∧ Fr n0 L
set_option maxRecDepth 65536 in
set_option maxHeartbeats 40000000 in
theorem rm0 (l : Launch) (Z : State) (a0 : Array Value) (hw : ∀ d ∈ tables_1, d.before a0 Z = true) (ws : List Jvm.Cond) (p1 : Int64) (p2 : Int32) (h0 : Heap) (n0 : Nat) (Z0 : n0 ≤ h0.size) :
    MetFree l x (head1 (Jvm.Cond.code x code maxLocals ret :: ws) room_1) (fun a U => a = #[(.long p1), (.int p2)] ∧ Z.Warmed39 U.vm ∧ U.heap = h0) (fun _ _ _ _ _ => True) (fun _ U o U' => ∃ v L, o = .returned v ∧ Q_rm0 Z p1 p2 h0 n0 v U'.heap L ∧ FrameEnd U o U' L room_1.cells room_1.slots) := by
  refine MetFree.of_bodySF (plainFor_of_name pn_com_example_concordat_concordat_model_StringTypeBoundedPinLaw) hisR ?_
  intro p e s m args below meth c s₁ Bd hml0 hP hK
  obtain ⟨rfl, hZ, hh⟩ := hP
  have hx := Bd.exec
  have hby := Bd.bytes
  have hml : c.maxLocals = 7 := hml0
  have hown : s.vm.findClass "com/example/concordat/concordat/model/StringTypeBoundedPinLaw" = some m.cls := findClass_of_methodNamed Bd.named
  have hnm := (name_of_methodNamed Bd.named Bd.method).1
  have X0 : Stand p l e room_1 s m #[(.long p1), (.int p2)] below meth c s₁ [] 0 0 := Stand.of_body Bd
  have e0 : s₁.heap = h0 := by rw [← hh, Bd.state]; rfl
  have N0 := Fr.nil n0
  have pre0 : ∀ t, Steps p.tables e below (s₁.setTop (mkF m 0 #[.val (.long p1), .second, .val (.int p2), .unset, .unset, .unset, .unset] [])) t → Steps p.tables e below (s₁.setTop (entryFrame m #[(.long p1), (.int p2)] maxLocals)) t := fun t k => castTop (ef_rm0 m p1 p2) k
  by_cases hc1 : (p2 &&& (1 : Int32)) = (0 : Int32)
  · obtain ⟨T1, h1, X1, e1, E1, A1, D1, -, st1⟩ := newO X0 hx hZ hown (hw _ (List.mem_of_getElem? (i := 0) rfl)) (hw _ (List.mem_of_getElem? (i := 1) rfl)) (hw _ (List.mem_of_getElem? (i := 2) rfl)) e0 (g := (mkF m 12 #[.val (.long p1), .second, .val (.int p2), .val (.int (0 : Int32)), .unset, .unset, .unset] [])) rfl (hb hby at_12) (by decide) (by decide)
    obtain ⟨b1, g1⟩ : ∃ z, z = h0.size := ⟨_, rfl⟩
    rw [← g1] at A1 D1 st1
    have gnb1 : n0 ≤ b1 := Nat.le_trans (Nat.le_trans Z0 (Keep.refl h0 []).1) (Nat.le_of_eq g1.symm)
    have gzb1 : h0.size ≤ b1 := Nat.le_trans (Keep.refl h0 []).1 (Nat.le_of_eq g1.symm)
    have K2 : Keep h0 h1 [] := (Keep.refl h0 []).ext E1
    have f3 : Fld Z h1 b1 "com/example/concordat/concordat/model/StringType" "wide" "Z" (.int (0 : Int32)) := D1 (Or.inr (hw _ (List.mem_of_getElem? (i := 15) rfl))) (ty := .boolean) (by decide)
    have f4 : Fld Z h1 b1 "com/example/concordat/concordat/model/StringType" "bound" "J" (.long (0 : Int64)) := D1 (Or.inr (hw _ (List.mem_of_getElem? (i := 17) rfl))) (ty := .long) (by decide)
    obtain ⟨_, _, ⟨T5, L5, k5, n5⟩, -, X5, ⟨Lc5, hQ5, l5, y5, z5⟩, st5⟩ := X1.specialBack hx (y := (⟨"com/example/concordat/concordat/model/StringType", "<init>", "(ZJ)V"⟩ : MethodName)) rfl hown (mvT hZ (hw _ (List.mem_of_getElem? (i := 3) rfl))) (mvT hZ (hw _ (List.mem_of_getElem? (i := 4) rfl))) (mvT hZ (hw _ (List.mem_of_getElem? (i := 5) rfl))) (by decide) (backOf (W := 1) (rm_ini l Z a0 hw [] b1 (0 : Int32) p1 (.int (0 : Int32)) (.long (0 : Int64)) h1 n0 (Nat.le_trans Z0 K2.1) A1 f3 f4 gnb1) hZ (hw _ (List.mem_of_getElem? (i := 5) rfl)) (hw _ (List.mem_of_getElem? (i := 2) rfl)) (by decide) (by decide)) (g := (mkF m 18 #[.val (.long p1), .second, .val (.int p2), .val (.int (0 : Int32)), .unset, .unset, .unset] [(.long p1), (.int (0 : Int32)), (.ref b1), (.ref b1)])) rfl (by rw [hml]; rfl) (Steps.refl _) (a := b1) (argsL := [(.int (0 : Int32)), (.long p1)]) (rest := [(.ref b1)]) (lenOf pd__40ZJ_41V rfl) rfl (by show 2 * 0 + _ ≤ _; exact Nat.le_of_eq rfl) (hb hby at_18) (fun _ _ => ⟨rfl, e1, (by decide : 1 + 0 ≤ _), (by decide : 2 + 0 ≤ _)⟩)
    dsimp only [Pt.U, Pt.locs, Pt.cells, Pt.slots] at X5 l5 y5 z5 st5 hQ5
    subst l5 y5 z5
    obtain ⟨rfl, Nq5, Kc5, p5_0⟩ := hQ5
    have K6 : Keep h0 T5.heap [] := K2.trans Kc5 (allS (Or.inr gzb1) all0)
    have N5 := Fr.app N0 Nq5
    obtain ⟨T7, h7, X7, e7, E7, A7, D7, -, st7⟩ := newO X5 hx hZ hown (hw _ (List.mem_of_getElem? (i := 0) rfl)) (hw _ (List.mem_of_getElem? (i := 1) rfl)) (hw _ (List.mem_of_getElem? (i := 2) rfl)) rfl (g := (mkF m 23 #[.val (.long p1), .second, .val (.int p2), .val (.int (0 : Int32)), .val (.ref b1), .unset, .unset] [])) rfl (hb hby at_23) (by decide) (by decide)
    obtain ⟨b7, g7⟩ : ∃ z, z = T5.heap.size := ⟨_, rfl⟩
    rw [← g7] at A7 D7 st7
    have gnb7 : n0 ≤ b7 := Nat.le_trans (Nat.le_trans Z0 K6.1) (Nat.le_of_eq g7.symm)
    have gzb7 : h0.size ≤ b7 := Nat.le_trans K6.1 (Nat.le_of_eq g7.symm)
    have K8 : Keep h0 h7 [] := K6.ext E7
    have f9 : Fld Z h7 b7 "com/example/concordat/concordat/model/StringType" "wide" "Z" (.int (0 : Int32)) := D7 (Or.inr (hw _ (List.mem_of_getElem? (i := 15) rfl))) (ty := .boolean) (by decide)
    have f10 : Fld Z h7 b7 "com/example/concordat/concordat/model/StringType" "bound" "J" (.long (0 : Int64)) := D7 (Or.inr (hw _ (List.mem_of_getElem? (i := 17) rfl))) (ty := .long) (by decide)
    obtain ⟨_, _, ⟨T11, L11, k11, n11⟩, -, X11, ⟨Lc11, hQ11, l11, y11, z11⟩, st11⟩ := X7.specialBack hx (y := (⟨"com/example/concordat/concordat/model/StringType", "<init>", "(ZJ)V"⟩ : MethodName)) rfl hown (mvT hZ (hw _ (List.mem_of_getElem? (i := 3) rfl))) (mvT hZ (hw _ (List.mem_of_getElem? (i := 4) rfl))) (mvT hZ (hw _ (List.mem_of_getElem? (i := 5) rfl))) (by decide) (backOf (W := 1) (rm_ini l Z a0 hw [] b7 (1 : Int32) p1 (.int (0 : Int32)) (.long (0 : Int64)) h7 n0 (Nat.le_trans Z0 K8.1) A7 f9 f10 gnb7) hZ (hw _ (List.mem_of_getElem? (i := 5) rfl)) (hw _ (List.mem_of_getElem? (i := 2) rfl)) (by decide) (by decide)) (g := (mkF m 37 #[.val (.long p1), .second, .val (.int p2), .val (.int (0 : Int32)), .val (.ref b1), .unset, .unset] [(.long p1), (.int (1 : Int32)), (.ref b7), (.ref b7)])) rfl (by rw [hml]; rfl) (Steps.refl _) (a := b7) (argsL := [(.int (1 : Int32)), (.long p1)]) (rest := [(.ref b7)]) (lenOf pd__40ZJ_41V rfl) rfl (by show 2 * 0 + _ ≤ _; exact Nat.le_of_eq rfl) (hb hby at_37) (fun _ _ => ⟨rfl, e7, (by decide : 2 + 0 ≤ _), (by decide : 4 + 0 ≤ _)⟩)
    dsimp only [Pt.U, Pt.locs, Pt.cells, Pt.slots] at X11 l11 y11 z11 st11 hQ11
    subst l11 y11 z11
    obtain ⟨rfl, Nq11, Kc11, p11_0⟩ := hQ11
    have K12 : Keep h0 T11.heap [] := K8.trans Kc11 (allS (Or.inr gzb7) all0)
    have N11 := Fr.app N5 Nq11
    by_cases hc2 : p1 < (1 : Int64)
    · have f13 : Fld Z T11.heap b1 "com/example/concordat/concordat/model/StringType" "bound" "J" (.long p1) := ((p5_0.ext E7).keep Kc11 (ninS (Nat.ne_of_lt (Nat.lt_of_lt_of_le (A1.keep Kc5).lt (Nat.le_of_eq g7.symm))) nin0))
      have f15 : Exa Z T11.heap b1 "com/example/concordat/concordat/model/StringType" := (((A1.keep Kc5).ext E7).keep Kc11)
      obtain ⟨cq14, kq14, q14a, q14b, q14c⟩ := isOf hZ rfl f15
      obtain ⟨_, _, ⟨T14, L14, k14, n14⟩, -, X14, ⟨Lc14, hQ14, l14, y14, z14⟩, st14⟩ := X11.virtualBack hx (y := (⟨"com/example/concordat/concordat/model/StringType", "bounded", "()Z"⟩ : MethodName)) (z := (⟨"com/example/concordat/concordat/model/StringType", "bounded", "()Z"⟩ : MethodName)) hown (mvT hZ (hw _ (List.mem_of_getElem? (i := 18) rfl))) (mvT hZ (hw _ (List.mem_of_getElem? (i := 19) rfl))) (notFace_of_selects (args := #[]) (mvT hZ (hw _ (List.mem_of_getElem? (i := 21) rfl)))) (mvT hZ (hw _ (List.mem_of_getElem? (i := 21) rfl))) (mvT hZ (hw _ (List.mem_of_getElem? (i := 20) rfl))) (by decide) (backOf (W := 0) (rm_bf l Z a0 hw [] b1 p1 T11.heap n0 (Nat.le_trans Z0 K12.1) f13 (own_a hc2)) hZ (hw _ (List.mem_of_getElem? (i := 22) rfl)) (hw _ (List.mem_of_getElem? (i := 2) rfl)) (by decide) (by decide)) q14a q14c (g := (mkF m 57 #[.val (.long p1), .second, .val (.int p2), .val (.int (0 : Int32)), .val (.ref b1), .val (.ref b7), .val (.int (0 : Int32))] [(.ref b1)])) rfl (by rw [hml]; rfl) (Steps.refl _) (argsL := []) (rest := []) (lenOf pd__40_41Z rfl) rfl (by show 2 * 0 + _ ≤ _; exact Nat.le_of_eq rfl) (hb hby at_57) (fun _ _ => ⟨rfl, rfl, (by decide : 2 + 0 ≤ _), (by decide : 4 + 0 ≤ _)⟩)
      dsimp only [Pt.U, Pt.locs, Pt.cells, Pt.slots] at X14 l14 y14 z14 st14 hQ14
      subst l14 y14 z14
      obtain ⟨rfl, Nq14, e14⟩ := hQ14
      have N14 := Fr.app N11 Nq14
      have f17 : Exa Z T11.heap b7 "com/example/concordat/concordat/model/StringType" := (A7.keep Kc11)
      obtain ⟨cq16, kq16, q16a, q16b, q16c⟩ := isOf hZ e14 f17
      obtain ⟨_, _, ⟨T16, L16, k16, n16⟩, -, X16, ⟨Lc16, hQ16, l16, y16, z16⟩, st16⟩ := X14.virtualBack hx (y := (⟨"com/example/concordat/concordat/model/StringType", "bounded", "()Z"⟩ : MethodName)) (z := (⟨"com/example/concordat/concordat/model/StringType", "bounded", "()Z"⟩ : MethodName)) hown (mvT hZ (hw _ (List.mem_of_getElem? (i := 18) rfl))) (mvT hZ (hw _ (List.mem_of_getElem? (i := 19) rfl))) (notFace_of_selects (args := #[]) (mvT hZ (hw _ (List.mem_of_getElem? (i := 21) rfl)))) (mvT hZ (hw _ (List.mem_of_getElem? (i := 21) rfl))) (mvT hZ (hw _ (List.mem_of_getElem? (i := 20) rfl))) (by decide) (backOf (W := 0) (rm_bf l Z a0 hw [] b7 p1 T11.heap n0 (Nat.le_trans Z0 K12.1) p11_0 (own_a hc2)) hZ (hw _ (List.mem_of_getElem? (i := 22) rfl)) (hw _ (List.mem_of_getElem? (i := 2) rfl)) (by decide) (by decide)) q16a q16c (g := (mkF m 67 #[.val (.long p1), .second, .val (.int p2), .val (.int (0 : Int32)), .val (.ref b1), .val (.ref b7), .val (.int (0 : Int32))] [(.ref b7)])) rfl (by rw [hml]; rfl) (Steps.refl _) (argsL := []) (rest := []) (lenOf pd__40_41Z rfl) rfl (by show 2 * 0 + _ ≤ _; exact Nat.le_of_eq rfl) (hb hby at_67) (fun _ _ => ⟨rfl, e14, (by decide : 2 + 0 ≤ _), (by decide : 4 + 0 ≤ _)⟩)
      dsimp only [Pt.U, Pt.locs, Pt.cells, Pt.slots] at X16 l16 y16 z16 st16 hQ16
      subst l16 y16 z16
      obtain ⟨rfl, Nq16, e16⟩ := hQ16
      have N16 := Fr.app N14 Nq16
      obtain ⟨cq18, kq18, q18a, q18b, q18c⟩ := isOf hZ e16 f15
      obtain ⟨_, _, ⟨T18, L18, k18, n18⟩, -, X18, ⟨Lc18, hQ18, l18, y18, z18⟩, st18⟩ := X16.virtualBack hx (y := (⟨"com/example/concordat/concordat/model/StringType", "bound", "()J"⟩ : MethodName)) (z := (⟨"com/example/concordat/concordat/model/StringType", "bound", "()J"⟩ : MethodName)) hown (mvT hZ (hw _ (List.mem_of_getElem? (i := 23) rfl))) (mvT hZ (hw _ (List.mem_of_getElem? (i := 24) rfl))) (notFace_of_selects (args := #[]) (mvT hZ (hw _ (List.mem_of_getElem? (i := 26) rfl)))) (mvT hZ (hw _ (List.mem_of_getElem? (i := 26) rfl))) (mvT hZ (hw _ (List.mem_of_getElem? (i := 25) rfl))) (by decide) (backOf (W := 0) (rm_bo l Z a0 hw [] b1 p1 T11.heap n0 (Nat.le_trans Z0 K12.1) f13) hZ (hw _ (List.mem_of_getElem? (i := 27) rfl)) (hw _ (List.mem_of_getElem? (i := 2) rfl)) (by decide) (by decide)) q18a q18c (g := (mkF m 77 #[.val (.long p1), .second, .val (.int p2), .val (.int (0 : Int32)), .val (.ref b1), .val (.ref b7), .val (.int (0 : Int32))] [(.ref b1)])) rfl (by rw [hml]; rfl) (Steps.refl _) (argsL := []) (rest := []) (lenOf pd__40_41J rfl) rfl (by show 2 * 0 + _ ≤ _; exact Nat.le_of_eq rfl) (hb hby at_77) (fun _ _ => ⟨rfl, e16, (by decide : 2 + 0 ≤ _), (by decide : 4 + 0 ≤ _)⟩)
      dsimp only [Pt.U, Pt.locs, Pt.cells, Pt.slots] at X18 l18 y18 z18 st18 hQ18
      subst l18 y18 z18
      obtain ⟨rfl, Nq18, e18⟩ := hQ18
      have N18 := Fr.app N16 Nq18
      obtain ⟨fs, hr, hrun, hended, hW, hsame⟩ := X18.leave (v := some (.int (1 : Int32))) (fun h => by rw [Bd.returns] at h; cases h)
      refine ⟨_, _, pre0 _ ?_, hrun, hended, _, _, rfl, ?_, ⟨_, rfl⟩, hW, hsame.mono (by decide) (by decide)⟩
      · show Steps p.tables e below (s₁.setTop (mkF m 0 #[.val (.long p1), .second, .val (.int p2), .unset, .unset, .unset, .unset] [])) _
        refine XS.iloadN X0.here hx rfl (hb hby at_0) rfl ?_
        show Steps p.tables e below (s₁.setTop (mkF m 1 #[.val (.long p1), .second, .val (.int p2), .unset, .unset, .unset, .unset] [(.int p2)])) _
        refine XS.iconst X0.here hx rfl (hb hby at_1) ?_
        show Steps p.tables e below (s₁.setTop (mkF m 2 #[.val (.long p1), .second, .val (.int p2), .unset, .unset, .unset, .unset] [(.int (1 : Int32)), (.int p2)])) _
        refine XS.iand X0.here hx rfl (hb hby at_2) rfl ?_
        show Steps p.tables e below (s₁.setTop (mkF m 3 #[.val (.long p1), .second, .val (.int p2), .unset, .unset, .unset, .unset] [(.int (p2 &&& (1 : Int32)))])) _
        refine XS.ifYes X0.here hx rfl (pc0 := 3) (pc' := 10) rfl (hb hby at_3) rfl ((if0 _ _).trans (teq hc1).1) (by decide) (by decide) ?_
        show Steps p.tables e below (s₁.setTop (mkF m 10 #[.val (.long p1), .second, .val (.int p2), .unset, .unset, .unset, .unset] [])) _
        refine XS.iconst X0.here hx rfl (hb hby at_10) ?_
        show Steps p.tables e below (s₁.setTop (mkF m 11 #[.val (.long p1), .second, .val (.int p2), .unset, .unset, .unset, .unset] [(.int (0 : Int32))])) _
        refine XS.istoreN X0.here hx rfl (hb hby at_11) rfl (l' := #[.val (.long p1), .second, .val (.int p2), .val (.int (0 : Int32)), .unset, .unset, .unset]) rfl ?_
        show Steps p.tables e below (s₁.setTop (mkF m 12 #[.val (.long p1), .second, .val (.int p2), .val (.int (0 : Int32)), .unset, .unset, .unset] [])) _
        refine st1 _ ?_
        show Steps p.tables e below (T1.setTop (mkF m 15 #[.val (.long p1), .second, .val (.int p2), .val (.int (0 : Int32)), .unset, .unset, .unset] [(.ref b1)])) _
        refine XS.dup X1.here hx rfl (hb hby at_15) rfl rfl ?_
        show Steps p.tables e below (T1.setTop (mkF m 16 #[.val (.long p1), .second, .val (.int p2), .val (.int (0 : Int32)), .unset, .unset, .unset] [(.ref b1), (.ref b1)])) _
        refine XS.iloadN X1.here hx rfl (hb hby at_16) rfl ?_
        show Steps p.tables e below (T1.setTop (mkF m 17 #[.val (.long p1), .second, .val (.int p2), .val (.int (0 : Int32)), .unset, .unset, .unset] [(.int (0 : Int32)), (.ref b1), (.ref b1)])) _
        refine XS.lloadN X1.here hx rfl (hb hby at_17) rfl ?_
        show Steps p.tables e below (T1.setTop (mkF m 18 #[.val (.long p1), .second, .val (.int p2), .val (.int (0 : Int32)), .unset, .unset, .unset] [(.long p1), (.int (0 : Int32)), (.ref b1), (.ref b1)])) _
        refine st5.trans ?_
        show Steps p.tables e below (T5.setTop (mkF m 21 #[.val (.long p1), .second, .val (.int p2), .val (.int (0 : Int32)), .unset, .unset, .unset] [(.ref b1)])) _
        refine XS.astore X5.here hx rfl (hb hby at_21) rfl rfl (l' := #[.val (.long p1), .second, .val (.int p2), .val (.int (0 : Int32)), .val (.ref b1), .unset, .unset]) rfl ?_
        show Steps p.tables e below (T5.setTop (mkF m 23 #[.val (.long p1), .second, .val (.int p2), .val (.int (0 : Int32)), .val (.ref b1), .unset, .unset] [])) _
        refine st7 _ ?_
        show Steps p.tables e below (T7.setTop (mkF m 26 #[.val (.long p1), .second, .val (.int p2), .val (.int (0 : Int32)), .val (.ref b1), .unset, .unset] [(.ref b7)])) _
        refine XS.dup X7.here hx rfl (hb hby at_26) rfl rfl ?_
        show Steps p.tables e below (T7.setTop (mkF m 27 #[.val (.long p1), .second, .val (.int p2), .val (.int (0 : Int32)), .val (.ref b1), .unset, .unset] [(.ref b7), (.ref b7)])) _
        refine XS.iloadN X7.here hx rfl (hb hby at_27) rfl ?_
        show Steps p.tables e below (T7.setTop (mkF m 28 #[.val (.long p1), .second, .val (.int p2), .val (.int (0 : Int32)), .val (.ref b1), .unset, .unset] [(.int (0 : Int32)), (.ref b7), (.ref b7)])) _
        refine XS.ifNo X7.here hx rfl (hb hby at_28) rfl ((if0 _ _).trans (teq (by decide : (0 : Int32) = (0 : Int32))).2) ?_
        show Steps p.tables e below (T7.setTop (mkF m 31 #[.val (.long p1), .second, .val (.int p2), .val (.int (0 : Int32)), .val (.ref b1), .unset, .unset] [(.ref b7), (.ref b7)])) _
        refine XS.iconst X7.here hx rfl (hb hby at_31) ?_
        show Steps p.tables e below (T7.setTop (mkF m 32 #[.val (.long p1), .second, .val (.int p2), .val (.int (0 : Int32)), .val (.ref b1), .unset, .unset] [(.int (1 : Int32)), (.ref b7), (.ref b7)])) _
        refine XS.goto X7.here hx rfl (pc0 := 32) (pc' := 36) rfl (hb hby at_32) (by decide) (by decide) ?_
        show Steps p.tables e below (T7.setTop (mkF m 36 #[.val (.long p1), .second, .val (.int p2), .val (.int (0 : Int32)), .val (.ref b1), .unset, .unset] [(.int (1 : Int32)), (.ref b7), (.ref b7)])) _
        refine XS.lloadN X7.here hx rfl (hb hby at_36) rfl ?_
        show Steps p.tables e below (T7.setTop (mkF m 37 #[.val (.long p1), .second, .val (.int p2), .val (.int (0 : Int32)), .val (.ref b1), .unset, .unset] [(.long p1), (.int (1 : Int32)), (.ref b7), (.ref b7)])) _
        refine st11.trans ?_
        show Steps p.tables e below (T11.setTop (mkF m 40 #[.val (.long p1), .second, .val (.int p2), .val (.int (0 : Int32)), .val (.ref b1), .unset, .unset] [(.ref b7)])) _
        refine XS.astore X11.here hx rfl (hb hby at_40) rfl rfl (l' := #[.val (.long p1), .second, .val (.int p2), .val (.int (0 : Int32)), .val (.ref b1), .val (.ref b7), .unset]) rfl ?_
        show Steps p.tables e below (T11.setTop (mkF m 42 #[.val (.long p1), .second, .val (.int p2), .val (.int (0 : Int32)), .val (.ref b1), .val (.ref b7), .unset] [])) _
        refine XS.lloadN X11.here hx rfl (hb hby at_42) rfl ?_
        show Steps p.tables e below (T11.setTop (mkF m 43 #[.val (.long p1), .second, .val (.int p2), .val (.int (0 : Int32)), .val (.ref b1), .val (.ref b7), .unset] [(.long p1)])) _
        refine XS.lconst X11.here hx rfl (hb hby at_43) ?_
        show Steps p.tables e below (T11.setTop (mkF m 44 #[.val (.long p1), .second, .val (.int p2), .val (.int (0 : Int32)), .val (.ref b1), .val (.ref b7), .unset] [(.long (1 : Int64)), (.long p1)])) _
        refine XS.lcmp X11.here hx rfl (hb hby at_44) rfl ?_
        show Steps p.tables e below (T11.setTop (mkF m 45 #[.val (.long p1), .second, .val (.int p2), .val (.int (0 : Int32)), .val (.ref b1), .val (.ref b7), .unset] [(.int (lcmpW p1 (1 : Int64)))])) _
        refine XS.ifYes X11.here hx rfl (pc0 := 45) (pc' := 52) rfl (hb hby at_45) rfl ((if0 _ _).trans (tlt ((lw_lt _ _).mpr hc2)).1) (by decide) (by decide) ?_
        show Steps p.tables e below (T11.setTop (mkF m 52 #[.val (.long p1), .second, .val (.int p2), .val (.int (0 : Int32)), .val (.ref b1), .val (.ref b7), .unset] [])) _
        refine XS.iconst X11.here hx rfl (hb hby at_52) ?_
        show Steps p.tables e below (T11.setTop (mkF m 53 #[.val (.long p1), .second, .val (.int p2), .val (.int (0 : Int32)), .val (.ref b1), .val (.ref b7), .unset] [(.int (0 : Int32))])) _
        refine XS.istore X11.here hx rfl (hb hby at_53) rfl (l' := #[.val (.long p1), .second, .val (.int p2), .val (.int (0 : Int32)), .val (.ref b1), .val (.ref b7), .val (.int (0 : Int32))]) rfl ?_
        show Steps p.tables e below (T11.setTop (mkF m 55 #[.val (.long p1), .second, .val (.int p2), .val (.int (0 : Int32)), .val (.ref b1), .val (.ref b7), .val (.int (0 : Int32))] [])) _
        refine XS.aload X11.here hx rfl (hb hby at_55) rfl rfl ?_
        show Steps p.tables e below (T11.setTop (mkF m 57 #[.val (.long p1), .second, .val (.int p2), .val (.int (0 : Int32)), .val (.ref b1), .val (.ref b7), .val (.int (0 : Int32))] [(.ref b1)])) _
        refine st14.trans ?_
        show Steps p.tables e below (T14.setTop (mkF m 60 #[.val (.long p1), .second, .val (.int p2), .val (.int (0 : Int32)), .val (.ref b1), .val (.ref b7), .val (.int (0 : Int32))] [(.int (0 : Int32))])) _
        refine XS.iload X14.here hx rfl (hb hby at_60) rfl ?_
        show Steps p.tables e below (T14.setTop (mkF m 62 #[.val (.long p1), .second, .val (.int p2), .val (.int (0 : Int32)), .val (.ref b1), .val (.ref b7), .val (.int (0 : Int32))] [(.int (0 : Int32)), (.int (0 : Int32))])) _
        refine XS.icmpNo X14.here hx rfl (hb hby at_62) rfl (teq (by decide : (0 : Int32) = (0 : Int32))).2 ?_
        show Steps p.tables e below (T14.setTop (mkF m 65 #[.val (.long p1), .second, .val (.int p2), .val (.int (0 : Int32)), .val (.ref b1), .val (.ref b7), .val (.int (0 : Int32))] [])) _
        refine XS.aload X14.here hx rfl (hb hby at_65) rfl rfl ?_
        show Steps p.tables e below (T14.setTop (mkF m 67 #[.val (.long p1), .second, .val (.int p2), .val (.int (0 : Int32)), .val (.ref b1), .val (.ref b7), .val (.int (0 : Int32))] [(.ref b7)])) _
        refine st16.trans ?_
        show Steps p.tables e below (T16.setTop (mkF m 70 #[.val (.long p1), .second, .val (.int p2), .val (.int (0 : Int32)), .val (.ref b1), .val (.ref b7), .val (.int (0 : Int32))] [(.int (0 : Int32))])) _
        refine XS.iload X16.here hx rfl (hb hby at_70) rfl ?_
        show Steps p.tables e below (T16.setTop (mkF m 72 #[.val (.long p1), .second, .val (.int p2), .val (.int (0 : Int32)), .val (.ref b1), .val (.ref b7), .val (.int (0 : Int32))] [(.int (0 : Int32)), (.int (0 : Int32))])) _
        refine XS.icmpNo X16.here hx rfl (hb hby at_72) rfl (teq (by decide : (0 : Int32) = (0 : Int32))).2 ?_
        show Steps p.tables e below (T16.setTop (mkF m 75 #[.val (.long p1), .second, .val (.int p2), .val (.int (0 : Int32)), .val (.ref b1), .val (.ref b7), .val (.int (0 : Int32))] [])) _
        refine XS.aload X16.here hx rfl (hb hby at_75) rfl rfl ?_
        show Steps p.tables e below (T16.setTop (mkF m 77 #[.val (.long p1), .second, .val (.int p2), .val (.int (0 : Int32)), .val (.ref b1), .val (.ref b7), .val (.int (0 : Int32))] [(.ref b1)])) _
        refine st18.trans ?_
        show Steps p.tables e below (T18.setTop (mkF m 80 #[.val (.long p1), .second, .val (.int p2), .val (.int (0 : Int32)), .val (.ref b1), .val (.ref b7), .val (.int (0 : Int32))] [(.long p1)])) _
        refine XS.lloadN X18.here hx rfl (hb hby at_80) rfl ?_
        show Steps p.tables e below (T18.setTop (mkF m 81 #[.val (.long p1), .second, .val (.int p2), .val (.int (0 : Int32)), .val (.ref b1), .val (.ref b7), .val (.int (0 : Int32))] [(.long p1), (.long p1)])) _
        refine XS.lcmp X18.here hx rfl (hb hby at_81) rfl ?_
        show Steps p.tables e below (T18.setTop (mkF m 82 #[.val (.long p1), .second, .val (.int p2), .val (.int (0 : Int32)), .val (.ref b1), .val (.ref b7), .val (.int (0 : Int32))] [(.int (lcmpW p1 p1))])) _
        refine XS.ifNo X18.here hx rfl (hb hby at_82) rfl ((if0 _ _).trans (teq ((lw_eq _ _).mpr (rfl : p1 = p1))).2) ?_
        show Steps p.tables e below (T18.setTop (mkF m 85 #[.val (.long p1), .second, .val (.int p2), .val (.int (0 : Int32)), .val (.ref b1), .val (.ref b7), .val (.int (0 : Int32))] [])) _
        refine XS.iconst X18.here hx rfl (hb hby at_85) ?_
        show Steps p.tables e below (T18.setTop (mkF m 86 #[.val (.long p1), .second, .val (.int p2), .val (.int (0 : Int32)), .val (.ref b1), .val (.ref b7), .val (.int (0 : Int32))] [(.int (1 : Int32))])) _
        refine XS.goto X18.here hx rfl (pc0 := 86) (pc' := 90) rfl (hb hby at_86) (by decide) (by decide) ?_
        show Steps p.tables e below (T18.setTop (mkF m 90 #[.val (.long p1), .second, .val (.int p2), .val (.int (0 : Int32)), .val (.ref b1), .val (.ref b7), .val (.int (0 : Int32))] [(.int (1 : Int32))])) _
        exact retN X18 hx (t := .boolean) Bd.returns (by simp) (hb hby at_90) hr
      · show Q_rm0 Z p1 p2 h0 n0 _ T18.heap _
        exact ⟨rfl, N18⟩
    · have f19 : Fld Z T11.heap b1 "com/example/concordat/concordat/model/StringType" "bound" "J" (.long p1) := ((p5_0.ext E7).keep Kc11 (ninS (Nat.ne_of_lt (Nat.lt_of_lt_of_le (A1.keep Kc5).lt (Nat.le_of_eq g7.symm))) nin0))
      have f21 : Exa Z T11.heap b1 "com/example/concordat/concordat/model/StringType" := (((A1.keep Kc5).ext E7).keep Kc11)
      obtain ⟨cq20, kq20, q20a, q20b, q20c⟩ := isOf hZ rfl f21
      obtain ⟨_, _, ⟨T20, L20, k20, n20⟩, -, X20, ⟨Lc20, hQ20, l20, y20, z20⟩, st20⟩ := X11.virtualBack hx (y := (⟨"com/example/concordat/concordat/model/StringType", "bounded", "()Z"⟩ : MethodName)) (z := (⟨"com/example/concordat/concordat/model/StringType", "bounded", "()Z"⟩ : MethodName)) hown (mvT hZ (hw _ (List.mem_of_getElem? (i := 18) rfl))) (mvT hZ (hw _ (List.mem_of_getElem? (i := 19) rfl))) (notFace_of_selects (args := #[]) (mvT hZ (hw _ (List.mem_of_getElem? (i := 21) rfl)))) (mvT hZ (hw _ (List.mem_of_getElem? (i := 21) rfl))) (mvT hZ (hw _ (List.mem_of_getElem? (i := 20) rfl))) (by decide) (backOf (W := 0) (rm_bt l Z a0 hw [] b1 p1 T11.heap n0 (Nat.le_trans Z0 K12.1) f19 (own_b hc2)) hZ (hw _ (List.mem_of_getElem? (i := 22) rfl)) (hw _ (List.mem_of_getElem? (i := 2) rfl)) (by decide) (by decide)) q20a q20c (g := (mkF m 57 #[.val (.long p1), .second, .val (.int p2), .val (.int (0 : Int32)), .val (.ref b1), .val (.ref b7), .val (.int (1 : Int32))] [(.ref b1)])) rfl (by rw [hml]; rfl) (Steps.refl _) (argsL := []) (rest := []) (lenOf pd__40_41Z rfl) rfl (by show 2 * 0 + _ ≤ _; exact Nat.le_of_eq rfl) (hb hby at_57) (fun _ _ => ⟨rfl, rfl, (by decide : 2 + 0 ≤ _), (by decide : 4 + 0 ≤ _)⟩)
      dsimp only [Pt.U, Pt.locs, Pt.cells, Pt.slots] at X20 l20 y20 z20 st20 hQ20
      subst l20 y20 z20
      obtain ⟨rfl, Nq20, e20⟩ := hQ20
      have N20 := Fr.app N11 Nq20
      have f23 : Exa Z T11.heap b7 "com/example/concordat/concordat/model/StringType" := (A7.keep Kc11)
      obtain ⟨cq22, kq22, q22a, q22b, q22c⟩ := isOf hZ e20 f23
      obtain ⟨_, _, ⟨T22, L22, k22, n22⟩, -, X22, ⟨Lc22, hQ22, l22, y22, z22⟩, st22⟩ := X20.virtualBack hx (y := (⟨"com/example/concordat/concordat/model/StringType", "bounded", "()Z"⟩ : MethodName)) (z := (⟨"com/example/concordat/concordat/model/StringType", "bounded", "()Z"⟩ : MethodName)) hown (mvT hZ (hw _ (List.mem_of_getElem? (i := 18) rfl))) (mvT hZ (hw _ (List.mem_of_getElem? (i := 19) rfl))) (notFace_of_selects (args := #[]) (mvT hZ (hw _ (List.mem_of_getElem? (i := 21) rfl)))) (mvT hZ (hw _ (List.mem_of_getElem? (i := 21) rfl))) (mvT hZ (hw _ (List.mem_of_getElem? (i := 20) rfl))) (by decide) (backOf (W := 0) (rm_bt l Z a0 hw [] b7 p1 T11.heap n0 (Nat.le_trans Z0 K12.1) p11_0 (own_b hc2)) hZ (hw _ (List.mem_of_getElem? (i := 22) rfl)) (hw _ (List.mem_of_getElem? (i := 2) rfl)) (by decide) (by decide)) q22a q22c (g := (mkF m 67 #[.val (.long p1), .second, .val (.int p2), .val (.int (0 : Int32)), .val (.ref b1), .val (.ref b7), .val (.int (1 : Int32))] [(.ref b7)])) rfl (by rw [hml]; rfl) (Steps.refl _) (argsL := []) (rest := []) (lenOf pd__40_41Z rfl) rfl (by show 2 * 0 + _ ≤ _; exact Nat.le_of_eq rfl) (hb hby at_67) (fun _ _ => ⟨rfl, e20, (by decide : 2 + 0 ≤ _), (by decide : 4 + 0 ≤ _)⟩)
      dsimp only [Pt.U, Pt.locs, Pt.cells, Pt.slots] at X22 l22 y22 z22 st22 hQ22
      subst l22 y22 z22
      obtain ⟨rfl, Nq22, e22⟩ := hQ22
      have N22 := Fr.app N20 Nq22
      obtain ⟨cq24, kq24, q24a, q24b, q24c⟩ := isOf hZ e22 f21
      obtain ⟨_, _, ⟨T24, L24, k24, n24⟩, -, X24, ⟨Lc24, hQ24, l24, y24, z24⟩, st24⟩ := X22.virtualBack hx (y := (⟨"com/example/concordat/concordat/model/StringType", "bound", "()J"⟩ : MethodName)) (z := (⟨"com/example/concordat/concordat/model/StringType", "bound", "()J"⟩ : MethodName)) hown (mvT hZ (hw _ (List.mem_of_getElem? (i := 23) rfl))) (mvT hZ (hw _ (List.mem_of_getElem? (i := 24) rfl))) (notFace_of_selects (args := #[]) (mvT hZ (hw _ (List.mem_of_getElem? (i := 26) rfl)))) (mvT hZ (hw _ (List.mem_of_getElem? (i := 26) rfl))) (mvT hZ (hw _ (List.mem_of_getElem? (i := 25) rfl))) (by decide) (backOf (W := 0) (rm_bo l Z a0 hw [] b1 p1 T11.heap n0 (Nat.le_trans Z0 K12.1) f19) hZ (hw _ (List.mem_of_getElem? (i := 27) rfl)) (hw _ (List.mem_of_getElem? (i := 2) rfl)) (by decide) (by decide)) q24a q24c (g := (mkF m 77 #[.val (.long p1), .second, .val (.int p2), .val (.int (0 : Int32)), .val (.ref b1), .val (.ref b7), .val (.int (1 : Int32))] [(.ref b1)])) rfl (by rw [hml]; rfl) (Steps.refl _) (argsL := []) (rest := []) (lenOf pd__40_41J rfl) rfl (by show 2 * 0 + _ ≤ _; exact Nat.le_of_eq rfl) (hb hby at_77) (fun _ _ => ⟨rfl, e22, (by decide : 2 + 0 ≤ _), (by decide : 4 + 0 ≤ _)⟩)
      dsimp only [Pt.U, Pt.locs, Pt.cells, Pt.slots] at X24 l24 y24 z24 st24 hQ24
      subst l24 y24 z24
      obtain ⟨rfl, Nq24, e24⟩ := hQ24
      have N24 := Fr.app N22 Nq24
      obtain ⟨fs, hr, hrun, hended, hW, hsame⟩ := X24.leave (v := some (.int (1 : Int32))) (fun h => by rw [Bd.returns] at h; cases h)
      refine ⟨_, _, pre0 _ ?_, hrun, hended, _, _, rfl, ?_, ⟨_, rfl⟩, hW, hsame.mono (by decide) (by decide)⟩
      · show Steps p.tables e below (s₁.setTop (mkF m 0 #[.val (.long p1), .second, .val (.int p2), .unset, .unset, .unset, .unset] [])) _
        refine XS.iloadN X0.here hx rfl (hb hby at_0) rfl ?_
        show Steps p.tables e below (s₁.setTop (mkF m 1 #[.val (.long p1), .second, .val (.int p2), .unset, .unset, .unset, .unset] [(.int p2)])) _
        refine XS.iconst X0.here hx rfl (hb hby at_1) ?_
        show Steps p.tables e below (s₁.setTop (mkF m 2 #[.val (.long p1), .second, .val (.int p2), .unset, .unset, .unset, .unset] [(.int (1 : Int32)), (.int p2)])) _
        refine XS.iand X0.here hx rfl (hb hby at_2) rfl ?_
        show Steps p.tables e below (s₁.setTop (mkF m 3 #[.val (.long p1), .second, .val (.int p2), .unset, .unset, .unset, .unset] [(.int (p2 &&& (1 : Int32)))])) _
        refine XS.ifYes X0.here hx rfl (pc0 := 3) (pc' := 10) rfl (hb hby at_3) rfl ((if0 _ _).trans (teq hc1).1) (by decide) (by decide) ?_
        show Steps p.tables e below (s₁.setTop (mkF m 10 #[.val (.long p1), .second, .val (.int p2), .unset, .unset, .unset, .unset] [])) _
        refine XS.iconst X0.here hx rfl (hb hby at_10) ?_
        show Steps p.tables e below (s₁.setTop (mkF m 11 #[.val (.long p1), .second, .val (.int p2), .unset, .unset, .unset, .unset] [(.int (0 : Int32))])) _
        refine XS.istoreN X0.here hx rfl (hb hby at_11) rfl (l' := #[.val (.long p1), .second, .val (.int p2), .val (.int (0 : Int32)), .unset, .unset, .unset]) rfl ?_
        show Steps p.tables e below (s₁.setTop (mkF m 12 #[.val (.long p1), .second, .val (.int p2), .val (.int (0 : Int32)), .unset, .unset, .unset] [])) _
        refine st1 _ ?_
        show Steps p.tables e below (T1.setTop (mkF m 15 #[.val (.long p1), .second, .val (.int p2), .val (.int (0 : Int32)), .unset, .unset, .unset] [(.ref b1)])) _
        refine XS.dup X1.here hx rfl (hb hby at_15) rfl rfl ?_
        show Steps p.tables e below (T1.setTop (mkF m 16 #[.val (.long p1), .second, .val (.int p2), .val (.int (0 : Int32)), .unset, .unset, .unset] [(.ref b1), (.ref b1)])) _
        refine XS.iloadN X1.here hx rfl (hb hby at_16) rfl ?_
        show Steps p.tables e below (T1.setTop (mkF m 17 #[.val (.long p1), .second, .val (.int p2), .val (.int (0 : Int32)), .unset, .unset, .unset] [(.int (0 : Int32)), (.ref b1), (.ref b1)])) _
        refine XS.lloadN X1.here hx rfl (hb hby at_17) rfl ?_
        show Steps p.tables e below (T1.setTop (mkF m 18 #[.val (.long p1), .second, .val (.int p2), .val (.int (0 : Int32)), .unset, .unset, .unset] [(.long p1), (.int (0 : Int32)), (.ref b1), (.ref b1)])) _
        refine st5.trans ?_
        show Steps p.tables e below (T5.setTop (mkF m 21 #[.val (.long p1), .second, .val (.int p2), .val (.int (0 : Int32)), .unset, .unset, .unset] [(.ref b1)])) _
        refine XS.astore X5.here hx rfl (hb hby at_21) rfl rfl (l' := #[.val (.long p1), .second, .val (.int p2), .val (.int (0 : Int32)), .val (.ref b1), .unset, .unset]) rfl ?_
        show Steps p.tables e below (T5.setTop (mkF m 23 #[.val (.long p1), .second, .val (.int p2), .val (.int (0 : Int32)), .val (.ref b1), .unset, .unset] [])) _
        refine st7 _ ?_
        show Steps p.tables e below (T7.setTop (mkF m 26 #[.val (.long p1), .second, .val (.int p2), .val (.int (0 : Int32)), .val (.ref b1), .unset, .unset] [(.ref b7)])) _
        refine XS.dup X7.here hx rfl (hb hby at_26) rfl rfl ?_
        show Steps p.tables e below (T7.setTop (mkF m 27 #[.val (.long p1), .second, .val (.int p2), .val (.int (0 : Int32)), .val (.ref b1), .unset, .unset] [(.ref b7), (.ref b7)])) _
        refine XS.iloadN X7.here hx rfl (hb hby at_27) rfl ?_
        show Steps p.tables e below (T7.setTop (mkF m 28 #[.val (.long p1), .second, .val (.int p2), .val (.int (0 : Int32)), .val (.ref b1), .unset, .unset] [(.int (0 : Int32)), (.ref b7), (.ref b7)])) _
        refine XS.ifNo X7.here hx rfl (hb hby at_28) rfl ((if0 _ _).trans (teq (by decide : (0 : Int32) = (0 : Int32))).2) ?_
        show Steps p.tables e below (T7.setTop (mkF m 31 #[.val (.long p1), .second, .val (.int p2), .val (.int (0 : Int32)), .val (.ref b1), .unset, .unset] [(.ref b7), (.ref b7)])) _
        refine XS.iconst X7.here hx rfl (hb hby at_31) ?_
        show Steps p.tables e below (T7.setTop (mkF m 32 #[.val (.long p1), .second, .val (.int p2), .val (.int (0 : Int32)), .val (.ref b1), .unset, .unset] [(.int (1 : Int32)), (.ref b7), (.ref b7)])) _
        refine XS.goto X7.here hx rfl (pc0 := 32) (pc' := 36) rfl (hb hby at_32) (by decide) (by decide) ?_
        show Steps p.tables e below (T7.setTop (mkF m 36 #[.val (.long p1), .second, .val (.int p2), .val (.int (0 : Int32)), .val (.ref b1), .unset, .unset] [(.int (1 : Int32)), (.ref b7), (.ref b7)])) _
        refine XS.lloadN X7.here hx rfl (hb hby at_36) rfl ?_
        show Steps p.tables e below (T7.setTop (mkF m 37 #[.val (.long p1), .second, .val (.int p2), .val (.int (0 : Int32)), .val (.ref b1), .unset, .unset] [(.long p1), (.int (1 : Int32)), (.ref b7), (.ref b7)])) _
        refine st11.trans ?_
        show Steps p.tables e below (T11.setTop (mkF m 40 #[.val (.long p1), .second, .val (.int p2), .val (.int (0 : Int32)), .val (.ref b1), .unset, .unset] [(.ref b7)])) _
        refine XS.astore X11.here hx rfl (hb hby at_40) rfl rfl (l' := #[.val (.long p1), .second, .val (.int p2), .val (.int (0 : Int32)), .val (.ref b1), .val (.ref b7), .unset]) rfl ?_
        show Steps p.tables e below (T11.setTop (mkF m 42 #[.val (.long p1), .second, .val (.int p2), .val (.int (0 : Int32)), .val (.ref b1), .val (.ref b7), .unset] [])) _
        refine XS.lloadN X11.here hx rfl (hb hby at_42) rfl ?_
        show Steps p.tables e below (T11.setTop (mkF m 43 #[.val (.long p1), .second, .val (.int p2), .val (.int (0 : Int32)), .val (.ref b1), .val (.ref b7), .unset] [(.long p1)])) _
        refine XS.lconst X11.here hx rfl (hb hby at_43) ?_
        show Steps p.tables e below (T11.setTop (mkF m 44 #[.val (.long p1), .second, .val (.int p2), .val (.int (0 : Int32)), .val (.ref b1), .val (.ref b7), .unset] [(.long (1 : Int64)), (.long p1)])) _
        refine XS.lcmp X11.here hx rfl (hb hby at_44) rfl ?_
        show Steps p.tables e below (T11.setTop (mkF m 45 #[.val (.long p1), .second, .val (.int p2), .val (.int (0 : Int32)), .val (.ref b1), .val (.ref b7), .unset] [(.int (lcmpW p1 (1 : Int64)))])) _
        refine XS.ifNo X11.here hx rfl (hb hby at_45) rfl ((if0 _ _).trans (flt (fun q_ => hc2 ((lw_lt _ _).mp q_))).1) ?_
        show Steps p.tables e below (T11.setTop (mkF m 48 #[.val (.long p1), .second, .val (.int p2), .val (.int (0 : Int32)), .val (.ref b1), .val (.ref b7), .unset] [])) _
        refine XS.iconst X11.here hx rfl (hb hby at_48) ?_
        show Steps p.tables e below (T11.setTop (mkF m 49 #[.val (.long p1), .second, .val (.int p2), .val (.int (0 : Int32)), .val (.ref b1), .val (.ref b7), .unset] [(.int (1 : Int32))])) _
        refine XS.goto X11.here hx rfl (pc0 := 49) (pc' := 53) rfl (hb hby at_49) (by decide) (by decide) ?_
        show Steps p.tables e below (T11.setTop (mkF m 53 #[.val (.long p1), .second, .val (.int p2), .val (.int (0 : Int32)), .val (.ref b1), .val (.ref b7), .unset] [(.int (1 : Int32))])) _
        refine XS.istore X11.here hx rfl (hb hby at_53) rfl (l' := #[.val (.long p1), .second, .val (.int p2), .val (.int (0 : Int32)), .val (.ref b1), .val (.ref b7), .val (.int (1 : Int32))]) rfl ?_
        show Steps p.tables e below (T11.setTop (mkF m 55 #[.val (.long p1), .second, .val (.int p2), .val (.int (0 : Int32)), .val (.ref b1), .val (.ref b7), .val (.int (1 : Int32))] [])) _
        refine XS.aload X11.here hx rfl (hb hby at_55) rfl rfl ?_
        show Steps p.tables e below (T11.setTop (mkF m 57 #[.val (.long p1), .second, .val (.int p2), .val (.int (0 : Int32)), .val (.ref b1), .val (.ref b7), .val (.int (1 : Int32))] [(.ref b1)])) _
        refine st20.trans ?_
        show Steps p.tables e below (T20.setTop (mkF m 60 #[.val (.long p1), .second, .val (.int p2), .val (.int (0 : Int32)), .val (.ref b1), .val (.ref b7), .val (.int (1 : Int32))] [(.int (1 : Int32))])) _
        refine XS.iload X20.here hx rfl (hb hby at_60) rfl ?_
        show Steps p.tables e below (T20.setTop (mkF m 62 #[.val (.long p1), .second, .val (.int p2), .val (.int (0 : Int32)), .val (.ref b1), .val (.ref b7), .val (.int (1 : Int32))] [(.int (1 : Int32)), (.int (1 : Int32))])) _
        refine XS.icmpNo X20.here hx rfl (hb hby at_62) rfl (teq (by decide : (1 : Int32) = (1 : Int32))).2 ?_
        show Steps p.tables e below (T20.setTop (mkF m 65 #[.val (.long p1), .second, .val (.int p2), .val (.int (0 : Int32)), .val (.ref b1), .val (.ref b7), .val (.int (1 : Int32))] [])) _
        refine XS.aload X20.here hx rfl (hb hby at_65) rfl rfl ?_
        show Steps p.tables e below (T20.setTop (mkF m 67 #[.val (.long p1), .second, .val (.int p2), .val (.int (0 : Int32)), .val (.ref b1), .val (.ref b7), .val (.int (1 : Int32))] [(.ref b7)])) _
        refine st22.trans ?_
        show Steps p.tables e below (T22.setTop (mkF m 70 #[.val (.long p1), .second, .val (.int p2), .val (.int (0 : Int32)), .val (.ref b1), .val (.ref b7), .val (.int (1 : Int32))] [(.int (1 : Int32))])) _
        refine XS.iload X22.here hx rfl (hb hby at_70) rfl ?_
        show Steps p.tables e below (T22.setTop (mkF m 72 #[.val (.long p1), .second, .val (.int p2), .val (.int (0 : Int32)), .val (.ref b1), .val (.ref b7), .val (.int (1 : Int32))] [(.int (1 : Int32)), (.int (1 : Int32))])) _
        refine XS.icmpNo X22.here hx rfl (hb hby at_72) rfl (teq (by decide : (1 : Int32) = (1 : Int32))).2 ?_
        show Steps p.tables e below (T22.setTop (mkF m 75 #[.val (.long p1), .second, .val (.int p2), .val (.int (0 : Int32)), .val (.ref b1), .val (.ref b7), .val (.int (1 : Int32))] [])) _
        refine XS.aload X22.here hx rfl (hb hby at_75) rfl rfl ?_
        show Steps p.tables e below (T22.setTop (mkF m 77 #[.val (.long p1), .second, .val (.int p2), .val (.int (0 : Int32)), .val (.ref b1), .val (.ref b7), .val (.int (1 : Int32))] [(.ref b1)])) _
        refine st24.trans ?_
        show Steps p.tables e below (T24.setTop (mkF m 80 #[.val (.long p1), .second, .val (.int p2), .val (.int (0 : Int32)), .val (.ref b1), .val (.ref b7), .val (.int (1 : Int32))] [(.long p1)])) _
        refine XS.lloadN X24.here hx rfl (hb hby at_80) rfl ?_
        show Steps p.tables e below (T24.setTop (mkF m 81 #[.val (.long p1), .second, .val (.int p2), .val (.int (0 : Int32)), .val (.ref b1), .val (.ref b7), .val (.int (1 : Int32))] [(.long p1), (.long p1)])) _
        refine XS.lcmp X24.here hx rfl (hb hby at_81) rfl ?_
        show Steps p.tables e below (T24.setTop (mkF m 82 #[.val (.long p1), .second, .val (.int p2), .val (.int (0 : Int32)), .val (.ref b1), .val (.ref b7), .val (.int (1 : Int32))] [(.int (lcmpW p1 p1))])) _
        refine XS.ifNo X24.here hx rfl (hb hby at_82) rfl ((if0 _ _).trans (teq ((lw_eq _ _).mpr (rfl : p1 = p1))).2) ?_
        show Steps p.tables e below (T24.setTop (mkF m 85 #[.val (.long p1), .second, .val (.int p2), .val (.int (0 : Int32)), .val (.ref b1), .val (.ref b7), .val (.int (1 : Int32))] [])) _
        refine XS.iconst X24.here hx rfl (hb hby at_85) ?_
        show Steps p.tables e below (T24.setTop (mkF m 86 #[.val (.long p1), .second, .val (.int p2), .val (.int (0 : Int32)), .val (.ref b1), .val (.ref b7), .val (.int (1 : Int32))] [(.int (1 : Int32))])) _
        refine XS.goto X24.here hx rfl (pc0 := 86) (pc' := 90) rfl (hb hby at_86) (by decide) (by decide) ?_
        show Steps p.tables e below (T24.setTop (mkF m 90 #[.val (.long p1), .second, .val (.int p2), .val (.int (0 : Int32)), .val (.ref b1), .val (.ref b7), .val (.int (1 : Int32))] [(.int (1 : Int32))])) _
        exact retN X24 hx (t := .boolean) Bd.returns (by simp) (hb hby at_90) hr
      · show Q_rm0 Z p1 p2 h0 n0 _ T24.heap _
        exact ⟨rfl, N24⟩
  · obtain ⟨T25, h25, X25, e25, E25, A25, D25, -, st25⟩ := newO X0 hx hZ hown (hw _ (List.mem_of_getElem? (i := 0) rfl)) (hw _ (List.mem_of_getElem? (i := 1) rfl)) (hw _ (List.mem_of_getElem? (i := 2) rfl)) e0 (g := (mkF m 12 #[.val (.long p1), .second, .val (.int p2), .val (.int (1 : Int32)), .unset, .unset, .unset] [])) rfl (hb hby at_12) (by decide) (by decide)
    obtain ⟨b25, g25⟩ : ∃ z, z = h0.size := ⟨_, rfl⟩
    rw [← g25] at A25 D25 st25
    have gnb25 : n0 ≤ b25 := Nat.le_trans (Nat.le_trans Z0 (Keep.refl h0 []).1) (Nat.le_of_eq g25.symm)
    have gzb25 : h0.size ≤ b25 := Nat.le_trans (Keep.refl h0 []).1 (Nat.le_of_eq g25.symm)
    have K26 : Keep h0 h25 [] := (Keep.refl h0 []).ext E25
    have f27 : Fld Z h25 b25 "com/example/concordat/concordat/model/StringType" "wide" "Z" (.int (0 : Int32)) := D25 (Or.inr (hw _ (List.mem_of_getElem? (i := 15) rfl))) (ty := .boolean) (by decide)
    have f28 : Fld Z h25 b25 "com/example/concordat/concordat/model/StringType" "bound" "J" (.long (0 : Int64)) := D25 (Or.inr (hw _ (List.mem_of_getElem? (i := 17) rfl))) (ty := .long) (by decide)
    obtain ⟨_, _, ⟨T29, L29, k29, n29⟩, -, X29, ⟨Lc29, hQ29, l29, y29, z29⟩, st29⟩ := X25.specialBack hx (y := (⟨"com/example/concordat/concordat/model/StringType", "<init>", "(ZJ)V"⟩ : MethodName)) rfl hown (mvT hZ (hw _ (List.mem_of_getElem? (i := 3) rfl))) (mvT hZ (hw _ (List.mem_of_getElem? (i := 4) rfl))) (mvT hZ (hw _ (List.mem_of_getElem? (i := 5) rfl))) (by decide) (backOf (W := 1) (rm_ini l Z a0 hw [] b25 (1 : Int32) p1 (.int (0 : Int32)) (.long (0 : Int64)) h25 n0 (Nat.le_trans Z0 K26.1) A25 f27 f28 gnb25) hZ (hw _ (List.mem_of_getElem? (i := 5) rfl)) (hw _ (List.mem_of_getElem? (i := 2) rfl)) (by decide) (by decide)) (g := (mkF m 18 #[.val (.long p1), .second, .val (.int p2), .val (.int (1 : Int32)), .unset, .unset, .unset] [(.long p1), (.int (1 : Int32)), (.ref b25), (.ref b25)])) rfl (by rw [hml]; rfl) (Steps.refl _) (a := b25) (argsL := [(.int (1 : Int32)), (.long p1)]) (rest := [(.ref b25)]) (lenOf pd__40ZJ_41V rfl) rfl (by show 2 * 0 + _ ≤ _; exact Nat.le_of_eq rfl) (hb hby at_18) (fun _ _ => ⟨rfl, e25, (by decide : 1 + 0 ≤ _), (by decide : 2 + 0 ≤ _)⟩)
    dsimp only [Pt.U, Pt.locs, Pt.cells, Pt.slots] at X29 l29 y29 z29 st29 hQ29
    subst l29 y29 z29
    obtain ⟨rfl, Nq29, Kc29, p29_0⟩ := hQ29
    have K30 : Keep h0 T29.heap [] := K26.trans Kc29 (allS (Or.inr gzb25) all0)
    have N29 := Fr.app N0 Nq29
    obtain ⟨T31, h31, X31, e31, E31, A31, D31, -, st31⟩ := newO X29 hx hZ hown (hw _ (List.mem_of_getElem? (i := 0) rfl)) (hw _ (List.mem_of_getElem? (i := 1) rfl)) (hw _ (List.mem_of_getElem? (i := 2) rfl)) rfl (g := (mkF m 23 #[.val (.long p1), .second, .val (.int p2), .val (.int (1 : Int32)), .val (.ref b25), .unset, .unset] [])) rfl (hb hby at_23) (by decide) (by decide)
    obtain ⟨b31, g31⟩ : ∃ z, z = T29.heap.size := ⟨_, rfl⟩
    rw [← g31] at A31 D31 st31
    have gnb31 : n0 ≤ b31 := Nat.le_trans (Nat.le_trans Z0 K30.1) (Nat.le_of_eq g31.symm)
    have gzb31 : h0.size ≤ b31 := Nat.le_trans K30.1 (Nat.le_of_eq g31.symm)
    have K32 : Keep h0 h31 [] := K30.ext E31
    have f33 : Fld Z h31 b31 "com/example/concordat/concordat/model/StringType" "wide" "Z" (.int (0 : Int32)) := D31 (Or.inr (hw _ (List.mem_of_getElem? (i := 15) rfl))) (ty := .boolean) (by decide)
    have f34 : Fld Z h31 b31 "com/example/concordat/concordat/model/StringType" "bound" "J" (.long (0 : Int64)) := D31 (Or.inr (hw _ (List.mem_of_getElem? (i := 17) rfl))) (ty := .long) (by decide)
    obtain ⟨_, _, ⟨T35, L35, k35, n35⟩, -, X35, ⟨Lc35, hQ35, l35, y35, z35⟩, st35⟩ := X31.specialBack hx (y := (⟨"com/example/concordat/concordat/model/StringType", "<init>", "(ZJ)V"⟩ : MethodName)) rfl hown (mvT hZ (hw _ (List.mem_of_getElem? (i := 3) rfl))) (mvT hZ (hw _ (List.mem_of_getElem? (i := 4) rfl))) (mvT hZ (hw _ (List.mem_of_getElem? (i := 5) rfl))) (by decide) (backOf (W := 1) (rm_ini l Z a0 hw [] b31 (0 : Int32) p1 (.int (0 : Int32)) (.long (0 : Int64)) h31 n0 (Nat.le_trans Z0 K32.1) A31 f33 f34 gnb31) hZ (hw _ (List.mem_of_getElem? (i := 5) rfl)) (hw _ (List.mem_of_getElem? (i := 2) rfl)) (by decide) (by decide)) (g := (mkF m 37 #[.val (.long p1), .second, .val (.int p2), .val (.int (1 : Int32)), .val (.ref b25), .unset, .unset] [(.long p1), (.int (0 : Int32)), (.ref b31), (.ref b31)])) rfl (by rw [hml]; rfl) (Steps.refl _) (a := b31) (argsL := [(.int (0 : Int32)), (.long p1)]) (rest := [(.ref b31)]) (lenOf pd__40ZJ_41V rfl) rfl (by show 2 * 0 + _ ≤ _; exact Nat.le_of_eq rfl) (hb hby at_37) (fun _ _ => ⟨rfl, e31, (by decide : 2 + 0 ≤ _), (by decide : 4 + 0 ≤ _)⟩)
    dsimp only [Pt.U, Pt.locs, Pt.cells, Pt.slots] at X35 l35 y35 z35 st35 hQ35
    subst l35 y35 z35
    obtain ⟨rfl, Nq35, Kc35, p35_0⟩ := hQ35
    have K36 : Keep h0 T35.heap [] := K32.trans Kc35 (allS (Or.inr gzb31) all0)
    have N35 := Fr.app N29 Nq35
    by_cases hc3 : p1 < (1 : Int64)
    · have f37 : Fld Z T35.heap b25 "com/example/concordat/concordat/model/StringType" "bound" "J" (.long p1) := ((p29_0.ext E31).keep Kc35 (ninS (Nat.ne_of_lt (Nat.lt_of_lt_of_le (A25.keep Kc29).lt (Nat.le_of_eq g31.symm))) nin0))
      have f39 : Exa Z T35.heap b25 "com/example/concordat/concordat/model/StringType" := (((A25.keep Kc29).ext E31).keep Kc35)
      obtain ⟨cq38, kq38, q38a, q38b, q38c⟩ := isOf hZ rfl f39
      obtain ⟨_, _, ⟨T38, L38, k38, n38⟩, -, X38, ⟨Lc38, hQ38, l38, y38, z38⟩, st38⟩ := X35.virtualBack hx (y := (⟨"com/example/concordat/concordat/model/StringType", "bounded", "()Z"⟩ : MethodName)) (z := (⟨"com/example/concordat/concordat/model/StringType", "bounded", "()Z"⟩ : MethodName)) hown (mvT hZ (hw _ (List.mem_of_getElem? (i := 18) rfl))) (mvT hZ (hw _ (List.mem_of_getElem? (i := 19) rfl))) (notFace_of_selects (args := #[]) (mvT hZ (hw _ (List.mem_of_getElem? (i := 21) rfl)))) (mvT hZ (hw _ (List.mem_of_getElem? (i := 21) rfl))) (mvT hZ (hw _ (List.mem_of_getElem? (i := 20) rfl))) (by decide) (backOf (W := 0) (rm_bf l Z a0 hw [] b25 p1 T35.heap n0 (Nat.le_trans Z0 K36.1) f37 (own_a hc3)) hZ (hw _ (List.mem_of_getElem? (i := 22) rfl)) (hw _ (List.mem_of_getElem? (i := 2) rfl)) (by decide) (by decide)) q38a q38c (g := (mkF m 57 #[.val (.long p1), .second, .val (.int p2), .val (.int (1 : Int32)), .val (.ref b25), .val (.ref b31), .val (.int (0 : Int32))] [(.ref b25)])) rfl (by rw [hml]; rfl) (Steps.refl _) (argsL := []) (rest := []) (lenOf pd__40_41Z rfl) rfl (by show 2 * 0 + _ ≤ _; exact Nat.le_of_eq rfl) (hb hby at_57) (fun _ _ => ⟨rfl, rfl, (by decide : 2 + 0 ≤ _), (by decide : 4 + 0 ≤ _)⟩)
      dsimp only [Pt.U, Pt.locs, Pt.cells, Pt.slots] at X38 l38 y38 z38 st38 hQ38
      subst l38 y38 z38
      obtain ⟨rfl, Nq38, e38⟩ := hQ38
      have N38 := Fr.app N35 Nq38
      have f41 : Exa Z T35.heap b31 "com/example/concordat/concordat/model/StringType" := (A31.keep Kc35)
      obtain ⟨cq40, kq40, q40a, q40b, q40c⟩ := isOf hZ e38 f41
      obtain ⟨_, _, ⟨T40, L40, k40, n40⟩, -, X40, ⟨Lc40, hQ40, l40, y40, z40⟩, st40⟩ := X38.virtualBack hx (y := (⟨"com/example/concordat/concordat/model/StringType", "bounded", "()Z"⟩ : MethodName)) (z := (⟨"com/example/concordat/concordat/model/StringType", "bounded", "()Z"⟩ : MethodName)) hown (mvT hZ (hw _ (List.mem_of_getElem? (i := 18) rfl))) (mvT hZ (hw _ (List.mem_of_getElem? (i := 19) rfl))) (notFace_of_selects (args := #[]) (mvT hZ (hw _ (List.mem_of_getElem? (i := 21) rfl)))) (mvT hZ (hw _ (List.mem_of_getElem? (i := 21) rfl))) (mvT hZ (hw _ (List.mem_of_getElem? (i := 20) rfl))) (by decide) (backOf (W := 0) (rm_bf l Z a0 hw [] b31 p1 T35.heap n0 (Nat.le_trans Z0 K36.1) p35_0 (own_a hc3)) hZ (hw _ (List.mem_of_getElem? (i := 22) rfl)) (hw _ (List.mem_of_getElem? (i := 2) rfl)) (by decide) (by decide)) q40a q40c (g := (mkF m 67 #[.val (.long p1), .second, .val (.int p2), .val (.int (1 : Int32)), .val (.ref b25), .val (.ref b31), .val (.int (0 : Int32))] [(.ref b31)])) rfl (by rw [hml]; rfl) (Steps.refl _) (argsL := []) (rest := []) (lenOf pd__40_41Z rfl) rfl (by show 2 * 0 + _ ≤ _; exact Nat.le_of_eq rfl) (hb hby at_67) (fun _ _ => ⟨rfl, e38, (by decide : 2 + 0 ≤ _), (by decide : 4 + 0 ≤ _)⟩)
      dsimp only [Pt.U, Pt.locs, Pt.cells, Pt.slots] at X40 l40 y40 z40 st40 hQ40
      subst l40 y40 z40
      obtain ⟨rfl, Nq40, e40⟩ := hQ40
      have N40 := Fr.app N38 Nq40
      obtain ⟨cq42, kq42, q42a, q42b, q42c⟩ := isOf hZ e40 f39
      obtain ⟨_, _, ⟨T42, L42, k42, n42⟩, -, X42, ⟨Lc42, hQ42, l42, y42, z42⟩, st42⟩ := X40.virtualBack hx (y := (⟨"com/example/concordat/concordat/model/StringType", "bound", "()J"⟩ : MethodName)) (z := (⟨"com/example/concordat/concordat/model/StringType", "bound", "()J"⟩ : MethodName)) hown (mvT hZ (hw _ (List.mem_of_getElem? (i := 23) rfl))) (mvT hZ (hw _ (List.mem_of_getElem? (i := 24) rfl))) (notFace_of_selects (args := #[]) (mvT hZ (hw _ (List.mem_of_getElem? (i := 26) rfl)))) (mvT hZ (hw _ (List.mem_of_getElem? (i := 26) rfl))) (mvT hZ (hw _ (List.mem_of_getElem? (i := 25) rfl))) (by decide) (backOf (W := 0) (rm_bo l Z a0 hw [] b25 p1 T35.heap n0 (Nat.le_trans Z0 K36.1) f37) hZ (hw _ (List.mem_of_getElem? (i := 27) rfl)) (hw _ (List.mem_of_getElem? (i := 2) rfl)) (by decide) (by decide)) q42a q42c (g := (mkF m 77 #[.val (.long p1), .second, .val (.int p2), .val (.int (1 : Int32)), .val (.ref b25), .val (.ref b31), .val (.int (0 : Int32))] [(.ref b25)])) rfl (by rw [hml]; rfl) (Steps.refl _) (argsL := []) (rest := []) (lenOf pd__40_41J rfl) rfl (by show 2 * 0 + _ ≤ _; exact Nat.le_of_eq rfl) (hb hby at_77) (fun _ _ => ⟨rfl, e40, (by decide : 2 + 0 ≤ _), (by decide : 4 + 0 ≤ _)⟩)
      dsimp only [Pt.U, Pt.locs, Pt.cells, Pt.slots] at X42 l42 y42 z42 st42 hQ42
      subst l42 y42 z42
      obtain ⟨rfl, Nq42, e42⟩ := hQ42
      have N42 := Fr.app N40 Nq42
      obtain ⟨fs, hr, hrun, hended, hW, hsame⟩ := X42.leave (v := some (.int (1 : Int32))) (fun h => by rw [Bd.returns] at h; cases h)
      refine ⟨_, _, pre0 _ ?_, hrun, hended, _, _, rfl, ?_, ⟨_, rfl⟩, hW, hsame.mono (by decide) (by decide)⟩
      · show Steps p.tables e below (s₁.setTop (mkF m 0 #[.val (.long p1), .second, .val (.int p2), .unset, .unset, .unset, .unset] [])) _
        refine XS.iloadN X0.here hx rfl (hb hby at_0) rfl ?_
        show Steps p.tables e below (s₁.setTop (mkF m 1 #[.val (.long p1), .second, .val (.int p2), .unset, .unset, .unset, .unset] [(.int p2)])) _
        refine XS.iconst X0.here hx rfl (hb hby at_1) ?_
        show Steps p.tables e below (s₁.setTop (mkF m 2 #[.val (.long p1), .second, .val (.int p2), .unset, .unset, .unset, .unset] [(.int (1 : Int32)), (.int p2)])) _
        refine XS.iand X0.here hx rfl (hb hby at_2) rfl ?_
        show Steps p.tables e below (s₁.setTop (mkF m 3 #[.val (.long p1), .second, .val (.int p2), .unset, .unset, .unset, .unset] [(.int (p2 &&& (1 : Int32)))])) _
        refine XS.ifNo X0.here hx rfl (hb hby at_3) rfl ((if0 _ _).trans (feq hc1).1) ?_
        show Steps p.tables e below (s₁.setTop (mkF m 6 #[.val (.long p1), .second, .val (.int p2), .unset, .unset, .unset, .unset] [])) _
        refine XS.iconst X0.here hx rfl (hb hby at_6) ?_
        show Steps p.tables e below (s₁.setTop (mkF m 7 #[.val (.long p1), .second, .val (.int p2), .unset, .unset, .unset, .unset] [(.int (1 : Int32))])) _
        refine XS.goto X0.here hx rfl (pc0 := 7) (pc' := 11) rfl (hb hby at_7) (by decide) (by decide) ?_
        show Steps p.tables e below (s₁.setTop (mkF m 11 #[.val (.long p1), .second, .val (.int p2), .unset, .unset, .unset, .unset] [(.int (1 : Int32))])) _
        refine XS.istoreN X0.here hx rfl (hb hby at_11) rfl (l' := #[.val (.long p1), .second, .val (.int p2), .val (.int (1 : Int32)), .unset, .unset, .unset]) rfl ?_
        show Steps p.tables e below (s₁.setTop (mkF m 12 #[.val (.long p1), .second, .val (.int p2), .val (.int (1 : Int32)), .unset, .unset, .unset] [])) _
        refine st25 _ ?_
        show Steps p.tables e below (T25.setTop (mkF m 15 #[.val (.long p1), .second, .val (.int p2), .val (.int (1 : Int32)), .unset, .unset, .unset] [(.ref b25)])) _
        refine XS.dup X25.here hx rfl (hb hby at_15) rfl rfl ?_
        show Steps p.tables e below (T25.setTop (mkF m 16 #[.val (.long p1), .second, .val (.int p2), .val (.int (1 : Int32)), .unset, .unset, .unset] [(.ref b25), (.ref b25)])) _
        refine XS.iloadN X25.here hx rfl (hb hby at_16) rfl ?_
        show Steps p.tables e below (T25.setTop (mkF m 17 #[.val (.long p1), .second, .val (.int p2), .val (.int (1 : Int32)), .unset, .unset, .unset] [(.int (1 : Int32)), (.ref b25), (.ref b25)])) _
        refine XS.lloadN X25.here hx rfl (hb hby at_17) rfl ?_
        show Steps p.tables e below (T25.setTop (mkF m 18 #[.val (.long p1), .second, .val (.int p2), .val (.int (1 : Int32)), .unset, .unset, .unset] [(.long p1), (.int (1 : Int32)), (.ref b25), (.ref b25)])) _
        refine st29.trans ?_
        show Steps p.tables e below (T29.setTop (mkF m 21 #[.val (.long p1), .second, .val (.int p2), .val (.int (1 : Int32)), .unset, .unset, .unset] [(.ref b25)])) _
        refine XS.astore X29.here hx rfl (hb hby at_21) rfl rfl (l' := #[.val (.long p1), .second, .val (.int p2), .val (.int (1 : Int32)), .val (.ref b25), .unset, .unset]) rfl ?_
        show Steps p.tables e below (T29.setTop (mkF m 23 #[.val (.long p1), .second, .val (.int p2), .val (.int (1 : Int32)), .val (.ref b25), .unset, .unset] [])) _
        refine st31 _ ?_
        show Steps p.tables e below (T31.setTop (mkF m 26 #[.val (.long p1), .second, .val (.int p2), .val (.int (1 : Int32)), .val (.ref b25), .unset, .unset] [(.ref b31)])) _
        refine XS.dup X31.here hx rfl (hb hby at_26) rfl rfl ?_
        show Steps p.tables e below (T31.setTop (mkF m 27 #[.val (.long p1), .second, .val (.int p2), .val (.int (1 : Int32)), .val (.ref b25), .unset, .unset] [(.ref b31), (.ref b31)])) _
        refine XS.iloadN X31.here hx rfl (hb hby at_27) rfl ?_
        show Steps p.tables e below (T31.setTop (mkF m 28 #[.val (.long p1), .second, .val (.int p2), .val (.int (1 : Int32)), .val (.ref b25), .unset, .unset] [(.int (1 : Int32)), (.ref b31), (.ref b31)])) _
        refine XS.ifYes X31.here hx rfl (pc0 := 28) (pc' := 35) rfl (hb hby at_28) rfl ((if0 _ _).trans (feq (by decide : ¬ ((1 : Int32) = (0 : Int32)))).2) (by decide) (by decide) ?_
        show Steps p.tables e below (T31.setTop (mkF m 35 #[.val (.long p1), .second, .val (.int p2), .val (.int (1 : Int32)), .val (.ref b25), .unset, .unset] [(.ref b31), (.ref b31)])) _
        refine XS.iconst X31.here hx rfl (hb hby at_35) ?_
        show Steps p.tables e below (T31.setTop (mkF m 36 #[.val (.long p1), .second, .val (.int p2), .val (.int (1 : Int32)), .val (.ref b25), .unset, .unset] [(.int (0 : Int32)), (.ref b31), (.ref b31)])) _
        refine XS.lloadN X31.here hx rfl (hb hby at_36) rfl ?_
        show Steps p.tables e below (T31.setTop (mkF m 37 #[.val (.long p1), .second, .val (.int p2), .val (.int (1 : Int32)), .val (.ref b25), .unset, .unset] [(.long p1), (.int (0 : Int32)), (.ref b31), (.ref b31)])) _
        refine st35.trans ?_
        show Steps p.tables e below (T35.setTop (mkF m 40 #[.val (.long p1), .second, .val (.int p2), .val (.int (1 : Int32)), .val (.ref b25), .unset, .unset] [(.ref b31)])) _
        refine XS.astore X35.here hx rfl (hb hby at_40) rfl rfl (l' := #[.val (.long p1), .second, .val (.int p2), .val (.int (1 : Int32)), .val (.ref b25), .val (.ref b31), .unset]) rfl ?_
        show Steps p.tables e below (T35.setTop (mkF m 42 #[.val (.long p1), .second, .val (.int p2), .val (.int (1 : Int32)), .val (.ref b25), .val (.ref b31), .unset] [])) _
        refine XS.lloadN X35.here hx rfl (hb hby at_42) rfl ?_
        show Steps p.tables e below (T35.setTop (mkF m 43 #[.val (.long p1), .second, .val (.int p2), .val (.int (1 : Int32)), .val (.ref b25), .val (.ref b31), .unset] [(.long p1)])) _
        refine XS.lconst X35.here hx rfl (hb hby at_43) ?_
        show Steps p.tables e below (T35.setTop (mkF m 44 #[.val (.long p1), .second, .val (.int p2), .val (.int (1 : Int32)), .val (.ref b25), .val (.ref b31), .unset] [(.long (1 : Int64)), (.long p1)])) _
        refine XS.lcmp X35.here hx rfl (hb hby at_44) rfl ?_
        show Steps p.tables e below (T35.setTop (mkF m 45 #[.val (.long p1), .second, .val (.int p2), .val (.int (1 : Int32)), .val (.ref b25), .val (.ref b31), .unset] [(.int (lcmpW p1 (1 : Int64)))])) _
        refine XS.ifYes X35.here hx rfl (pc0 := 45) (pc' := 52) rfl (hb hby at_45) rfl ((if0 _ _).trans (tlt ((lw_lt _ _).mpr hc3)).1) (by decide) (by decide) ?_
        show Steps p.tables e below (T35.setTop (mkF m 52 #[.val (.long p1), .second, .val (.int p2), .val (.int (1 : Int32)), .val (.ref b25), .val (.ref b31), .unset] [])) _
        refine XS.iconst X35.here hx rfl (hb hby at_52) ?_
        show Steps p.tables e below (T35.setTop (mkF m 53 #[.val (.long p1), .second, .val (.int p2), .val (.int (1 : Int32)), .val (.ref b25), .val (.ref b31), .unset] [(.int (0 : Int32))])) _
        refine XS.istore X35.here hx rfl (hb hby at_53) rfl (l' := #[.val (.long p1), .second, .val (.int p2), .val (.int (1 : Int32)), .val (.ref b25), .val (.ref b31), .val (.int (0 : Int32))]) rfl ?_
        show Steps p.tables e below (T35.setTop (mkF m 55 #[.val (.long p1), .second, .val (.int p2), .val (.int (1 : Int32)), .val (.ref b25), .val (.ref b31), .val (.int (0 : Int32))] [])) _
        refine XS.aload X35.here hx rfl (hb hby at_55) rfl rfl ?_
        show Steps p.tables e below (T35.setTop (mkF m 57 #[.val (.long p1), .second, .val (.int p2), .val (.int (1 : Int32)), .val (.ref b25), .val (.ref b31), .val (.int (0 : Int32))] [(.ref b25)])) _
        refine st38.trans ?_
        show Steps p.tables e below (T38.setTop (mkF m 60 #[.val (.long p1), .second, .val (.int p2), .val (.int (1 : Int32)), .val (.ref b25), .val (.ref b31), .val (.int (0 : Int32))] [(.int (0 : Int32))])) _
        refine XS.iload X38.here hx rfl (hb hby at_60) rfl ?_
        show Steps p.tables e below (T38.setTop (mkF m 62 #[.val (.long p1), .second, .val (.int p2), .val (.int (1 : Int32)), .val (.ref b25), .val (.ref b31), .val (.int (0 : Int32))] [(.int (0 : Int32)), (.int (0 : Int32))])) _
        refine XS.icmpNo X38.here hx rfl (hb hby at_62) rfl (teq (by decide : (0 : Int32) = (0 : Int32))).2 ?_
        show Steps p.tables e below (T38.setTop (mkF m 65 #[.val (.long p1), .second, .val (.int p2), .val (.int (1 : Int32)), .val (.ref b25), .val (.ref b31), .val (.int (0 : Int32))] [])) _
        refine XS.aload X38.here hx rfl (hb hby at_65) rfl rfl ?_
        show Steps p.tables e below (T38.setTop (mkF m 67 #[.val (.long p1), .second, .val (.int p2), .val (.int (1 : Int32)), .val (.ref b25), .val (.ref b31), .val (.int (0 : Int32))] [(.ref b31)])) _
        refine st40.trans ?_
        show Steps p.tables e below (T40.setTop (mkF m 70 #[.val (.long p1), .second, .val (.int p2), .val (.int (1 : Int32)), .val (.ref b25), .val (.ref b31), .val (.int (0 : Int32))] [(.int (0 : Int32))])) _
        refine XS.iload X40.here hx rfl (hb hby at_70) rfl ?_
        show Steps p.tables e below (T40.setTop (mkF m 72 #[.val (.long p1), .second, .val (.int p2), .val (.int (1 : Int32)), .val (.ref b25), .val (.ref b31), .val (.int (0 : Int32))] [(.int (0 : Int32)), (.int (0 : Int32))])) _
        refine XS.icmpNo X40.here hx rfl (hb hby at_72) rfl (teq (by decide : (0 : Int32) = (0 : Int32))).2 ?_
        show Steps p.tables e below (T40.setTop (mkF m 75 #[.val (.long p1), .second, .val (.int p2), .val (.int (1 : Int32)), .val (.ref b25), .val (.ref b31), .val (.int (0 : Int32))] [])) _
        refine XS.aload X40.here hx rfl (hb hby at_75) rfl rfl ?_
        show Steps p.tables e below (T40.setTop (mkF m 77 #[.val (.long p1), .second, .val (.int p2), .val (.int (1 : Int32)), .val (.ref b25), .val (.ref b31), .val (.int (0 : Int32))] [(.ref b25)])) _
        refine st42.trans ?_
        show Steps p.tables e below (T42.setTop (mkF m 80 #[.val (.long p1), .second, .val (.int p2), .val (.int (1 : Int32)), .val (.ref b25), .val (.ref b31), .val (.int (0 : Int32))] [(.long p1)])) _
        refine XS.lloadN X42.here hx rfl (hb hby at_80) rfl ?_
        show Steps p.tables e below (T42.setTop (mkF m 81 #[.val (.long p1), .second, .val (.int p2), .val (.int (1 : Int32)), .val (.ref b25), .val (.ref b31), .val (.int (0 : Int32))] [(.long p1), (.long p1)])) _
        refine XS.lcmp X42.here hx rfl (hb hby at_81) rfl ?_
        show Steps p.tables e below (T42.setTop (mkF m 82 #[.val (.long p1), .second, .val (.int p2), .val (.int (1 : Int32)), .val (.ref b25), .val (.ref b31), .val (.int (0 : Int32))] [(.int (lcmpW p1 p1))])) _
        refine XS.ifNo X42.here hx rfl (hb hby at_82) rfl ((if0 _ _).trans (teq ((lw_eq _ _).mpr (rfl : p1 = p1))).2) ?_
        show Steps p.tables e below (T42.setTop (mkF m 85 #[.val (.long p1), .second, .val (.int p2), .val (.int (1 : Int32)), .val (.ref b25), .val (.ref b31), .val (.int (0 : Int32))] [])) _
        refine XS.iconst X42.here hx rfl (hb hby at_85) ?_
        show Steps p.tables e below (T42.setTop (mkF m 86 #[.val (.long p1), .second, .val (.int p2), .val (.int (1 : Int32)), .val (.ref b25), .val (.ref b31), .val (.int (0 : Int32))] [(.int (1 : Int32))])) _
        refine XS.goto X42.here hx rfl (pc0 := 86) (pc' := 90) rfl (hb hby at_86) (by decide) (by decide) ?_
        show Steps p.tables e below (T42.setTop (mkF m 90 #[.val (.long p1), .second, .val (.int p2), .val (.int (1 : Int32)), .val (.ref b25), .val (.ref b31), .val (.int (0 : Int32))] [(.int (1 : Int32))])) _
        exact retN X42 hx (t := .boolean) Bd.returns (by simp) (hb hby at_90) hr
      · show Q_rm0 Z p1 p2 h0 n0 _ T42.heap _
        exact ⟨rfl, N42⟩
    · have f43 : Fld Z T35.heap b25 "com/example/concordat/concordat/model/StringType" "bound" "J" (.long p1) := ((p29_0.ext E31).keep Kc35 (ninS (Nat.ne_of_lt (Nat.lt_of_lt_of_le (A25.keep Kc29).lt (Nat.le_of_eq g31.symm))) nin0))
      have f45 : Exa Z T35.heap b25 "com/example/concordat/concordat/model/StringType" := (((A25.keep Kc29).ext E31).keep Kc35)
      obtain ⟨cq44, kq44, q44a, q44b, q44c⟩ := isOf hZ rfl f45
      obtain ⟨_, _, ⟨T44, L44, k44, n44⟩, -, X44, ⟨Lc44, hQ44, l44, y44, z44⟩, st44⟩ := X35.virtualBack hx (y := (⟨"com/example/concordat/concordat/model/StringType", "bounded", "()Z"⟩ : MethodName)) (z := (⟨"com/example/concordat/concordat/model/StringType", "bounded", "()Z"⟩ : MethodName)) hown (mvT hZ (hw _ (List.mem_of_getElem? (i := 18) rfl))) (mvT hZ (hw _ (List.mem_of_getElem? (i := 19) rfl))) (notFace_of_selects (args := #[]) (mvT hZ (hw _ (List.mem_of_getElem? (i := 21) rfl)))) (mvT hZ (hw _ (List.mem_of_getElem? (i := 21) rfl))) (mvT hZ (hw _ (List.mem_of_getElem? (i := 20) rfl))) (by decide) (backOf (W := 0) (rm_bt l Z a0 hw [] b25 p1 T35.heap n0 (Nat.le_trans Z0 K36.1) f43 (own_b hc3)) hZ (hw _ (List.mem_of_getElem? (i := 22) rfl)) (hw _ (List.mem_of_getElem? (i := 2) rfl)) (by decide) (by decide)) q44a q44c (g := (mkF m 57 #[.val (.long p1), .second, .val (.int p2), .val (.int (1 : Int32)), .val (.ref b25), .val (.ref b31), .val (.int (1 : Int32))] [(.ref b25)])) rfl (by rw [hml]; rfl) (Steps.refl _) (argsL := []) (rest := []) (lenOf pd__40_41Z rfl) rfl (by show 2 * 0 + _ ≤ _; exact Nat.le_of_eq rfl) (hb hby at_57) (fun _ _ => ⟨rfl, rfl, (by decide : 2 + 0 ≤ _), (by decide : 4 + 0 ≤ _)⟩)
      dsimp only [Pt.U, Pt.locs, Pt.cells, Pt.slots] at X44 l44 y44 z44 st44 hQ44
      subst l44 y44 z44
      obtain ⟨rfl, Nq44, e44⟩ := hQ44
      have N44 := Fr.app N35 Nq44
      have f47 : Exa Z T35.heap b31 "com/example/concordat/concordat/model/StringType" := (A31.keep Kc35)
      obtain ⟨cq46, kq46, q46a, q46b, q46c⟩ := isOf hZ e44 f47
      obtain ⟨_, _, ⟨T46, L46, k46, n46⟩, -, X46, ⟨Lc46, hQ46, l46, y46, z46⟩, st46⟩ := X44.virtualBack hx (y := (⟨"com/example/concordat/concordat/model/StringType", "bounded", "()Z"⟩ : MethodName)) (z := (⟨"com/example/concordat/concordat/model/StringType", "bounded", "()Z"⟩ : MethodName)) hown (mvT hZ (hw _ (List.mem_of_getElem? (i := 18) rfl))) (mvT hZ (hw _ (List.mem_of_getElem? (i := 19) rfl))) (notFace_of_selects (args := #[]) (mvT hZ (hw _ (List.mem_of_getElem? (i := 21) rfl)))) (mvT hZ (hw _ (List.mem_of_getElem? (i := 21) rfl))) (mvT hZ (hw _ (List.mem_of_getElem? (i := 20) rfl))) (by decide) (backOf (W := 0) (rm_bt l Z a0 hw [] b31 p1 T35.heap n0 (Nat.le_trans Z0 K36.1) p35_0 (own_b hc3)) hZ (hw _ (List.mem_of_getElem? (i := 22) rfl)) (hw _ (List.mem_of_getElem? (i := 2) rfl)) (by decide) (by decide)) q46a q46c (g := (mkF m 67 #[.val (.long p1), .second, .val (.int p2), .val (.int (1 : Int32)), .val (.ref b25), .val (.ref b31), .val (.int (1 : Int32))] [(.ref b31)])) rfl (by rw [hml]; rfl) (Steps.refl _) (argsL := []) (rest := []) (lenOf pd__40_41Z rfl) rfl (by show 2 * 0 + _ ≤ _; exact Nat.le_of_eq rfl) (hb hby at_67) (fun _ _ => ⟨rfl, e44, (by decide : 2 + 0 ≤ _), (by decide : 4 + 0 ≤ _)⟩)
      dsimp only [Pt.U, Pt.locs, Pt.cells, Pt.slots] at X46 l46 y46 z46 st46 hQ46
      subst l46 y46 z46
      obtain ⟨rfl, Nq46, e46⟩ := hQ46
      have N46 := Fr.app N44 Nq46
      obtain ⟨cq48, kq48, q48a, q48b, q48c⟩ := isOf hZ e46 f45
      obtain ⟨_, _, ⟨T48, L48, k48, n48⟩, -, X48, ⟨Lc48, hQ48, l48, y48, z48⟩, st48⟩ := X46.virtualBack hx (y := (⟨"com/example/concordat/concordat/model/StringType", "bound", "()J"⟩ : MethodName)) (z := (⟨"com/example/concordat/concordat/model/StringType", "bound", "()J"⟩ : MethodName)) hown (mvT hZ (hw _ (List.mem_of_getElem? (i := 23) rfl))) (mvT hZ (hw _ (List.mem_of_getElem? (i := 24) rfl))) (notFace_of_selects (args := #[]) (mvT hZ (hw _ (List.mem_of_getElem? (i := 26) rfl)))) (mvT hZ (hw _ (List.mem_of_getElem? (i := 26) rfl))) (mvT hZ (hw _ (List.mem_of_getElem? (i := 25) rfl))) (by decide) (backOf (W := 0) (rm_bo l Z a0 hw [] b25 p1 T35.heap n0 (Nat.le_trans Z0 K36.1) f43) hZ (hw _ (List.mem_of_getElem? (i := 27) rfl)) (hw _ (List.mem_of_getElem? (i := 2) rfl)) (by decide) (by decide)) q48a q48c (g := (mkF m 77 #[.val (.long p1), .second, .val (.int p2), .val (.int (1 : Int32)), .val (.ref b25), .val (.ref b31), .val (.int (1 : Int32))] [(.ref b25)])) rfl (by rw [hml]; rfl) (Steps.refl _) (argsL := []) (rest := []) (lenOf pd__40_41J rfl) rfl (by show 2 * 0 + _ ≤ _; exact Nat.le_of_eq rfl) (hb hby at_77) (fun _ _ => ⟨rfl, e46, (by decide : 2 + 0 ≤ _), (by decide : 4 + 0 ≤ _)⟩)
      dsimp only [Pt.U, Pt.locs, Pt.cells, Pt.slots] at X48 l48 y48 z48 st48 hQ48
      subst l48 y48 z48
      obtain ⟨rfl, Nq48, e48⟩ := hQ48
      have N48 := Fr.app N46 Nq48
      obtain ⟨fs, hr, hrun, hended, hW, hsame⟩ := X48.leave (v := some (.int (1 : Int32))) (fun h => by rw [Bd.returns] at h; cases h)
      refine ⟨_, _, pre0 _ ?_, hrun, hended, _, _, rfl, ?_, ⟨_, rfl⟩, hW, hsame.mono (by decide) (by decide)⟩
      · show Steps p.tables e below (s₁.setTop (mkF m 0 #[.val (.long p1), .second, .val (.int p2), .unset, .unset, .unset, .unset] [])) _
        refine XS.iloadN X0.here hx rfl (hb hby at_0) rfl ?_
        show Steps p.tables e below (s₁.setTop (mkF m 1 #[.val (.long p1), .second, .val (.int p2), .unset, .unset, .unset, .unset] [(.int p2)])) _
        refine XS.iconst X0.here hx rfl (hb hby at_1) ?_
        show Steps p.tables e below (s₁.setTop (mkF m 2 #[.val (.long p1), .second, .val (.int p2), .unset, .unset, .unset, .unset] [(.int (1 : Int32)), (.int p2)])) _
        refine XS.iand X0.here hx rfl (hb hby at_2) rfl ?_
        show Steps p.tables e below (s₁.setTop (mkF m 3 #[.val (.long p1), .second, .val (.int p2), .unset, .unset, .unset, .unset] [(.int (p2 &&& (1 : Int32)))])) _
        refine XS.ifNo X0.here hx rfl (hb hby at_3) rfl ((if0 _ _).trans (feq hc1).1) ?_
        show Steps p.tables e below (s₁.setTop (mkF m 6 #[.val (.long p1), .second, .val (.int p2), .unset, .unset, .unset, .unset] [])) _
        refine XS.iconst X0.here hx rfl (hb hby at_6) ?_
        show Steps p.tables e below (s₁.setTop (mkF m 7 #[.val (.long p1), .second, .val (.int p2), .unset, .unset, .unset, .unset] [(.int (1 : Int32))])) _
        refine XS.goto X0.here hx rfl (pc0 := 7) (pc' := 11) rfl (hb hby at_7) (by decide) (by decide) ?_
        show Steps p.tables e below (s₁.setTop (mkF m 11 #[.val (.long p1), .second, .val (.int p2), .unset, .unset, .unset, .unset] [(.int (1 : Int32))])) _
        refine XS.istoreN X0.here hx rfl (hb hby at_11) rfl (l' := #[.val (.long p1), .second, .val (.int p2), .val (.int (1 : Int32)), .unset, .unset, .unset]) rfl ?_
        show Steps p.tables e below (s₁.setTop (mkF m 12 #[.val (.long p1), .second, .val (.int p2), .val (.int (1 : Int32)), .unset, .unset, .unset] [])) _
        refine st25 _ ?_
        show Steps p.tables e below (T25.setTop (mkF m 15 #[.val (.long p1), .second, .val (.int p2), .val (.int (1 : Int32)), .unset, .unset, .unset] [(.ref b25)])) _
        refine XS.dup X25.here hx rfl (hb hby at_15) rfl rfl ?_
        show Steps p.tables e below (T25.setTop (mkF m 16 #[.val (.long p1), .second, .val (.int p2), .val (.int (1 : Int32)), .unset, .unset, .unset] [(.ref b25), (.ref b25)])) _
        refine XS.iloadN X25.here hx rfl (hb hby at_16) rfl ?_
        show Steps p.tables e below (T25.setTop (mkF m 17 #[.val (.long p1), .second, .val (.int p2), .val (.int (1 : Int32)), .unset, .unset, .unset] [(.int (1 : Int32)), (.ref b25), (.ref b25)])) _
        refine XS.lloadN X25.here hx rfl (hb hby at_17) rfl ?_
        show Steps p.tables e below (T25.setTop (mkF m 18 #[.val (.long p1), .second, .val (.int p2), .val (.int (1 : Int32)), .unset, .unset, .unset] [(.long p1), (.int (1 : Int32)), (.ref b25), (.ref b25)])) _
        refine st29.trans ?_
        show Steps p.tables e below (T29.setTop (mkF m 21 #[.val (.long p1), .second, .val (.int p2), .val (.int (1 : Int32)), .unset, .unset, .unset] [(.ref b25)])) _
        refine XS.astore X29.here hx rfl (hb hby at_21) rfl rfl (l' := #[.val (.long p1), .second, .val (.int p2), .val (.int (1 : Int32)), .val (.ref b25), .unset, .unset]) rfl ?_
        show Steps p.tables e below (T29.setTop (mkF m 23 #[.val (.long p1), .second, .val (.int p2), .val (.int (1 : Int32)), .val (.ref b25), .unset, .unset] [])) _
        refine st31 _ ?_
        show Steps p.tables e below (T31.setTop (mkF m 26 #[.val (.long p1), .second, .val (.int p2), .val (.int (1 : Int32)), .val (.ref b25), .unset, .unset] [(.ref b31)])) _
        refine XS.dup X31.here hx rfl (hb hby at_26) rfl rfl ?_
        show Steps p.tables e below (T31.setTop (mkF m 27 #[.val (.long p1), .second, .val (.int p2), .val (.int (1 : Int32)), .val (.ref b25), .unset, .unset] [(.ref b31), (.ref b31)])) _
        refine XS.iloadN X31.here hx rfl (hb hby at_27) rfl ?_
        show Steps p.tables e below (T31.setTop (mkF m 28 #[.val (.long p1), .second, .val (.int p2), .val (.int (1 : Int32)), .val (.ref b25), .unset, .unset] [(.int (1 : Int32)), (.ref b31), (.ref b31)])) _
        refine XS.ifYes X31.here hx rfl (pc0 := 28) (pc' := 35) rfl (hb hby at_28) rfl ((if0 _ _).trans (feq (by decide : ¬ ((1 : Int32) = (0 : Int32)))).2) (by decide) (by decide) ?_
        show Steps p.tables e below (T31.setTop (mkF m 35 #[.val (.long p1), .second, .val (.int p2), .val (.int (1 : Int32)), .val (.ref b25), .unset, .unset] [(.ref b31), (.ref b31)])) _
        refine XS.iconst X31.here hx rfl (hb hby at_35) ?_
        show Steps p.tables e below (T31.setTop (mkF m 36 #[.val (.long p1), .second, .val (.int p2), .val (.int (1 : Int32)), .val (.ref b25), .unset, .unset] [(.int (0 : Int32)), (.ref b31), (.ref b31)])) _
        refine XS.lloadN X31.here hx rfl (hb hby at_36) rfl ?_
        show Steps p.tables e below (T31.setTop (mkF m 37 #[.val (.long p1), .second, .val (.int p2), .val (.int (1 : Int32)), .val (.ref b25), .unset, .unset] [(.long p1), (.int (0 : Int32)), (.ref b31), (.ref b31)])) _
        refine st35.trans ?_
        show Steps p.tables e below (T35.setTop (mkF m 40 #[.val (.long p1), .second, .val (.int p2), .val (.int (1 : Int32)), .val (.ref b25), .unset, .unset] [(.ref b31)])) _
        refine XS.astore X35.here hx rfl (hb hby at_40) rfl rfl (l' := #[.val (.long p1), .second, .val (.int p2), .val (.int (1 : Int32)), .val (.ref b25), .val (.ref b31), .unset]) rfl ?_
        show Steps p.tables e below (T35.setTop (mkF m 42 #[.val (.long p1), .second, .val (.int p2), .val (.int (1 : Int32)), .val (.ref b25), .val (.ref b31), .unset] [])) _
        refine XS.lloadN X35.here hx rfl (hb hby at_42) rfl ?_
        show Steps p.tables e below (T35.setTop (mkF m 43 #[.val (.long p1), .second, .val (.int p2), .val (.int (1 : Int32)), .val (.ref b25), .val (.ref b31), .unset] [(.long p1)])) _
        refine XS.lconst X35.here hx rfl (hb hby at_43) ?_
        show Steps p.tables e below (T35.setTop (mkF m 44 #[.val (.long p1), .second, .val (.int p2), .val (.int (1 : Int32)), .val (.ref b25), .val (.ref b31), .unset] [(.long (1 : Int64)), (.long p1)])) _
        refine XS.lcmp X35.here hx rfl (hb hby at_44) rfl ?_
        show Steps p.tables e below (T35.setTop (mkF m 45 #[.val (.long p1), .second, .val (.int p2), .val (.int (1 : Int32)), .val (.ref b25), .val (.ref b31), .unset] [(.int (lcmpW p1 (1 : Int64)))])) _
        refine XS.ifNo X35.here hx rfl (hb hby at_45) rfl ((if0 _ _).trans (flt (fun q_ => hc3 ((lw_lt _ _).mp q_))).1) ?_
        show Steps p.tables e below (T35.setTop (mkF m 48 #[.val (.long p1), .second, .val (.int p2), .val (.int (1 : Int32)), .val (.ref b25), .val (.ref b31), .unset] [])) _
        refine XS.iconst X35.here hx rfl (hb hby at_48) ?_
        show Steps p.tables e below (T35.setTop (mkF m 49 #[.val (.long p1), .second, .val (.int p2), .val (.int (1 : Int32)), .val (.ref b25), .val (.ref b31), .unset] [(.int (1 : Int32))])) _
        refine XS.goto X35.here hx rfl (pc0 := 49) (pc' := 53) rfl (hb hby at_49) (by decide) (by decide) ?_
        show Steps p.tables e below (T35.setTop (mkF m 53 #[.val (.long p1), .second, .val (.int p2), .val (.int (1 : Int32)), .val (.ref b25), .val (.ref b31), .unset] [(.int (1 : Int32))])) _
        refine XS.istore X35.here hx rfl (hb hby at_53) rfl (l' := #[.val (.long p1), .second, .val (.int p2), .val (.int (1 : Int32)), .val (.ref b25), .val (.ref b31), .val (.int (1 : Int32))]) rfl ?_
        show Steps p.tables e below (T35.setTop (mkF m 55 #[.val (.long p1), .second, .val (.int p2), .val (.int (1 : Int32)), .val (.ref b25), .val (.ref b31), .val (.int (1 : Int32))] [])) _
        refine XS.aload X35.here hx rfl (hb hby at_55) rfl rfl ?_
        show Steps p.tables e below (T35.setTop (mkF m 57 #[.val (.long p1), .second, .val (.int p2), .val (.int (1 : Int32)), .val (.ref b25), .val (.ref b31), .val (.int (1 : Int32))] [(.ref b25)])) _
        refine st44.trans ?_
        show Steps p.tables e below (T44.setTop (mkF m 60 #[.val (.long p1), .second, .val (.int p2), .val (.int (1 : Int32)), .val (.ref b25), .val (.ref b31), .val (.int (1 : Int32))] [(.int (1 : Int32))])) _
        refine XS.iload X44.here hx rfl (hb hby at_60) rfl ?_
        show Steps p.tables e below (T44.setTop (mkF m 62 #[.val (.long p1), .second, .val (.int p2), .val (.int (1 : Int32)), .val (.ref b25), .val (.ref b31), .val (.int (1 : Int32))] [(.int (1 : Int32)), (.int (1 : Int32))])) _
        refine XS.icmpNo X44.here hx rfl (hb hby at_62) rfl (teq (by decide : (1 : Int32) = (1 : Int32))).2 ?_
        show Steps p.tables e below (T44.setTop (mkF m 65 #[.val (.long p1), .second, .val (.int p2), .val (.int (1 : Int32)), .val (.ref b25), .val (.ref b31), .val (.int (1 : Int32))] [])) _
        refine XS.aload X44.here hx rfl (hb hby at_65) rfl rfl ?_
        show Steps p.tables e below (T44.setTop (mkF m 67 #[.val (.long p1), .second, .val (.int p2), .val (.int (1 : Int32)), .val (.ref b25), .val (.ref b31), .val (.int (1 : Int32))] [(.ref b31)])) _
        refine st46.trans ?_
        show Steps p.tables e below (T46.setTop (mkF m 70 #[.val (.long p1), .second, .val (.int p2), .val (.int (1 : Int32)), .val (.ref b25), .val (.ref b31), .val (.int (1 : Int32))] [(.int (1 : Int32))])) _
        refine XS.iload X46.here hx rfl (hb hby at_70) rfl ?_
        show Steps p.tables e below (T46.setTop (mkF m 72 #[.val (.long p1), .second, .val (.int p2), .val (.int (1 : Int32)), .val (.ref b25), .val (.ref b31), .val (.int (1 : Int32))] [(.int (1 : Int32)), (.int (1 : Int32))])) _
        refine XS.icmpNo X46.here hx rfl (hb hby at_72) rfl (teq (by decide : (1 : Int32) = (1 : Int32))).2 ?_
        show Steps p.tables e below (T46.setTop (mkF m 75 #[.val (.long p1), .second, .val (.int p2), .val (.int (1 : Int32)), .val (.ref b25), .val (.ref b31), .val (.int (1 : Int32))] [])) _
        refine XS.aload X46.here hx rfl (hb hby at_75) rfl rfl ?_
        show Steps p.tables e below (T46.setTop (mkF m 77 #[.val (.long p1), .second, .val (.int p2), .val (.int (1 : Int32)), .val (.ref b25), .val (.ref b31), .val (.int (1 : Int32))] [(.ref b25)])) _
        refine st48.trans ?_
        show Steps p.tables e below (T48.setTop (mkF m 80 #[.val (.long p1), .second, .val (.int p2), .val (.int (1 : Int32)), .val (.ref b25), .val (.ref b31), .val (.int (1 : Int32))] [(.long p1)])) _
        refine XS.lloadN X48.here hx rfl (hb hby at_80) rfl ?_
        show Steps p.tables e below (T48.setTop (mkF m 81 #[.val (.long p1), .second, .val (.int p2), .val (.int (1 : Int32)), .val (.ref b25), .val (.ref b31), .val (.int (1 : Int32))] [(.long p1), (.long p1)])) _
        refine XS.lcmp X48.here hx rfl (hb hby at_81) rfl ?_
        show Steps p.tables e below (T48.setTop (mkF m 82 #[.val (.long p1), .second, .val (.int p2), .val (.int (1 : Int32)), .val (.ref b25), .val (.ref b31), .val (.int (1 : Int32))] [(.int (lcmpW p1 p1))])) _
        refine XS.ifNo X48.here hx rfl (hb hby at_82) rfl ((if0 _ _).trans (teq ((lw_eq _ _).mpr (rfl : p1 = p1))).2) ?_
        show Steps p.tables e below (T48.setTop (mkF m 85 #[.val (.long p1), .second, .val (.int p2), .val (.int (1 : Int32)), .val (.ref b25), .val (.ref b31), .val (.int (1 : Int32))] [])) _
        refine XS.iconst X48.here hx rfl (hb hby at_85) ?_
        show Steps p.tables e below (T48.setTop (mkF m 86 #[.val (.long p1), .second, .val (.int p2), .val (.int (1 : Int32)), .val (.ref b25), .val (.ref b31), .val (.int (1 : Int32))] [(.int (1 : Int32))])) _
        refine XS.goto X48.here hx rfl (pc0 := 86) (pc' := 90) rfl (hb hby at_86) (by decide) (by decide) ?_
        show Steps p.tables e below (T48.setTop (mkF m 90 #[.val (.long p1), .second, .val (.int p2), .val (.int (1 : Int32)), .val (.ref b25), .val (.ref b31), .val (.int (1 : Int32))] [(.int (1 : Int32))])) _
        exact retN X48 hx (t := .boolean) Bd.returns (by simp) (hb hby at_90) hr
      · show Q_rm0 Z p1 p2 h0 n0 _ T48.heap _
        exact ⟨rfl, N48⟩
set_option maxRecDepth 65536 in
set_option maxHeartbeats 40000000 in
theorem comes_1 {Post : Tables → Env → Array Value → State → Outcome → State → Prop} (hpost : ∀ tb e args s v u, (limb_1_1.after args s (.returned v) u = true ∧ limb_1_2.after args s (.returned v) u = true ∧ True) → FrameEnd s (.returned v) u (Jvm.fieldLocs frame_1_writes args s ++ Jvm.arrayLocs frame_1_arrays args s ++ Jvm.staticLocs frame_1_statics s) 16 128 → Post tb e args s (.returned v) u) :
    ArmFor flags0 classFile x code maxLocals ret World_1 tables_1 room_1 Calls_1 rest_1 Pre_1 Post := by
  intro l hfl _ _ p e ha hc hk s m args below hf hA hF happ hP
  obtain ⟨hcalls, hrest, hpre⟩ := hP
  obtain ⟨-, -, -, hnamed, -, -, -, hat⟩ := (Spec.applies_iff hf).mp happ
  obtain ⟨hg, hn⟩ := and_e (Cond.before_iff.mp (show (Jvm.Cond.and given_1 narrow_1).before args s = true from hpre))
  obtain ⟨gg1, gg2⟩ := and_e hg
  obtain ⟨gg3, gg4⟩ := and_e gg2
  obtain ⟨w0, w1, rfl⟩ : ∃ w0 w1 : Value, args = #[w0, w1] := by
    have hs : args.size = 2 := by simpa [Cond.value, given_1] using gg1
    obtain ⟨L⟩ := args
    match L, hs with
    | [w0, w1], _ => exact ⟨w0, w1, rfl⟩
  have hw := fun d (hd : d ∈ tables_1) => atoms_spec (ws := Jvm.Cond.code x code maxLocals ret :: tables_1) hat d (List.mem_cons_of_mem _ hd)
  have hfit : Fit s := fun {y c} hc i hi => by
    obtain ⟨ha, rfl⟩ := Array.getElem?_eq_some_iff.mp hc
    have q := List.all_eq_true.mp ((Array.all_eq_true_iff_forall_mem.mp hF) _ (Array.getElem_mem ha)) i (List.mem_range.mpr hi)
    simpa [Array.getElem?_eq_getElem hi] using q
  obtain ⟨i0, ei0⟩ := isL_v gg3
  obtain rfl : w0 = (.long i0) := Option.some.inj ei0
  obtain ⟨i1, ei1⟩ := is_v gg4
  obtain rfl : w1 = (.int i1) := Option.some.inj ei1
  obtain ⟨n, o, h1, h2, h3, _, L, rfl, ⟨rfl, N⟩, hq⟩ := rm0 l s _ hw tables_1 i0 i1 s.heap s.heap.size (Nat.le_refl _) p e ha hc hk s m _ below hf ((Spec.applies_iff_loose hf).mp happ).1 ⟨rfl, State.Warmed39.refl s, rfl⟩ trivial
  refine ⟨n, _, h1, h2, h3, hpost _ _ _ _ _ _ ⟨Cond.after_iff.mpr rfl, Cond.after_iff.mpr (eq_i res_at (Term.int_eval (1)) rfl), trivial⟩ ⟨hq.1, hq.2.1, (hq.2.2.sift fun y hy => Or.inr (N y hy)).mono (by decide) (by decide)⟩⟩
theorem main_1_1 : Claimed_1_1 := comes_1 fun _ _ _ _ _ _ h hF => ⟨h.1, hF⟩
theorem main_1_2 : Claimed_1_2 := comes_1 fun _ _ _ _ _ _ h hF => ⟨h.2.1, hF⟩
end Jvm.Pilot.@@N@@
namespace Jvm.Pilot.@@N@@
open Jvm Jvm.ClassFile Sem Op Lib Jvm.Free Jvm.Stand Jvm.Pilot.@@N@@.Jvm.D
/-! MADE BY PROGRAM (witnessworld.py) out of the Statement's table words and the real class files: 11 classes; the members and pool entries that the words name. The judged class is class 1, her method 1. -/
namespace start1
open Jvm.ClassFile
def u (s : String) : CpInfo := .utf8 (stringToUtf16 s)
/-- a pool by its gaps: so many unusable entries, then the entry; so many at the end -/
def gap : Nat → List CpInfo → List CpInfo
  | 0, r => r
  | n + 1, r => .unusable :: gap n r
def poolList (es : List (Nat × CpInfo)) (last : Nat) : List CpInfo := es.foldr (fun e r => gap e.1 (e.2 :: r)) (gap last [])
def pool (es : List (Nat × CpInfo)) (last : Nat) : Array CpInfo := ⟨poolList es last⟩
def fileOf (pool : Array CpInfo) (this : Nat) (attrs : Array Attribute := #[]) (ms : Array MethodInfo := #[]) (fl : Nat := 33) (sup : Nat := 0) (ifs : Array Nat := #[]) (fds : Array FieldInfo := #[]) : ClassFile where
  minorVersion := 0
  majorVersion := 65
  constantPool := pool
  accessFlags := fl
  thisClass := this
  superClass := sup
  interfaces := ifs
  fields := fds
  methods := ms
  attributes := attrs
def plain (name : String) (sup : Option ClassId) : Class where
  name := name
  kind := .ordinary
  loader := none
  accessFlags := 33
  super := sup
  interfaces := #[]
  cf := none
  fields := #[]
  methods := #[]
  instanceTypes := #[]
  staticTypes := #[]
  resolved := #[]
  callSites := []
  init := .initialized
  statics := none
  mirror := none

def pool0 : Array CpInfo := pool [(5, u "<init>"), (0, u "()V"), (1, .class_ 10), (1, u "java/lang/Object")] 113

def k0c0 : Code := { maxStack := 0, maxLocals := 1, code := object_method_1_code, exceptionTable := #[], attributes := #[] }
def k0m0 : Method := { name := "<init>", desc := "()V", sig := { parameters := [], returnType := none }, accessFlags := 1, code := some k0c0 }
/-- java/lang/Object -/
def k0 : Class := { plain "java/lang/Object" none with
  accessFlags := 33
  interfaces := #[]
  cf := some (fileOf pool0 8 #[] #[{ accessFlags := 1, nameIndex := 5, descriptorIndex := 6, attributes := #[] }] 33 0 #[] #[])
  fields := #[]
  methods := #[k0m0]
  instanceTypes := #[]
  staticTypes := #[]
  resolved := Array.replicate 124 none
  statics := none }

def pool1 : Array CpInfo := pool [(2, .class_ 4), (1, u "java/lang/Object"), (0, u "<init>"), (0, u "()V"), (0, .class_ 8), (0, u "com/example/concordat/concordat/model/StringType"), (0, .methodref 7 10), (0, .nameAndType 5 11), (0, u "(ZJ)V"), (0, .methodref 7 13), (0, .nameAndType 14 15), (0, u "bounded"), (0, u "()Z"), (0, .methodref 7 17), (0, .nameAndType 18 19), (0, u "bound"), (0, u "()J"), (0, .class_ 21), (0, u "com/example/concordat/concordat/model/StringTypeBoundedPinLaw"), (2, u "law"), (0, u "(JI)Z")] 3

def k1m0 : Method := { name := "<init>", desc := "()V", sig := { parameters := [], returnType := none }, accessFlags := 1, code := none }
def k1c1 : Code := { maxStack := 5, maxLocals := 7, code := code, exceptionTable := #[], attributes := #[] }
def k1m1 : Method := { name := "law", desc := "(JI)Z", sig := { parameters := [.long, .int], returnType := some .boolean }, accessFlags := 9, code := some k1c1 }
/-- com/example/concordat/concordat/model/StringTypeBoundedPinLaw -/
def k1 : Class := { plain "com/example/concordat/concordat/model/StringTypeBoundedPinLaw" (some 0) with
  accessFlags := 49
  interfaces := #[]
  cf := some (fileOf pool1 20 #[] #[{ accessFlags := 1, nameIndex := 5, descriptorIndex := 6, attributes := #[] }, { accessFlags := 9, nameIndex := 24, descriptorIndex := 25, attributes := #[] }] 49 2 #[] #[])
  fields := #[]
  methods := #[k1m0, k1m1]
  instanceTypes := #[]
  staticTypes := #[]
  resolved := Array.replicate 29 none
  statics := none }

def pool2 : Array CpInfo := pool [(1, .methodref 2 3), (0, .class_ 4), (0, .nameAndType 5 6), (0, u "java/lang/Object"), (0, u "<init>"), (0, u "()V"), (0, .class_ 8), (0, u "java/lang/Record")] 13

def k2c0 : Code := { maxStack := 1, maxLocals := 1, code := jdk_30_method_1_code, exceptionTable := #[], attributes := #[] }
def k2m0 : Method := { name := "<init>", desc := "()V", sig := { parameters := [], returnType := none }, accessFlags := 4, code := some k2c0 }
/-- java/lang/Record -/
def k2 : Class := { plain "java/lang/Record" (some 0) with
  accessFlags := 1057
  interfaces := #[]
  cf := some (fileOf pool2 7 #[] #[{ accessFlags := 4, nameIndex := 5, descriptorIndex := 6, attributes := #[] }] 1057 2 #[] #[])
  fields := #[]
  methods := #[k2m0]
  instanceTypes := #[]
  staticTypes := #[]
  resolved := Array.replicate 22 none
  statics := none }

def pool3 : Array CpInfo := pool [(1, .class_ 2), (0, u "com/example/concordat/concordat/model/Type"), (0, .class_ 4), (0, u "java/lang/Object")] 17

/-- com/example/concordat/concordat/model/Type -/
def k3 : Class := { plain "com/example/concordat/concordat/model/Type" (some 0) with
  accessFlags := 1537
  interfaces := #[]
  cf := some (fileOf pool3 1 #[] #[] 1537 3 #[] #[])
  fields := #[]
  methods := #[]
  instanceTypes := #[]
  staticTypes := #[]
  resolved := Array.replicate 22 none
  statics := none }

def pool4 : Array CpInfo := pool [(1, .methodref 2 3), (0, .class_ 4), (0, .nameAndType 5 6), (0, u "java/lang/Record"), (0, u "<init>"), (0, u "()V"), (0, .fieldref 8 9), (0, .class_ 10), (0, .nameAndType 11 12), (0, u "com/example/concordat/concordat/model/StringType"), (0, u "wide"), (0, u "Z"), (0, .fieldref 8 14), (0, .nameAndType 15 16), (0, u "bound"), (0, u "J"), (6, u "bounded"), (0, u "()Z"), (16, .class_ 42), (0, u "com/example/concordat/concordat/model/Type"), (0, u "(ZJ)V"), (10, u "()J")] 29

def k4c0 : Code := { maxStack := 3, maxLocals := 4, code := prog_32_method_1_code, exceptionTable := #[], attributes := #[] }
def k4m0 : Method := { name := "<init>", desc := "(ZJ)V", sig := { parameters := [.boolean, .long], returnType := none }, accessFlags := 1, code := some k4c0 }
def k4c1 : Code := { maxStack := 4, maxLocals := 1, code := prog_32_method_2_code, exceptionTable := #[], attributes := #[] }
def k4m1 : Method := { name := "bounded", desc := "()Z", sig := { parameters := [], returnType := some .boolean }, accessFlags := 1, code := some k4c1 }
def k4c2 : Code := { maxStack := 2, maxLocals := 1, code := prog_32_method_8_code, exceptionTable := #[], attributes := #[] }
def k4m2 : Method := { name := "bound", desc := "()J", sig := { parameters := [], returnType := some .long }, accessFlags := 1, code := some k4c2 }
/-- com/example/concordat/concordat/model/StringType -/
def k4 : Class := { plain "com/example/concordat/concordat/model/StringType" (some 2) with
  accessFlags := 49
  interfaces := #[3]
  cf := some (fileOf pool4 8 #[] #[{ accessFlags := 1, nameIndex := 5, descriptorIndex := 43, attributes := #[] }, { accessFlags := 1, nameIndex := 23, descriptorIndex := 24, attributes := #[] }, { accessFlags := 1, nameIndex := 15, descriptorIndex := 54, attributes := #[] }] 49 2 #[41] #[{ accessFlags := 18, nameIndex := 11, descriptorIndex := 12, attributes := #[] }, { accessFlags := 18, nameIndex := 15, descriptorIndex := 16, attributes := #[] }])
  fields := #[{ name := "wide", type := .boolean, accessFlags := 18, slot := 0, constantValue := 0 }, { name := "bound", type := .long, accessFlags := 18, slot := 1, constantValue := 0 }]
  methods := #[k4m0, k4m1, k4m2]
  instanceTypes := #[.boolean, .long]
  staticTypes := #[]
  resolved := Array.replicate 84 none
  statics := none }

def pool5 : Array CpInfo := pool [(1, u "java/lang/Cloneable"), (0, .class_ 1), (0, u "java/lang/Object"), (0, .class_ 3)] 3

/-- java/lang/Cloneable -/
def k5 : Class := { plain "java/lang/Cloneable" (some 0) with
  accessFlags := 1537
  interfaces := #[]
  cf := some (fileOf pool5 2 #[] #[] 1537 4 #[] #[])
  fields := #[]
  methods := #[]
  instanceTypes := #[]
  staticTypes := #[]
  resolved := Array.replicate 8 none
  statics := none }

def pool6 : Array CpInfo := pool [(1, u "java/io/Serializable"), (0, .class_ 1), (0, u "java/lang/Object"), (0, .class_ 3)] 3

/-- java/io/Serializable -/
def k6 : Class := { plain "java/io/Serializable" (some 0) with
  accessFlags := 1537
  interfaces := #[]
  cf := some (fileOf pool6 2 #[] #[] 1537 4 #[] #[])
  fields := #[]
  methods := #[]
  instanceTypes := #[]
  staticTypes := #[]
  resolved := Array.replicate 8 none
  statics := none }

/-- the primitive byte -/
def k7 : Class := { plain "byte" none with kind := .primitive 'B', accessFlags := 0x411 }
/-- [B -/
def k8 : Class := { plain "[B" (some 0) with kind := .array 7 .byte, interfaces := #[5, 6], accessFlags := 1041 }

/-- the primitive int -/
def k9 : Class := { plain "int" none with kind := .primitive 'I', accessFlags := 0x411 }
/-- [I -/
def k10 : Class := { plain "[I" (some 0) with kind := .array 9 .int, interfaces := #[5, 6], accessFlags := 1041 }

def heap : Heap := #[]
def classes : Array Class := #[k0, k1, k2, k3, k4, k5, k6, k7, k8, k9, k10]
def interned : List (Array UInt16 × Addr) := []
def slotsUsed : Nat := 0
def theMethod : MethodId := ⟨1, 1⟩
def args0 : Array Value := #[.long 5, .int 1]
def aboutOver (below : List Frame) : State where
  vm := { classes := classes, interned := interned.toArray }
  heap := heap
  slotsUsed := slotsUsed
  threads := #[{ frames := .invoking theMethod args0 :: below }]
def below0 : List Frame := [.native { method := ⟨0, 0⟩, args := #[] }]
def about1 : State := aboutOver below0
def p0 : Program := .bare "" "" ""
def e0 : Env := launch0.env 0 0 0
theorem w_frames : about1.frames = Frame.invoking theMethod args0 :: below0 := rfl
set_option maxRecDepth 65536 in
theorem w_args : argsFit about1.vm theMethod args0 = true := by decide +kernel
set_option maxRecDepth 65536 in
theorem w_heap : heapFits about1 = true := by decide +kernel
set_option maxRecDepth 65536 in
theorem w_runnable : about1.curStatus? = some .runnable := by decide +kernel
set_option maxRecDepth 65536 in
theorem w_alone : about1.alone = true := by decide +kernel
set_option maxRecDepth 65536 in
theorem w_named : about1.methodNamed? x = some theMethod := by decide +kernel
set_option maxRecDepth 65536 in
theorem w_hears : about1.hears theMethod below0 = true := by decide +kernel
set_option maxRecDepth 65536 in
theorem w_ripe : about1.ripe theMethod args0 below0 = true := by decide +kernel
theorem w_running : about1.status = .running := rfl
set_option maxRecDepth 65536 in
theorem w_room : about1.hasRoom e0.platform room_1 = true :=
  launch0.hasRoom_least _ room_1 (by decide +kernel) (by decide +kernel) (by decide +kernel) (by decide +kernel) (by decide +kernel) (by decide +kernel)
theorem allAtoms_all (ts : List Jvm.Cond) (a : Array Jvm.Value) (st : Jvm.State) : (allAtoms ts).before a st = ts.all (fun c => c.before a st) := by
  induction ts with
  | nil => rfl
  | cons c t ih =>
    show (Jvm.Cond.and c (allAtoms t)).before a st = _
    rw [Jvm.Cond.before_and, ih, List.all_cons]
def words1 : List Jvm.Cond := Jvm.Cond.code x code maxLocals ret :: tables_1
/-- a 'code' word, met by the world's own term for the bytes: nothing is compared byte by byte -/
theorem code_word {y : MethodName} {bytes : ByteArray} {mx : Nat} {rt : Option FieldType} {a : Array Value} {s : State} {m : MethodId} {meth : Method} {c : Code} (h1 : s.methodNamed? y = some m) (h2 : s.vm.method? m = some meth) (h3 : meth.code = some c) (h4 : c.code = bytes)
    (h5 : (c.maxLocals == mx && c.exceptionTable.isEmpty && decide (c.maxStack ≤ mostOperands) && decide (meth.sig.returnType = rt) && !meth.locks && decide (parseMethodDescriptor y.desc = some meth.sig)) = true) : (Jvm.Cond.code y bytes mx rt).before a s = true := by
  simp only [Bool.and_eq_true, beq_iff_eq, Bool.not_eq_true', decide_eq_true_eq] at h5
  obtain ⟨⟨⟨⟨⟨g1, g2⟩, g3⟩, g4⟩, g5⟩, g6⟩ := h5
  simp [Cond.before, Cond.holds, Cond.value, h1, h2, h3, h4, g1, g2, g3, g4, g5, g6]
def isCode : Jvm.Cond → Bool
  | .code _ _ _ _ => true
  | _ => false
theorem all_split {L : List Jvm.Cond} {P : Jvm.Cond → Bool} (h1 : L.all (fun c => isCode c || P c) = true) (h2 : ∀ c ∈ L.filter isCode, P c = true) : L.all P = true := by
  refine List.all_eq_true.mpr fun c hc => ?_
  have h := List.all_eq_true.mp h1 c hc
  rcases Bool.eq_false_or_eq_true (isCode c) with hi | hi
  · exact h2 c (List.mem_filter.mpr ⟨hc, hi⟩)
  · simpa [hi] using h
set_option maxRecDepth 65536 in
theorem w_c0 : (Jvm.Cond.code x code maxLocals ret).before args0 about1 = true := code_word (m := ⟨1, 1⟩) (meth := k1m1) (c := k1c1) (by decide +kernel) rfl rfl rfl (by decide +kernel)
set_option maxRecDepth 65536 in
theorem w_c1 : (Jvm.Cond.code ({ cls := "com/example/concordat/concordat/model/StringType", name := "<init>", desc := "(ZJ)V" } : Jvm.MethodName) prog_32_method_1_code (4 : Nat) (Option.none : Option Jvm.ClassFile.FieldType)).before args0 about1 = true := code_word (m := ⟨4, 0⟩) (meth := k4m0) (c := k4c0) (by decide +kernel) rfl rfl rfl (by decide +kernel)
set_option maxRecDepth 65536 in
theorem w_c2 : (Jvm.Cond.code ({ cls := "java/lang/Record", name := "<init>", desc := "()V" } : Jvm.MethodName) jdk_30_method_1_code (1 : Nat) (Option.none : Option Jvm.ClassFile.FieldType)).before args0 about1 = true := code_word (m := ⟨2, 0⟩) (meth := k2m0) (c := k2c0) (by decide +kernel) rfl rfl rfl (by decide +kernel)
set_option maxRecDepth 65536 in
theorem w_c3 : (Jvm.Cond.code ({ cls := "java/lang/Object", name := "<init>", desc := "()V" } : Jvm.MethodName) object_method_1_code (1 : Nat) (Option.none : Option Jvm.ClassFile.FieldType)).before args0 about1 = true := code_word (m := ⟨0, 0⟩) (meth := k0m0) (c := k0c0) (by decide +kernel) rfl rfl rfl (by decide +kernel)
set_option maxRecDepth 65536 in
theorem w_c4 : (Jvm.Cond.code ({ cls := "com/example/concordat/concordat/model/StringType", name := "bounded", desc := "()Z" } : Jvm.MethodName) prog_32_method_2_code (1 : Nat) (Option.some Jvm.ClassFile.FieldType.boolean)).before args0 about1 = true := code_word (m := ⟨4, 1⟩) (meth := k4m1) (c := k4c1) (by decide +kernel) rfl rfl rfl (by decide +kernel)
set_option maxRecDepth 65536 in
theorem w_c5 : (Jvm.Cond.code ({ cls := "com/example/concordat/concordat/model/StringType", name := "bound", desc := "()J" } : Jvm.MethodName) prog_32_method_8_code (1 : Nat) (Option.some Jvm.ClassFile.FieldType.long)).before args0 about1 = true := code_word (m := ⟨4, 2⟩) (meth := k4m2) (c := k4c2) (by decide +kernel) rfl rfl rfl (by decide +kernel)
def codes1 : List Jvm.Cond := [Jvm.Cond.code x code maxLocals ret, Jvm.Cond.code ({ cls := "com/example/concordat/concordat/model/StringType", name := "<init>", desc := "(ZJ)V" } : Jvm.MethodName) prog_32_method_1_code (4 : Nat) (Option.none : Option Jvm.ClassFile.FieldType), Jvm.Cond.code ({ cls := "java/lang/Record", name := "<init>", desc := "()V" } : Jvm.MethodName) jdk_30_method_1_code (1 : Nat) (Option.none : Option Jvm.ClassFile.FieldType), Jvm.Cond.code ({ cls := "java/lang/Object", name := "<init>", desc := "()V" } : Jvm.MethodName) object_method_1_code (1 : Nat) (Option.none : Option Jvm.ClassFile.FieldType), Jvm.Cond.code ({ cls := "com/example/concordat/concordat/model/StringType", name := "bounded", desc := "()Z" } : Jvm.MethodName) prog_32_method_2_code (1 : Nat) (Option.some Jvm.ClassFile.FieldType.boolean), Jvm.Cond.code ({ cls := "com/example/concordat/concordat/model/StringType", name := "bound", desc := "()J" } : Jvm.MethodName) prog_32_method_8_code (1 : Nat) (Option.some Jvm.ClassFile.FieldType.long)]
set_option maxRecDepth 65536 in
theorem codes_eq : words1.filter isCode = codes1 := rfl
theorem w_codes : ∀ c ∈ words1.filter isCode, c.before args0 about1 = true := by
  rw [codes_eq]
  intro c hc
  simp only [codes1, List.mem_cons, List.not_mem_nil, or_false] at hc
  rcases hc with rfl | rfl | rfl | rfl | rfl | rfl
  · exact w_c0
  · exact w_c1
  · exact w_c2
  · exact w_c3
  · exact w_c4
  · exact w_c5
set_option maxRecDepth 65536 in
theorem w_t1 : (words1.take 24).all (fun c => isCode c || c.before args0 about1) = true := by decide +kernel
set_option maxRecDepth 65536 in
theorem w_t2 : (words1.drop 24).all (fun c => isCode c || c.before args0 about1) = true := by decide +kernel
theorem w_tables : (allAtoms (Jvm.Cond.code x code maxLocals ret :: tables_1)).before args0 about1 = true := by
  rw [allAtoms_all]
  show words1.all (fun c => c.before args0 about1) = true
  refine all_split ?_ w_codes
  rw [← List.take_append_drop 24 words1, List.all_append, w_t1, w_t2]
  rfl
set_option maxRecDepth 65536 in
theorem w_case : (Jvm.Cond.and given_1 narrow_1).before args0 about1 = true := by decide +kernel
theorem w_applies : (headSpec (Jvm.Cond.code x code maxLocals ret :: tables_1) room_1).applies x e0.platform about1 = true :=
  (Spec.applies_iff w_frames).mpr ⟨w_running, w_runnable, w_alone, w_named, w_hears, w_ripe, w_room, w_tables⟩
theorem atStart : AtStart classFile x code maxLocals ret World_1 tables_1 room_1 Calls_1 rest_1 Pre_1 launch0 p0 e0 about1 theMethod args0 below0 :=
  ⟨lists_1, trivial, launch0.admits_env _ _ _, launch0.least_env, fairChoices_fair.cas, fairChoices_fair.clock, w_frames, w_args, w_heap, w_applies, trivial, trivial, w_case⟩
end start1
theorem witness_1 : WitnessClaimed_1 := ⟨start1.p0, start1.e0, start1.about1, start1.theMethod, start1.args0, start1.below0, start1.atStart⟩
end Jvm.Pilot.@@N@@
