import JvmDerived
import JvmDerived.Pilot.@@N@@Statement
import JvmDerived.Pilot.@@N@@Code
set_option linter.unusedVariables false
set_option linter.unusedSimpArgs false

namespace Jvm.RoadKit
open Sem ClassFile Op Lib Jvm.Stand Jvm.Free Jvm.LawKit
section New
variable {p : Program} {l : Launch} {e : Env} {R : Room} {s : State} {m : MethodId} {args : Array Value} {below : List Frame} {meth : Method} {c : Code} {T : State} {locs : List Loc} {cells slots : Nat}
theorem retI (X : Stand p l e R s m args below meth c T locs cells slots) (hx : p.tables.exec = Jvm.exec) {pc : Nat} {Ls : Array Slot} {z : Int32} {rest : List Value} (hret : meth.sig.returnType = some .int) (hd : decode c.code pc = .ok (.ireturn, 1)) {fs : List Frame}
    (hl : ∀ (f : JFrame) (acts : List Action), f.method = m → f.locked = none → f.entered = [] → (doReturn e (T.setTop f) acts (some (.int z))).1 = T.setFrames fs) : Steps p.tables e below (T.setTop (mkF m pc Ls (.int z :: rest))) (T.setFrames fs) := by
  exact retOut X hx hret rfl (Or.inl ⟨rfl, Or.inl rfl, _, rfl⟩) hd hl
end New
end Jvm.RoadKit
namespace Jvm.Pilot.@@N@@
open Jvm Jvm.ClassFile Sem Op Lib Jvm.Free Jvm.Stand Jvm.LawKit Jvm.RoadKit Bundle Jvm.Pilot.@@N@@.Jvm.D
theorem own_ord {args : Array Value} {s : State} {t : Term} {x : Addr} {k : Int32} (ev : t.eval args s none [] s = some (.ref x)) (h : (Jvm.Cond.eq (.field t "java/lang/Enum" "ordinal" "I") (.int k)).value args s none s [] = some true) : s.fieldOf? x "java/lang/Enum" "ordinal" "I" = some (.int k) := by
  have h' := h
  obtain ⟨a, b, h1, h2, h3, h4⟩ := cmp_v (Or.inl h)
  have e1 := fld_at (C := "java/lang/Enum") (n := "ordinal") (dd := "I") ev
  cases h2
  obtain ⟨z, rfl⟩ := h4
  simp [Cond.value, h1, Term.eval] at h'
  rw [e1] at h1
  rw [h1]
  simp_all
theorem own_ne {s : State} {x y : Addr} {k j : Int32} (h1 : s.fieldOf? x "java/lang/Enum" "ordinal" "I" = some (.int k)) (h2 : s.fieldOf? y "java/lang/Enum" "ordinal" "I" = some (.int j)) (hn : k ≠ j) : x ≠ y := fun e => by
  subst e
  cases h1.symm.trans h2
  exact hn rfl
theorem own_13 {p : Int32} (h0 : ¬ (((p &&& (2147483647 : Int32)) % (14 : Int32)) = (0 : Int32))) (h1 : ¬ (((p &&& (2147483647 : Int32)) % (14 : Int32)) = (1 : Int32))) (h2 : ¬ (((p &&& (2147483647 : Int32)) % (14 : Int32)) = (2 : Int32))) (h3 : ¬ (((p &&& (2147483647 : Int32)) % (14 : Int32)) = (3 : Int32))) (h4 : ¬ (((p &&& (2147483647 : Int32)) % (14 : Int32)) = (4 : Int32))) (h5 : ¬ (((p &&& (2147483647 : Int32)) % (14 : Int32)) = (5 : Int32))) (h6 : ¬ (((p &&& (2147483647 : Int32)) % (14 : Int32)) = (6 : Int32))) (h7 : ¬ (((p &&& (2147483647 : Int32)) % (14 : Int32)) = (7 : Int32))) (h8 : ¬ (((p &&& (2147483647 : Int32)) % (14 : Int32)) = (8 : Int32))) (h9 : ¬ (((p &&& (2147483647 : Int32)) % (14 : Int32)) = (9 : Int32))) (h10 : ¬ (((p &&& (2147483647 : Int32)) % (14 : Int32)) = (10 : Int32))) (h11 : ¬ (((p &&& (2147483647 : Int32)) % (14 : Int32)) = (11 : Int32))) (h12 : ¬ (((p &&& (2147483647 : Int32)) % (14 : Int32)) = (12 : Int32))) : ((p &&& (2147483647 : Int32)) % (14 : Int32)) = (13 : Int32) := by
  have e := c_mask p 2147483647 31 (by decide) (by decide)
  have e2 := c_irem (p &&& (2147483647 : Int32)) 14 14 (by decide)
  have e3 : 0 ≤ (p &&& (2147483647 : Int32)).toInt := by omega
  have e4 := e2.1 e3
  simp only [← Int32.toInt_inj, Int32.reduceToInt] at *; omega
theorem d1_0 : decode method_3_code 0 = .ok (.iload_n 0, 1) := by decide +kernel
theorem d1_1 : decode method_3_code 1 = .ok (.ifCond .ne 7, 3) := by decide +kernel
theorem d1_4 : decode method_3_code 4 = .ok (.getstatic 20, 3) := by decide +kernel
theorem d1_7 : decode method_3_code 7 = .ok (.areturn, 1) := by decide +kernel
theorem pn_com_example_indberet_indberet_KindKeepsTextPinLaw : plainName "com/example/indberet/indberet/KindKeepsTextPinLaw" = true := by first | (simp [plainName, overriddenIn]; done) | decide +kernel
theorem ef_rm_pk0 (m : MethodId) (x0 : Int32) : entryFrame m #[(.int x0)] 1 = mkF m 0 #[.val (.int x0)] [] := by first | (simp [entryFrame, mkF, argsToLocals, Value.category]; done) | rfl
def Q_rm_pk0 (Z : State) (p1 : Int32) (w_TEXT : Addr) (h0 : Heap) (n0 : Nat) (v : Option Value) (h : Heap) (L : List Loc) : Prop := v = some (.ref w_TEXT) ∧ Fr n0 L ∧ h = h0
set_option maxRecDepth 65536 in
set_option maxHeartbeats 40000000 in
theorem rm_pk0 (l : Launch) (Z : State) (a0 : Array Value) (hw : ∀ d ∈ tables_1, d.before a0 Z = true) (ws : List Jvm.Cond) (p1 : Int32) (w_TEXT : Addr) (h0 : Heap) (n0 : Nat) (Z0 : n0 ≤ h0.size) (pr0 : Sta Z Z.heap "com/example/indberet/indberet/Lpr3Class$Kind" "TEXT" "Lcom/example/indberet/indberet/Lpr3Class$Kind;" (.ref w_TEXT)) (pr1 : Old Z n0 h0) (hn0 : p1 = (0 : Int32)) :
    MetFree l (⟨"com/example/indberet/indberet/KindKeepsTextPinLaw", "kind", "(I)Lcom/example/indberet/indberet/Lpr3Class$Kind;"⟩ : MethodName) (head1 (Jvm.Cond.code (⟨"com/example/indberet/indberet/KindKeepsTextPinLaw", "kind", "(I)Lcom/example/indberet/indberet/Lpr3Class$Kind;"⟩ : MethodName) method_3_code 1 (some (.object "com/example/indberet/indberet/Lpr3Class$Kind")) :: ws) ({ frames := 0, cells := 0, slots := 0, locals := 0 } : Room)) (fun a U => a = #[(.int p1)] ∧ Z.Warmed39 U.vm ∧ U.heap = h0) (fun _ _ _ _ _ => True) (fun _ U o U' => ∃ v L, o = .returned v ∧ Q_rm_pk0 Z p1 w_TEXT h0 n0 v U'.heap L ∧ FrameEnd U o U' L ({ frames := 0, cells := 0, slots := 0, locals := 0 } : Room).cells ({ frames := 0, cells := 0, slots := 0, locals := 0 } : Room).slots) := by
  refine MetFree.of_bodySF (plainFor_of_name pn_com_example_indberet_indberet_KindKeepsTextPinLaw) hisR ?_
  intro p e s m args below meth c s₁ Bd hml0 hP hK
  obtain ⟨rfl, hZ, hh⟩ := hP
  have hx := Bd.exec
  have hby := Bd.bytes
  have hml : c.maxLocals = 1 := hml0
  have hown : s.vm.findClass "com/example/indberet/indberet/KindKeepsTextPinLaw" = some m.cls := findClass_of_methodNamed Bd.named
  have hnm := (name_of_methodNamed Bd.named Bd.method).1
  have X0 : Stand p l e ({ frames := 0, cells := 0, slots := 0, locals := 0 } : Room) s m #[(.int p1)] below meth c s₁ [] 0 0 := Stand.of_body Bd
  have e0 : s₁.heap = h0 := by rw [← hh, Bd.state]; rfl
  have N0 := Fr.nil n0
  have pre0 : ∀ t, Steps p.tables e below (s₁.setTop (mkF m 0 #[.val (.int p1)] [])) t → Steps p.tables e below (s₁.setTop (entryFrame m #[(.int p1)] 1)) t := fun t k => castTop (ef_rm_pk0 m p1) k
  obtain ⟨T1, X1, e1, st1⟩ := getS2 X0 hx hZ hown (host := "") (Or.inl (hw _ (List.mem_of_getElem? (i := 5) rfl))) Via.refl e0 (pr0.ext pr1.2) (g := (mkF m 4 #[.val (.int p1)] [])) rfl (hb hby d1_4)
  obtain ⟨fs, hr, hrun, hended, hW, hsame⟩ := X1.leave (v := some (.ref w_TEXT)) (fun h => by rw [Bd.returns] at h; cases h)
  refine ⟨_, _, pre0 _ ?_, hrun, hended, _, _, rfl, ?_, ⟨_, rfl⟩, hW, hsame.mono (by decide) (by decide)⟩
  · show Steps p.tables e below (s₁.setTop (mkF m 0 #[.val (.int p1)] [])) _
    refine XS.iloadN X0.here hx rfl (hb hby d1_0) rfl ?_
    show Steps p.tables e below (s₁.setTop (mkF m 1 #[.val (.int p1)] [(.int p1)])) _
    refine XS.ifNo X0.here hx rfl (hb hby d1_1) rfl ((if0 _ _).trans (teq hn0).2) ?_
    show Steps p.tables e below (s₁.setTop (mkF m 4 #[.val (.int p1)] [])) _
    refine st1 _ ?_
    show Steps p.tables e below (T1.setTop (mkF m 7 #[.val (.int p1)] [(.ref w_TEXT)])) _
    exact retOut X1 hx Bd.returns rfl (Or.inr (Or.inr (Or.inr (Or.inr ⟨rfl, rfl, rfl⟩)))) (hb hby d1_7) hr
  · show Q_rm_pk0 Z p1 w_TEXT h0 n0 _ T1.heap _
    rw [e1]
    exact ⟨rfl, N0, rfl⟩
theorem d1_8 : decode method_3_code 8 = .ok (.iload_n 0, 1) := by decide +kernel
theorem d1_9 : decode method_3_code 9 = .ok (.iconst 1, 1) := by decide +kernel
theorem d1_10 : decode method_3_code 10 = .ok (.if_icmp .ne 7, 3) := by decide +kernel
theorem d1_13 : decode method_3_code 13 = .ok (.getstatic 24, 3) := by decide +kernel
theorem d1_16 : decode method_3_code 16 = .ok (.areturn, 1) := by decide +kernel
theorem ef_rm_pk1 (m : MethodId) (x0 : Int32) : entryFrame m #[(.int x0)] 1 = mkF m 0 #[.val (.int x0)] [] := by first | (simp [entryFrame, mkF, argsToLocals, Value.category]; done) | rfl
def Q_rm_pk1 (Z : State) (p1 : Int32) (w_OPTIONAL_TEXT : Addr) (h0 : Heap) (n0 : Nat) (v : Option Value) (h : Heap) (L : List Loc) : Prop := v = some (.ref w_OPTIONAL_TEXT) ∧ Fr n0 L ∧ h = h0
set_option maxRecDepth 65536 in
set_option maxHeartbeats 40000000 in
theorem rm_pk1 (l : Launch) (Z : State) (a0 : Array Value) (hw : ∀ d ∈ tables_1, d.before a0 Z = true) (ws : List Jvm.Cond) (p1 : Int32) (w_OPTIONAL_TEXT : Addr) (h0 : Heap) (n0 : Nat) (Z0 : n0 ≤ h0.size) (pr0 : Sta Z Z.heap "com/example/indberet/indberet/Lpr3Class$Kind" "OPTIONAL_TEXT" "Lcom/example/indberet/indberet/Lpr3Class$Kind;" (.ref w_OPTIONAL_TEXT)) (pr1 : Old Z n0 h0) (hn0 : ¬ (p1 = (0 : Int32))) (hn1 : p1 = (1 : Int32)) :
    MetFree l (⟨"com/example/indberet/indberet/KindKeepsTextPinLaw", "kind", "(I)Lcom/example/indberet/indberet/Lpr3Class$Kind;"⟩ : MethodName) (head1 (Jvm.Cond.code (⟨"com/example/indberet/indberet/KindKeepsTextPinLaw", "kind", "(I)Lcom/example/indberet/indberet/Lpr3Class$Kind;"⟩ : MethodName) method_3_code 1 (some (.object "com/example/indberet/indberet/Lpr3Class$Kind")) :: ws) ({ frames := 0, cells := 0, slots := 0, locals := 0 } : Room)) (fun a U => a = #[(.int p1)] ∧ Z.Warmed39 U.vm ∧ U.heap = h0) (fun _ _ _ _ _ => True) (fun _ U o U' => ∃ v L, o = .returned v ∧ Q_rm_pk1 Z p1 w_OPTIONAL_TEXT h0 n0 v U'.heap L ∧ FrameEnd U o U' L ({ frames := 0, cells := 0, slots := 0, locals := 0 } : Room).cells ({ frames := 0, cells := 0, slots := 0, locals := 0 } : Room).slots) := by
  refine MetFree.of_bodySF (plainFor_of_name pn_com_example_indberet_indberet_KindKeepsTextPinLaw) hisR ?_
  intro p e s m args below meth c s₁ Bd hml0 hP hK
  obtain ⟨rfl, hZ, hh⟩ := hP
  have hx := Bd.exec
  have hby := Bd.bytes
  have hml : c.maxLocals = 1 := hml0
  have hown : s.vm.findClass "com/example/indberet/indberet/KindKeepsTextPinLaw" = some m.cls := findClass_of_methodNamed Bd.named
  have hnm := (name_of_methodNamed Bd.named Bd.method).1
  have X0 : Stand p l e ({ frames := 0, cells := 0, slots := 0, locals := 0 } : Room) s m #[(.int p1)] below meth c s₁ [] 0 0 := Stand.of_body Bd
  have e0 : s₁.heap = h0 := by rw [← hh, Bd.state]; rfl
  have N0 := Fr.nil n0
  have pre0 : ∀ t, Steps p.tables e below (s₁.setTop (mkF m 0 #[.val (.int p1)] [])) t → Steps p.tables e below (s₁.setTop (entryFrame m #[(.int p1)] 1)) t := fun t k => castTop (ef_rm_pk1 m p1) k
  obtain ⟨T1, X1, e1, st1⟩ := getS2 X0 hx hZ hown (host := "") (Or.inl (hw _ (List.mem_of_getElem? (i := 35) rfl))) Via.refl e0 (pr0.ext pr1.2) (g := (mkF m 13 #[.val (.int p1)] [])) rfl (hb hby d1_13)
  obtain ⟨fs, hr, hrun, hended, hW, hsame⟩ := X1.leave (v := some (.ref w_OPTIONAL_TEXT)) (fun h => by rw [Bd.returns] at h; cases h)
  refine ⟨_, _, pre0 _ ?_, hrun, hended, _, _, rfl, ?_, ⟨_, rfl⟩, hW, hsame.mono (by decide) (by decide)⟩
  · show Steps p.tables e below (s₁.setTop (mkF m 0 #[.val (.int p1)] [])) _
    refine XS.iloadN X0.here hx rfl (hb hby d1_0) rfl ?_
    show Steps p.tables e below (s₁.setTop (mkF m 1 #[.val (.int p1)] [(.int p1)])) _
    refine XS.ifYes X0.here hx rfl (pc0 := 1) (pc' := 8) rfl (hb hby d1_1) rfl ((if0 _ _).trans (feq hn0).2) (by decide) (by decide) ?_
    show Steps p.tables e below (s₁.setTop (mkF m 8 #[.val (.int p1)] [])) _
    refine XS.iloadN X0.here hx rfl (hb hby d1_8) rfl ?_
    show Steps p.tables e below (s₁.setTop (mkF m 9 #[.val (.int p1)] [(.int p1)])) _
    refine XS.iconst X0.here hx rfl (hb hby d1_9) ?_
    show Steps p.tables e below (s₁.setTop (mkF m 10 #[.val (.int p1)] [(.int (1 : Int32)), (.int p1)])) _
    refine XS.icmpNo X0.here hx rfl (hb hby d1_10) rfl (teq hn1).2 ?_
    show Steps p.tables e below (s₁.setTop (mkF m 13 #[.val (.int p1)] [])) _
    refine st1 _ ?_
    show Steps p.tables e below (T1.setTop (mkF m 16 #[.val (.int p1)] [(.ref w_OPTIONAL_TEXT)])) _
    exact retOut X1 hx Bd.returns rfl (Or.inr (Or.inr (Or.inr (Or.inr ⟨rfl, rfl, rfl⟩)))) (hb hby d1_16) hr
  · show Q_rm_pk1 Z p1 w_OPTIONAL_TEXT h0 n0 _ T1.heap _
    rw [e1]
    exact ⟨rfl, N0, rfl⟩
theorem d1_17 : decode method_3_code 17 = .ok (.iload_n 0, 1) := by decide +kernel
theorem d1_18 : decode method_3_code 18 = .ok (.iconst 2, 1) := by decide +kernel
theorem d1_19 : decode method_3_code 19 = .ok (.if_icmp .ne 7, 3) := by decide +kernel
theorem d1_22 : decode method_3_code 22 = .ok (.getstatic 27, 3) := by decide +kernel
theorem d1_25 : decode method_3_code 25 = .ok (.areturn, 1) := by decide +kernel
theorem ef_rm_pk2 (m : MethodId) (x0 : Int32) : entryFrame m #[(.int x0)] 1 = mkF m 0 #[.val (.int x0)] [] := by first | (simp [entryFrame, mkF, argsToLocals, Value.category]; done) | rfl
def Q_rm_pk2 (Z : State) (p1 : Int32) (w_VALUE : Addr) (h0 : Heap) (n0 : Nat) (v : Option Value) (h : Heap) (L : List Loc) : Prop := v = some (.ref w_VALUE) ∧ Fr n0 L ∧ h = h0
set_option maxRecDepth 65536 in
set_option maxHeartbeats 40000000 in
theorem rm_pk2 (l : Launch) (Z : State) (a0 : Array Value) (hw : ∀ d ∈ tables_1, d.before a0 Z = true) (ws : List Jvm.Cond) (p1 : Int32) (w_VALUE : Addr) (h0 : Heap) (n0 : Nat) (Z0 : n0 ≤ h0.size) (pr0 : Sta Z Z.heap "com/example/indberet/indberet/Lpr3Class$Kind" "VALUE" "Lcom/example/indberet/indberet/Lpr3Class$Kind;" (.ref w_VALUE)) (pr1 : Old Z n0 h0) (hn0 : ¬ (p1 = (0 : Int32))) (hn1 : ¬ (p1 = (1 : Int32))) (hn2 : p1 = (2 : Int32)) :
    MetFree l (⟨"com/example/indberet/indberet/KindKeepsTextPinLaw", "kind", "(I)Lcom/example/indberet/indberet/Lpr3Class$Kind;"⟩ : MethodName) (head1 (Jvm.Cond.code (⟨"com/example/indberet/indberet/KindKeepsTextPinLaw", "kind", "(I)Lcom/example/indberet/indberet/Lpr3Class$Kind;"⟩ : MethodName) method_3_code 1 (some (.object "com/example/indberet/indberet/Lpr3Class$Kind")) :: ws) ({ frames := 0, cells := 0, slots := 0, locals := 0 } : Room)) (fun a U => a = #[(.int p1)] ∧ Z.Warmed39 U.vm ∧ U.heap = h0) (fun _ _ _ _ _ => True) (fun _ U o U' => ∃ v L, o = .returned v ∧ Q_rm_pk2 Z p1 w_VALUE h0 n0 v U'.heap L ∧ FrameEnd U o U' L ({ frames := 0, cells := 0, slots := 0, locals := 0 } : Room).cells ({ frames := 0, cells := 0, slots := 0, locals := 0 } : Room).slots) := by
  refine MetFree.of_bodySF (plainFor_of_name pn_com_example_indberet_indberet_KindKeepsTextPinLaw) hisR ?_
  intro p e s m args below meth c s₁ Bd hml0 hP hK
  obtain ⟨rfl, hZ, hh⟩ := hP
  have hx := Bd.exec
  have hby := Bd.bytes
  have hml : c.maxLocals = 1 := hml0
  have hown : s.vm.findClass "com/example/indberet/indberet/KindKeepsTextPinLaw" = some m.cls := findClass_of_methodNamed Bd.named
  have hnm := (name_of_methodNamed Bd.named Bd.method).1
  have X0 : Stand p l e ({ frames := 0, cells := 0, slots := 0, locals := 0 } : Room) s m #[(.int p1)] below meth c s₁ [] 0 0 := Stand.of_body Bd
  have e0 : s₁.heap = h0 := by rw [← hh, Bd.state]; rfl
  have N0 := Fr.nil n0
  have pre0 : ∀ t, Steps p.tables e below (s₁.setTop (mkF m 0 #[.val (.int p1)] [])) t → Steps p.tables e below (s₁.setTop (entryFrame m #[(.int p1)] 1)) t := fun t k => castTop (ef_rm_pk2 m p1) k
  obtain ⟨T1, X1, e1, st1⟩ := getS2 X0 hx hZ hown (host := "") (Or.inl (hw _ (List.mem_of_getElem? (i := 29) rfl))) Via.refl e0 (pr0.ext pr1.2) (g := (mkF m 22 #[.val (.int p1)] [])) rfl (hb hby d1_22)
  obtain ⟨fs, hr, hrun, hended, hW, hsame⟩ := X1.leave (v := some (.ref w_VALUE)) (fun h => by rw [Bd.returns] at h; cases h)
  refine ⟨_, _, pre0 _ ?_, hrun, hended, _, _, rfl, ?_, ⟨_, rfl⟩, hW, hsame.mono (by decide) (by decide)⟩
  · show Steps p.tables e below (s₁.setTop (mkF m 0 #[.val (.int p1)] [])) _
    refine XS.iloadN X0.here hx rfl (hb hby d1_0) rfl ?_
    show Steps p.tables e below (s₁.setTop (mkF m 1 #[.val (.int p1)] [(.int p1)])) _
    refine XS.ifYes X0.here hx rfl (pc0 := 1) (pc' := 8) rfl (hb hby d1_1) rfl ((if0 _ _).trans (feq hn0).2) (by decide) (by decide) ?_
    show Steps p.tables e below (s₁.setTop (mkF m 8 #[.val (.int p1)] [])) _
    refine XS.iloadN X0.here hx rfl (hb hby d1_8) rfl ?_
    show Steps p.tables e below (s₁.setTop (mkF m 9 #[.val (.int p1)] [(.int p1)])) _
    refine XS.iconst X0.here hx rfl (hb hby d1_9) ?_
    show Steps p.tables e below (s₁.setTop (mkF m 10 #[.val (.int p1)] [(.int (1 : Int32)), (.int p1)])) _
    refine XS.icmpYes X0.here hx rfl (pc0 := 10) (pc' := 17) rfl (hb hby d1_10) rfl (feq hn1).2 (by decide) (by decide) ?_
    show Steps p.tables e below (s₁.setTop (mkF m 17 #[.val (.int p1)] [])) _
    refine XS.iloadN X0.here hx rfl (hb hby d1_17) rfl ?_
    show Steps p.tables e below (s₁.setTop (mkF m 18 #[.val (.int p1)] [(.int p1)])) _
    refine XS.iconst X0.here hx rfl (hb hby d1_18) ?_
    show Steps p.tables e below (s₁.setTop (mkF m 19 #[.val (.int p1)] [(.int (2 : Int32)), (.int p1)])) _
    refine XS.icmpNo X0.here hx rfl (hb hby d1_19) rfl (teq hn2).2 ?_
    show Steps p.tables e below (s₁.setTop (mkF m 22 #[.val (.int p1)] [])) _
    refine st1 _ ?_
    show Steps p.tables e below (T1.setTop (mkF m 25 #[.val (.int p1)] [(.ref w_VALUE)])) _
    exact retOut X1 hx Bd.returns rfl (Or.inr (Or.inr (Or.inr (Or.inr ⟨rfl, rfl, rfl⟩)))) (hb hby d1_25) hr
  · show Q_rm_pk2 Z p1 w_VALUE h0 n0 _ T1.heap _
    rw [e1]
    exact ⟨rfl, N0, rfl⟩
theorem d1_26 : decode method_3_code 26 = .ok (.iload_n 0, 1) := by decide +kernel
theorem d1_27 : decode method_3_code 27 = .ok (.iconst 3, 1) := by decide +kernel
theorem d1_28 : decode method_3_code 28 = .ok (.if_icmp .ne 7, 3) := by decide +kernel
theorem d1_31 : decode method_3_code 31 = .ok (.getstatic 30, 3) := by decide +kernel
theorem d1_34 : decode method_3_code 34 = .ok (.areturn, 1) := by decide +kernel
theorem ef_rm_pk3 (m : MethodId) (x0 : Int32) : entryFrame m #[(.int x0)] 1 = mkF m 0 #[.val (.int x0)] [] := by first | (simp [entryFrame, mkF, argsToLocals, Value.category]; done) | rfl
def Q_rm_pk3 (Z : State) (p1 : Int32) (w_REFERENCE : Addr) (h0 : Heap) (n0 : Nat) (v : Option Value) (h : Heap) (L : List Loc) : Prop := v = some (.ref w_REFERENCE) ∧ Fr n0 L ∧ h = h0
set_option maxRecDepth 65536 in
set_option maxHeartbeats 40000000 in
theorem rm_pk3 (l : Launch) (Z : State) (a0 : Array Value) (hw : ∀ d ∈ tables_1, d.before a0 Z = true) (ws : List Jvm.Cond) (p1 : Int32) (w_REFERENCE : Addr) (h0 : Heap) (n0 : Nat) (Z0 : n0 ≤ h0.size) (pr0 : Sta Z Z.heap "com/example/indberet/indberet/Lpr3Class$Kind" "REFERENCE" "Lcom/example/indberet/indberet/Lpr3Class$Kind;" (.ref w_REFERENCE)) (pr1 : Old Z n0 h0) (hn0 : ¬ (p1 = (0 : Int32))) (hn1 : ¬ (p1 = (1 : Int32))) (hn2 : ¬ (p1 = (2 : Int32))) (hn3 : p1 = (3 : Int32)) :
    MetFree l (⟨"com/example/indberet/indberet/KindKeepsTextPinLaw", "kind", "(I)Lcom/example/indberet/indberet/Lpr3Class$Kind;"⟩ : MethodName) (head1 (Jvm.Cond.code (⟨"com/example/indberet/indberet/KindKeepsTextPinLaw", "kind", "(I)Lcom/example/indberet/indberet/Lpr3Class$Kind;"⟩ : MethodName) method_3_code 1 (some (.object "com/example/indberet/indberet/Lpr3Class$Kind")) :: ws) ({ frames := 0, cells := 0, slots := 0, locals := 0 } : Room)) (fun a U => a = #[(.int p1)] ∧ Z.Warmed39 U.vm ∧ U.heap = h0) (fun _ _ _ _ _ => True) (fun _ U o U' => ∃ v L, o = .returned v ∧ Q_rm_pk3 Z p1 w_REFERENCE h0 n0 v U'.heap L ∧ FrameEnd U o U' L ({ frames := 0, cells := 0, slots := 0, locals := 0 } : Room).cells ({ frames := 0, cells := 0, slots := 0, locals := 0 } : Room).slots) := by
  refine MetFree.of_bodySF (plainFor_of_name pn_com_example_indberet_indberet_KindKeepsTextPinLaw) hisR ?_
  intro p e s m args below meth c s₁ Bd hml0 hP hK
  obtain ⟨rfl, hZ, hh⟩ := hP
  have hx := Bd.exec
  have hby := Bd.bytes
  have hml : c.maxLocals = 1 := hml0
  have hown : s.vm.findClass "com/example/indberet/indberet/KindKeepsTextPinLaw" = some m.cls := findClass_of_methodNamed Bd.named
  have hnm := (name_of_methodNamed Bd.named Bd.method).1
  have X0 : Stand p l e ({ frames := 0, cells := 0, slots := 0, locals := 0 } : Room) s m #[(.int p1)] below meth c s₁ [] 0 0 := Stand.of_body Bd
  have e0 : s₁.heap = h0 := by rw [← hh, Bd.state]; rfl
  have N0 := Fr.nil n0
  have pre0 : ∀ t, Steps p.tables e below (s₁.setTop (mkF m 0 #[.val (.int p1)] [])) t → Steps p.tables e below (s₁.setTop (entryFrame m #[(.int p1)] 1)) t := fun t k => castTop (ef_rm_pk3 m p1) k
  obtain ⟨T1, X1, e1, st1⟩ := getS2 X0 hx hZ hown (host := "") (Or.inl (hw _ (List.mem_of_getElem? (i := 21) rfl))) Via.refl e0 (pr0.ext pr1.2) (g := (mkF m 31 #[.val (.int p1)] [])) rfl (hb hby d1_31)
  obtain ⟨fs, hr, hrun, hended, hW, hsame⟩ := X1.leave (v := some (.ref w_REFERENCE)) (fun h => by rw [Bd.returns] at h; cases h)
  refine ⟨_, _, pre0 _ ?_, hrun, hended, _, _, rfl, ?_, ⟨_, rfl⟩, hW, hsame.mono (by decide) (by decide)⟩
  · show Steps p.tables e below (s₁.setTop (mkF m 0 #[.val (.int p1)] [])) _
    refine XS.iloadN X0.here hx rfl (hb hby d1_0) rfl ?_
    show Steps p.tables e below (s₁.setTop (mkF m 1 #[.val (.int p1)] [(.int p1)])) _
    refine XS.ifYes X0.here hx rfl (pc0 := 1) (pc' := 8) rfl (hb hby d1_1) rfl ((if0 _ _).trans (feq hn0).2) (by decide) (by decide) ?_
    show Steps p.tables e below (s₁.setTop (mkF m 8 #[.val (.int p1)] [])) _
    refine XS.iloadN X0.here hx rfl (hb hby d1_8) rfl ?_
    show Steps p.tables e below (s₁.setTop (mkF m 9 #[.val (.int p1)] [(.int p1)])) _
    refine XS.iconst X0.here hx rfl (hb hby d1_9) ?_
    show Steps p.tables e below (s₁.setTop (mkF m 10 #[.val (.int p1)] [(.int (1 : Int32)), (.int p1)])) _
    refine XS.icmpYes X0.here hx rfl (pc0 := 10) (pc' := 17) rfl (hb hby d1_10) rfl (feq hn1).2 (by decide) (by decide) ?_
    show Steps p.tables e below (s₁.setTop (mkF m 17 #[.val (.int p1)] [])) _
    refine XS.iloadN X0.here hx rfl (hb hby d1_17) rfl ?_
    show Steps p.tables e below (s₁.setTop (mkF m 18 #[.val (.int p1)] [(.int p1)])) _
    refine XS.iconst X0.here hx rfl (hb hby d1_18) ?_
    show Steps p.tables e below (s₁.setTop (mkF m 19 #[.val (.int p1)] [(.int (2 : Int32)), (.int p1)])) _
    refine XS.icmpYes X0.here hx rfl (pc0 := 19) (pc' := 26) rfl (hb hby d1_19) rfl (feq hn2).2 (by decide) (by decide) ?_
    show Steps p.tables e below (s₁.setTop (mkF m 26 #[.val (.int p1)] [])) _
    refine XS.iloadN X0.here hx rfl (hb hby d1_26) rfl ?_
    show Steps p.tables e below (s₁.setTop (mkF m 27 #[.val (.int p1)] [(.int p1)])) _
    refine XS.iconst X0.here hx rfl (hb hby d1_27) ?_
    show Steps p.tables e below (s₁.setTop (mkF m 28 #[.val (.int p1)] [(.int (3 : Int32)), (.int p1)])) _
    refine XS.icmpNo X0.here hx rfl (hb hby d1_28) rfl (teq hn3).2 ?_
    show Steps p.tables e below (s₁.setTop (mkF m 31 #[.val (.int p1)] [])) _
    refine st1 _ ?_
    show Steps p.tables e below (T1.setTop (mkF m 34 #[.val (.int p1)] [(.ref w_REFERENCE)])) _
    exact retOut X1 hx Bd.returns rfl (Or.inr (Or.inr (Or.inr (Or.inr ⟨rfl, rfl, rfl⟩)))) (hb hby d1_34) hr
  · show Q_rm_pk3 Z p1 w_REFERENCE h0 n0 _ T1.heap _
    rw [e1]
    exact ⟨rfl, N0, rfl⟩
theorem d1_35 : decode method_3_code 35 = .ok (.iload_n 0, 1) := by decide +kernel
theorem d1_36 : decode method_3_code 36 = .ok (.iconst 4, 1) := by decide +kernel
theorem d1_37 : decode method_3_code 37 = .ok (.if_icmp .ne 7, 3) := by decide +kernel
theorem d1_40 : decode method_3_code 40 = .ok (.getstatic 33, 3) := by decide +kernel
theorem d1_43 : decode method_3_code 43 = .ok (.areturn, 1) := by decide +kernel
theorem ef_rm_pk4 (m : MethodId) (x0 : Int32) : entryFrame m #[(.int x0)] 1 = mkF m 0 #[.val (.int x0)] [] := by first | (simp [entryFrame, mkF, argsToLocals, Value.category]; done) | rfl
def Q_rm_pk4 (Z : State) (p1 : Int32) (w_LINK : Addr) (h0 : Heap) (n0 : Nat) (v : Option Value) (h : Heap) (L : List Loc) : Prop := v = some (.ref w_LINK) ∧ Fr n0 L ∧ h = h0
set_option maxRecDepth 65536 in
set_option maxHeartbeats 40000000 in
theorem rm_pk4 (l : Launch) (Z : State) (a0 : Array Value) (hw : ∀ d ∈ tables_1, d.before a0 Z = true) (ws : List Jvm.Cond) (p1 : Int32) (w_LINK : Addr) (h0 : Heap) (n0 : Nat) (Z0 : n0 ≤ h0.size) (pr0 : Sta Z Z.heap "com/example/indberet/indberet/Lpr3Class$Kind" "LINK" "Lcom/example/indberet/indberet/Lpr3Class$Kind;" (.ref w_LINK)) (pr1 : Old Z n0 h0) (hn0 : ¬ (p1 = (0 : Int32))) (hn1 : ¬ (p1 = (1 : Int32))) (hn2 : ¬ (p1 = (2 : Int32))) (hn3 : ¬ (p1 = (3 : Int32))) (hn4 : p1 = (4 : Int32)) :
    MetFree l (⟨"com/example/indberet/indberet/KindKeepsTextPinLaw", "kind", "(I)Lcom/example/indberet/indberet/Lpr3Class$Kind;"⟩ : MethodName) (head1 (Jvm.Cond.code (⟨"com/example/indberet/indberet/KindKeepsTextPinLaw", "kind", "(I)Lcom/example/indberet/indberet/Lpr3Class$Kind;"⟩ : MethodName) method_3_code 1 (some (.object "com/example/indberet/indberet/Lpr3Class$Kind")) :: ws) ({ frames := 0, cells := 0, slots := 0, locals := 0 } : Room)) (fun a U => a = #[(.int p1)] ∧ Z.Warmed39 U.vm ∧ U.heap = h0) (fun _ _ _ _ _ => True) (fun _ U o U' => ∃ v L, o = .returned v ∧ Q_rm_pk4 Z p1 w_LINK h0 n0 v U'.heap L ∧ FrameEnd U o U' L ({ frames := 0, cells := 0, slots := 0, locals := 0 } : Room).cells ({ frames := 0, cells := 0, slots := 0, locals := 0 } : Room).slots) := by
  refine MetFree.of_bodySF (plainFor_of_name pn_com_example_indberet_indberet_KindKeepsTextPinLaw) hisR ?_
  intro p e s m args below meth c s₁ Bd hml0 hP hK
  obtain ⟨rfl, hZ, hh⟩ := hP
  have hx := Bd.exec
  have hby := Bd.bytes
  have hml : c.maxLocals = 1 := hml0
  have hown : s.vm.findClass "com/example/indberet/indberet/KindKeepsTextPinLaw" = some m.cls := findClass_of_methodNamed Bd.named
  have hnm := (name_of_methodNamed Bd.named Bd.method).1
  have X0 : Stand p l e ({ frames := 0, cells := 0, slots := 0, locals := 0 } : Room) s m #[(.int p1)] below meth c s₁ [] 0 0 := Stand.of_body Bd
  have e0 : s₁.heap = h0 := by rw [← hh, Bd.state]; rfl
  have N0 := Fr.nil n0
  have pre0 : ∀ t, Steps p.tables e below (s₁.setTop (mkF m 0 #[.val (.int p1)] [])) t → Steps p.tables e below (s₁.setTop (entryFrame m #[(.int p1)] 1)) t := fun t k => castTop (ef_rm_pk4 m p1) k
  obtain ⟨T1, X1, e1, st1⟩ := getS2 X0 hx hZ hown (host := "") (Or.inl (hw _ (List.mem_of_getElem? (i := 26) rfl))) Via.refl e0 (pr0.ext pr1.2) (g := (mkF m 40 #[.val (.int p1)] [])) rfl (hb hby d1_40)
  obtain ⟨fs, hr, hrun, hended, hW, hsame⟩ := X1.leave (v := some (.ref w_LINK)) (fun h => by rw [Bd.returns] at h; cases h)
  refine ⟨_, _, pre0 _ ?_, hrun, hended, _, _, rfl, ?_, ⟨_, rfl⟩, hW, hsame.mono (by decide) (by decide)⟩
  · show Steps p.tables e below (s₁.setTop (mkF m 0 #[.val (.int p1)] [])) _
    refine XS.iloadN X0.here hx rfl (hb hby d1_0) rfl ?_
    show Steps p.tables e below (s₁.setTop (mkF m 1 #[.val (.int p1)] [(.int p1)])) _
    refine XS.ifYes X0.here hx rfl (pc0 := 1) (pc' := 8) rfl (hb hby d1_1) rfl ((if0 _ _).trans (feq hn0).2) (by decide) (by decide) ?_
    show Steps p.tables e below (s₁.setTop (mkF m 8 #[.val (.int p1)] [])) _
    refine XS.iloadN X0.here hx rfl (hb hby d1_8) rfl ?_
    show Steps p.tables e below (s₁.setTop (mkF m 9 #[.val (.int p1)] [(.int p1)])) _
    refine XS.iconst X0.here hx rfl (hb hby d1_9) ?_
    show Steps p.tables e below (s₁.setTop (mkF m 10 #[.val (.int p1)] [(.int (1 : Int32)), (.int p1)])) _
    refine XS.icmpYes X0.here hx rfl (pc0 := 10) (pc' := 17) rfl (hb hby d1_10) rfl (feq hn1).2 (by decide) (by decide) ?_
    show Steps p.tables e below (s₁.setTop (mkF m 17 #[.val (.int p1)] [])) _
    refine XS.iloadN X0.here hx rfl (hb hby d1_17) rfl ?_
    show Steps p.tables e below (s₁.setTop (mkF m 18 #[.val (.int p1)] [(.int p1)])) _
    refine XS.iconst X0.here hx rfl (hb hby d1_18) ?_
    show Steps p.tables e below (s₁.setTop (mkF m 19 #[.val (.int p1)] [(.int (2 : Int32)), (.int p1)])) _
    refine XS.icmpYes X0.here hx rfl (pc0 := 19) (pc' := 26) rfl (hb hby d1_19) rfl (feq hn2).2 (by decide) (by decide) ?_
    show Steps p.tables e below (s₁.setTop (mkF m 26 #[.val (.int p1)] [])) _
    refine XS.iloadN X0.here hx rfl (hb hby d1_26) rfl ?_
    show Steps p.tables e below (s₁.setTop (mkF m 27 #[.val (.int p1)] [(.int p1)])) _
    refine XS.iconst X0.here hx rfl (hb hby d1_27) ?_
    show Steps p.tables e below (s₁.setTop (mkF m 28 #[.val (.int p1)] [(.int (3 : Int32)), (.int p1)])) _
    refine XS.icmpYes X0.here hx rfl (pc0 := 28) (pc' := 35) rfl (hb hby d1_28) rfl (feq hn3).2 (by decide) (by decide) ?_
    show Steps p.tables e below (s₁.setTop (mkF m 35 #[.val (.int p1)] [])) _
    refine XS.iloadN X0.here hx rfl (hb hby d1_35) rfl ?_
    show Steps p.tables e below (s₁.setTop (mkF m 36 #[.val (.int p1)] [(.int p1)])) _
    refine XS.iconst X0.here hx rfl (hb hby d1_36) ?_
    show Steps p.tables e below (s₁.setTop (mkF m 37 #[.val (.int p1)] [(.int (4 : Int32)), (.int p1)])) _
    refine XS.icmpNo X0.here hx rfl (hb hby d1_37) rfl (teq hn4).2 ?_
    show Steps p.tables e below (s₁.setTop (mkF m 40 #[.val (.int p1)] [])) _
    refine st1 _ ?_
    show Steps p.tables e below (T1.setTop (mkF m 43 #[.val (.int p1)] [(.ref w_LINK)])) _
    exact retOut X1 hx Bd.returns rfl (Or.inr (Or.inr (Or.inr (Or.inr ⟨rfl, rfl, rfl⟩)))) (hb hby d1_43) hr
  · show Q_rm_pk4 Z p1 w_LINK h0 n0 _ T1.heap _
    rw [e1]
    exact ⟨rfl, N0, rfl⟩
theorem d1_44 : decode method_3_code 44 = .ok (.iload_n 0, 1) := by decide +kernel
theorem d1_45 : decode method_3_code 45 = .ok (.iconst 5, 1) := by decide +kernel
theorem d1_46 : decode method_3_code 46 = .ok (.if_icmp .ne 7, 3) := by decide +kernel
theorem d1_49 : decode method_3_code 49 = .ok (.getstatic 36, 3) := by decide +kernel
theorem d1_52 : decode method_3_code 52 = .ok (.areturn, 1) := by decide +kernel
theorem ef_rm_pk5 (m : MethodId) (x0 : Int32) : entryFrame m #[(.int x0)] 1 = mkF m 0 #[.val (.int x0)] [] := by first | (simp [entryFrame, mkF, argsToLocals, Value.category]; done) | rfl
def Q_rm_pk5 (Z : State) (p1 : Int32) (w_TIME : Addr) (h0 : Heap) (n0 : Nat) (v : Option Value) (h : Heap) (L : List Loc) : Prop := v = some (.ref w_TIME) ∧ Fr n0 L ∧ h = h0
set_option maxRecDepth 65536 in
set_option maxHeartbeats 40000000 in
theorem rm_pk5 (l : Launch) (Z : State) (a0 : Array Value) (hw : ∀ d ∈ tables_1, d.before a0 Z = true) (ws : List Jvm.Cond) (p1 : Int32) (w_TIME : Addr) (h0 : Heap) (n0 : Nat) (Z0 : n0 ≤ h0.size) (pr0 : Sta Z Z.heap "com/example/indberet/indberet/Lpr3Class$Kind" "TIME" "Lcom/example/indberet/indberet/Lpr3Class$Kind;" (.ref w_TIME)) (pr1 : Old Z n0 h0) (hn0 : ¬ (p1 = (0 : Int32))) (hn1 : ¬ (p1 = (1 : Int32))) (hn2 : ¬ (p1 = (2 : Int32))) (hn3 : ¬ (p1 = (3 : Int32))) (hn4 : ¬ (p1 = (4 : Int32))) (hn5 : p1 = (5 : Int32)) :
    MetFree l (⟨"com/example/indberet/indberet/KindKeepsTextPinLaw", "kind", "(I)Lcom/example/indberet/indberet/Lpr3Class$Kind;"⟩ : MethodName) (head1 (Jvm.Cond.code (⟨"com/example/indberet/indberet/KindKeepsTextPinLaw", "kind", "(I)Lcom/example/indberet/indberet/Lpr3Class$Kind;"⟩ : MethodName) method_3_code 1 (some (.object "com/example/indberet/indberet/Lpr3Class$Kind")) :: ws) ({ frames := 0, cells := 0, slots := 0, locals := 0 } : Room)) (fun a U => a = #[(.int p1)] ∧ Z.Warmed39 U.vm ∧ U.heap = h0) (fun _ _ _ _ _ => True) (fun _ U o U' => ∃ v L, o = .returned v ∧ Q_rm_pk5 Z p1 w_TIME h0 n0 v U'.heap L ∧ FrameEnd U o U' L ({ frames := 0, cells := 0, slots := 0, locals := 0 } : Room).cells ({ frames := 0, cells := 0, slots := 0, locals := 0 } : Room).slots) := by
  refine MetFree.of_bodySF (plainFor_of_name pn_com_example_indberet_indberet_KindKeepsTextPinLaw) hisR ?_
  intro p e s m args below meth c s₁ Bd hml0 hP hK
  obtain ⟨rfl, hZ, hh⟩ := hP
  have hx := Bd.exec
  have hby := Bd.bytes
  have hml : c.maxLocals = 1 := hml0
  have hown : s.vm.findClass "com/example/indberet/indberet/KindKeepsTextPinLaw" = some m.cls := findClass_of_methodNamed Bd.named
  have hnm := (name_of_methodNamed Bd.named Bd.method).1
  have X0 : Stand p l e ({ frames := 0, cells := 0, slots := 0, locals := 0 } : Room) s m #[(.int p1)] below meth c s₁ [] 0 0 := Stand.of_body Bd
  have e0 : s₁.heap = h0 := by rw [← hh, Bd.state]; rfl
  have N0 := Fr.nil n0
  have pre0 : ∀ t, Steps p.tables e below (s₁.setTop (mkF m 0 #[.val (.int p1)] [])) t → Steps p.tables e below (s₁.setTop (entryFrame m #[(.int p1)] 1)) t := fun t k => castTop (ef_rm_pk5 m p1) k
  obtain ⟨T1, X1, e1, st1⟩ := getS2 X0 hx hZ hown (host := "") (Or.inl (hw _ (List.mem_of_getElem? (i := 39) rfl))) Via.refl e0 (pr0.ext pr1.2) (g := (mkF m 49 #[.val (.int p1)] [])) rfl (hb hby d1_49)
  obtain ⟨fs, hr, hrun, hended, hW, hsame⟩ := X1.leave (v := some (.ref w_TIME)) (fun h => by rw [Bd.returns] at h; cases h)
  refine ⟨_, _, pre0 _ ?_, hrun, hended, _, _, rfl, ?_, ⟨_, rfl⟩, hW, hsame.mono (by decide) (by decide)⟩
  · show Steps p.tables e below (s₁.setTop (mkF m 0 #[.val (.int p1)] [])) _
    refine XS.iloadN X0.here hx rfl (hb hby d1_0) rfl ?_
    show Steps p.tables e below (s₁.setTop (mkF m 1 #[.val (.int p1)] [(.int p1)])) _
    refine XS.ifYes X0.here hx rfl (pc0 := 1) (pc' := 8) rfl (hb hby d1_1) rfl ((if0 _ _).trans (feq hn0).2) (by decide) (by decide) ?_
    show Steps p.tables e below (s₁.setTop (mkF m 8 #[.val (.int p1)] [])) _
    refine XS.iloadN X0.here hx rfl (hb hby d1_8) rfl ?_
    show Steps p.tables e below (s₁.setTop (mkF m 9 #[.val (.int p1)] [(.int p1)])) _
    refine XS.iconst X0.here hx rfl (hb hby d1_9) ?_
    show Steps p.tables e below (s₁.setTop (mkF m 10 #[.val (.int p1)] [(.int (1 : Int32)), (.int p1)])) _
    refine XS.icmpYes X0.here hx rfl (pc0 := 10) (pc' := 17) rfl (hb hby d1_10) rfl (feq hn1).2 (by decide) (by decide) ?_
    show Steps p.tables e below (s₁.setTop (mkF m 17 #[.val (.int p1)] [])) _
    refine XS.iloadN X0.here hx rfl (hb hby d1_17) rfl ?_
    show Steps p.tables e below (s₁.setTop (mkF m 18 #[.val (.int p1)] [(.int p1)])) _
    refine XS.iconst X0.here hx rfl (hb hby d1_18) ?_
    show Steps p.tables e below (s₁.setTop (mkF m 19 #[.val (.int p1)] [(.int (2 : Int32)), (.int p1)])) _
    refine XS.icmpYes X0.here hx rfl (pc0 := 19) (pc' := 26) rfl (hb hby d1_19) rfl (feq hn2).2 (by decide) (by decide) ?_
    show Steps p.tables e below (s₁.setTop (mkF m 26 #[.val (.int p1)] [])) _
    refine XS.iloadN X0.here hx rfl (hb hby d1_26) rfl ?_
    show Steps p.tables e below (s₁.setTop (mkF m 27 #[.val (.int p1)] [(.int p1)])) _
    refine XS.iconst X0.here hx rfl (hb hby d1_27) ?_
    show Steps p.tables e below (s₁.setTop (mkF m 28 #[.val (.int p1)] [(.int (3 : Int32)), (.int p1)])) _
    refine XS.icmpYes X0.here hx rfl (pc0 := 28) (pc' := 35) rfl (hb hby d1_28) rfl (feq hn3).2 (by decide) (by decide) ?_
    show Steps p.tables e below (s₁.setTop (mkF m 35 #[.val (.int p1)] [])) _
    refine XS.iloadN X0.here hx rfl (hb hby d1_35) rfl ?_
    show Steps p.tables e below (s₁.setTop (mkF m 36 #[.val (.int p1)] [(.int p1)])) _
    refine XS.iconst X0.here hx rfl (hb hby d1_36) ?_
    show Steps p.tables e below (s₁.setTop (mkF m 37 #[.val (.int p1)] [(.int (4 : Int32)), (.int p1)])) _
    refine XS.icmpYes X0.here hx rfl (pc0 := 37) (pc' := 44) rfl (hb hby d1_37) rfl (feq hn4).2 (by decide) (by decide) ?_
    show Steps p.tables e below (s₁.setTop (mkF m 44 #[.val (.int p1)] [])) _
    refine XS.iloadN X0.here hx rfl (hb hby d1_44) rfl ?_
    show Steps p.tables e below (s₁.setTop (mkF m 45 #[.val (.int p1)] [(.int p1)])) _
    refine XS.iconst X0.here hx rfl (hb hby d1_45) ?_
    show Steps p.tables e below (s₁.setTop (mkF m 46 #[.val (.int p1)] [(.int (5 : Int32)), (.int p1)])) _
    refine XS.icmpNo X0.here hx rfl (hb hby d1_46) rfl (teq hn5).2 ?_
    show Steps p.tables e below (s₁.setTop (mkF m 49 #[.val (.int p1)] [])) _
    refine st1 _ ?_
    show Steps p.tables e below (T1.setTop (mkF m 52 #[.val (.int p1)] [(.ref w_TIME)])) _
    exact retOut X1 hx Bd.returns rfl (Or.inr (Or.inr (Or.inr (Or.inr ⟨rfl, rfl, rfl⟩)))) (hb hby d1_52) hr
  · show Q_rm_pk5 Z p1 w_TIME h0 n0 _ T1.heap _
    rw [e1]
    exact ⟨rfl, N0, rfl⟩
theorem d1_53 : decode method_3_code 53 = .ok (.iload_n 0, 1) := by decide +kernel
theorem d1_54 : decode method_3_code 54 = .ok (.bipush 6, 2) := by decide +kernel
theorem d1_56 : decode method_3_code 56 = .ok (.if_icmp .ne 7, 3) := by decide +kernel
theorem d1_59 : decode method_3_code 59 = .ok (.getstatic 39, 3) := by decide +kernel
theorem d1_62 : decode method_3_code 62 = .ok (.areturn, 1) := by decide +kernel
theorem ef_rm_pk6 (m : MethodId) (x0 : Int32) : entryFrame m #[(.int x0)] 1 = mkF m 0 #[.val (.int x0)] [] := by first | (simp [entryFrame, mkF, argsToLocals, Value.category]; done) | rfl
def Q_rm_pk6 (Z : State) (p1 : Int32) (w_OPTIONAL_TIME : Addr) (h0 : Heap) (n0 : Nat) (v : Option Value) (h : Heap) (L : List Loc) : Prop := v = some (.ref w_OPTIONAL_TIME) ∧ Fr n0 L ∧ h = h0
set_option maxRecDepth 65536 in
set_option maxHeartbeats 40000000 in
theorem rm_pk6 (l : Launch) (Z : State) (a0 : Array Value) (hw : ∀ d ∈ tables_1, d.before a0 Z = true) (ws : List Jvm.Cond) (p1 : Int32) (w_OPTIONAL_TIME : Addr) (h0 : Heap) (n0 : Nat) (Z0 : n0 ≤ h0.size) (pr0 : Sta Z Z.heap "com/example/indberet/indberet/Lpr3Class$Kind" "OPTIONAL_TIME" "Lcom/example/indberet/indberet/Lpr3Class$Kind;" (.ref w_OPTIONAL_TIME)) (pr1 : Old Z n0 h0) (hn0 : ¬ (p1 = (0 : Int32))) (hn1 : ¬ (p1 = (1 : Int32))) (hn2 : ¬ (p1 = (2 : Int32))) (hn3 : ¬ (p1 = (3 : Int32))) (hn4 : ¬ (p1 = (4 : Int32))) (hn5 : ¬ (p1 = (5 : Int32))) (hn6 : p1 = (6 : Int32)) :
    MetFree l (⟨"com/example/indberet/indberet/KindKeepsTextPinLaw", "kind", "(I)Lcom/example/indberet/indberet/Lpr3Class$Kind;"⟩ : MethodName) (head1 (Jvm.Cond.code (⟨"com/example/indberet/indberet/KindKeepsTextPinLaw", "kind", "(I)Lcom/example/indberet/indberet/Lpr3Class$Kind;"⟩ : MethodName) method_3_code 1 (some (.object "com/example/indberet/indberet/Lpr3Class$Kind")) :: ws) ({ frames := 0, cells := 0, slots := 0, locals := 0 } : Room)) (fun a U => a = #[(.int p1)] ∧ Z.Warmed39 U.vm ∧ U.heap = h0) (fun _ _ _ _ _ => True) (fun _ U o U' => ∃ v L, o = .returned v ∧ Q_rm_pk6 Z p1 w_OPTIONAL_TIME h0 n0 v U'.heap L ∧ FrameEnd U o U' L ({ frames := 0, cells := 0, slots := 0, locals := 0 } : Room).cells ({ frames := 0, cells := 0, slots := 0, locals := 0 } : Room).slots) := by
  refine MetFree.of_bodySF (plainFor_of_name pn_com_example_indberet_indberet_KindKeepsTextPinLaw) hisR ?_
  intro p e s m args below meth c s₁ Bd hml0 hP hK
  obtain ⟨rfl, hZ, hh⟩ := hP
  have hx := Bd.exec
  have hby := Bd.bytes
  have hml : c.maxLocals = 1 := hml0
  have hown : s.vm.findClass "com/example/indberet/indberet/KindKeepsTextPinLaw" = some m.cls := findClass_of_methodNamed Bd.named
  have hnm := (name_of_methodNamed Bd.named Bd.method).1
  have X0 : Stand p l e ({ frames := 0, cells := 0, slots := 0, locals := 0 } : Room) s m #[(.int p1)] below meth c s₁ [] 0 0 := Stand.of_body Bd
  have e0 : s₁.heap = h0 := by rw [← hh, Bd.state]; rfl
  have N0 := Fr.nil n0
  have pre0 : ∀ t, Steps p.tables e below (s₁.setTop (mkF m 0 #[.val (.int p1)] [])) t → Steps p.tables e below (s₁.setTop (entryFrame m #[(.int p1)] 1)) t := fun t k => castTop (ef_rm_pk6 m p1) k
  obtain ⟨T1, X1, e1, st1⟩ := getS2 X0 hx hZ hown (host := "") (Or.inl (hw _ (List.mem_of_getElem? (i := 41) rfl))) Via.refl e0 (pr0.ext pr1.2) (g := (mkF m 59 #[.val (.int p1)] [])) rfl (hb hby d1_59)
  obtain ⟨fs, hr, hrun, hended, hW, hsame⟩ := X1.leave (v := some (.ref w_OPTIONAL_TIME)) (fun h => by rw [Bd.returns] at h; cases h)
  refine ⟨_, _, pre0 _ ?_, hrun, hended, _, _, rfl, ?_, ⟨_, rfl⟩, hW, hsame.mono (by decide) (by decide)⟩
  · show Steps p.tables e below (s₁.setTop (mkF m 0 #[.val (.int p1)] [])) _
    refine XS.iloadN X0.here hx rfl (hb hby d1_0) rfl ?_
    show Steps p.tables e below (s₁.setTop (mkF m 1 #[.val (.int p1)] [(.int p1)])) _
    refine XS.ifYes X0.here hx rfl (pc0 := 1) (pc' := 8) rfl (hb hby d1_1) rfl ((if0 _ _).trans (feq hn0).2) (by decide) (by decide) ?_
    show Steps p.tables e below (s₁.setTop (mkF m 8 #[.val (.int p1)] [])) _
    refine XS.iloadN X0.here hx rfl (hb hby d1_8) rfl ?_
    show Steps p.tables e below (s₁.setTop (mkF m 9 #[.val (.int p1)] [(.int p1)])) _
    refine XS.iconst X0.here hx rfl (hb hby d1_9) ?_
    show Steps p.tables e below (s₁.setTop (mkF m 10 #[.val (.int p1)] [(.int (1 : Int32)), (.int p1)])) _
    refine XS.icmpYes X0.here hx rfl (pc0 := 10) (pc' := 17) rfl (hb hby d1_10) rfl (feq hn1).2 (by decide) (by decide) ?_
    show Steps p.tables e below (s₁.setTop (mkF m 17 #[.val (.int p1)] [])) _
    refine XS.iloadN X0.here hx rfl (hb hby d1_17) rfl ?_
    show Steps p.tables e below (s₁.setTop (mkF m 18 #[.val (.int p1)] [(.int p1)])) _
    refine XS.iconst X0.here hx rfl (hb hby d1_18) ?_
    show Steps p.tables e below (s₁.setTop (mkF m 19 #[.val (.int p1)] [(.int (2 : Int32)), (.int p1)])) _
    refine XS.icmpYes X0.here hx rfl (pc0 := 19) (pc' := 26) rfl (hb hby d1_19) rfl (feq hn2).2 (by decide) (by decide) ?_
    show Steps p.tables e below (s₁.setTop (mkF m 26 #[.val (.int p1)] [])) _
    refine XS.iloadN X0.here hx rfl (hb hby d1_26) rfl ?_
    show Steps p.tables e below (s₁.setTop (mkF m 27 #[.val (.int p1)] [(.int p1)])) _
    refine XS.iconst X0.here hx rfl (hb hby d1_27) ?_
    show Steps p.tables e below (s₁.setTop (mkF m 28 #[.val (.int p1)] [(.int (3 : Int32)), (.int p1)])) _
    refine XS.icmpYes X0.here hx rfl (pc0 := 28) (pc' := 35) rfl (hb hby d1_28) rfl (feq hn3).2 (by decide) (by decide) ?_
    show Steps p.tables e below (s₁.setTop (mkF m 35 #[.val (.int p1)] [])) _
    refine XS.iloadN X0.here hx rfl (hb hby d1_35) rfl ?_
    show Steps p.tables e below (s₁.setTop (mkF m 36 #[.val (.int p1)] [(.int p1)])) _
    refine XS.iconst X0.here hx rfl (hb hby d1_36) ?_
    show Steps p.tables e below (s₁.setTop (mkF m 37 #[.val (.int p1)] [(.int (4 : Int32)), (.int p1)])) _
    refine XS.icmpYes X0.here hx rfl (pc0 := 37) (pc' := 44) rfl (hb hby d1_37) rfl (feq hn4).2 (by decide) (by decide) ?_
    show Steps p.tables e below (s₁.setTop (mkF m 44 #[.val (.int p1)] [])) _
    refine XS.iloadN X0.here hx rfl (hb hby d1_44) rfl ?_
    show Steps p.tables e below (s₁.setTop (mkF m 45 #[.val (.int p1)] [(.int p1)])) _
    refine XS.iconst X0.here hx rfl (hb hby d1_45) ?_
    show Steps p.tables e below (s₁.setTop (mkF m 46 #[.val (.int p1)] [(.int (5 : Int32)), (.int p1)])) _
    refine XS.icmpYes X0.here hx rfl (pc0 := 46) (pc' := 53) rfl (hb hby d1_46) rfl (feq hn5).2 (by decide) (by decide) ?_
    show Steps p.tables e below (s₁.setTop (mkF m 53 #[.val (.int p1)] [])) _
    refine XS.iloadN X0.here hx rfl (hb hby d1_53) rfl ?_
    show Steps p.tables e below (s₁.setTop (mkF m 54 #[.val (.int p1)] [(.int p1)])) _
    refine XS.bipush X0.here hx rfl (hb hby d1_54) ?_
    show Steps p.tables e below (s₁.setTop (mkF m 56 #[.val (.int p1)] [(.int (6 : Int32)), (.int p1)])) _
    refine XS.icmpNo X0.here hx rfl (hb hby d1_56) rfl (teq hn6).2 ?_
    show Steps p.tables e below (s₁.setTop (mkF m 59 #[.val (.int p1)] [])) _
    refine st1 _ ?_
    show Steps p.tables e below (T1.setTop (mkF m 62 #[.val (.int p1)] [(.ref w_OPTIONAL_TIME)])) _
    exact retOut X1 hx Bd.returns rfl (Or.inr (Or.inr (Or.inr (Or.inr ⟨rfl, rfl, rfl⟩)))) (hb hby d1_62) hr
  · show Q_rm_pk6 Z p1 w_OPTIONAL_TIME h0 n0 _ T1.heap _
    rw [e1]
    exact ⟨rfl, N0, rfl⟩
theorem d1_63 : decode method_3_code 63 = .ok (.iload_n 0, 1) := by decide +kernel
theorem d1_64 : decode method_3_code 64 = .ok (.bipush 7, 2) := by decide +kernel
theorem d1_66 : decode method_3_code 66 = .ok (.if_icmp .ne 7, 3) := by decide +kernel
theorem d1_69 : decode method_3_code 69 = .ok (.getstatic 42, 3) := by decide +kernel
theorem d1_72 : decode method_3_code 72 = .ok (.areturn, 1) := by decide +kernel
theorem ef_rm_pk7 (m : MethodId) (x0 : Int32) : entryFrame m #[(.int x0)] 1 = mkF m 0 #[.val (.int x0)] [] := by first | (simp [entryFrame, mkF, argsToLocals, Value.category]; done) | rfl
def Q_rm_pk7 (Z : State) (p1 : Int32) (w_ARRAY : Addr) (h0 : Heap) (n0 : Nat) (v : Option Value) (h : Heap) (L : List Loc) : Prop := v = some (.ref w_ARRAY) ∧ Fr n0 L ∧ h = h0
set_option maxRecDepth 65536 in
set_option maxHeartbeats 40000000 in
theorem rm_pk7 (l : Launch) (Z : State) (a0 : Array Value) (hw : ∀ d ∈ tables_1, d.before a0 Z = true) (ws : List Jvm.Cond) (p1 : Int32) (w_ARRAY : Addr) (h0 : Heap) (n0 : Nat) (Z0 : n0 ≤ h0.size) (pr0 : Sta Z Z.heap "com/example/indberet/indberet/Lpr3Class$Kind" "ARRAY" "Lcom/example/indberet/indberet/Lpr3Class$Kind;" (.ref w_ARRAY)) (pr1 : Old Z n0 h0) (hn0 : ¬ (p1 = (0 : Int32))) (hn1 : ¬ (p1 = (1 : Int32))) (hn2 : ¬ (p1 = (2 : Int32))) (hn3 : ¬ (p1 = (3 : Int32))) (hn4 : ¬ (p1 = (4 : Int32))) (hn5 : ¬ (p1 = (5 : Int32))) (hn6 : ¬ (p1 = (6 : Int32))) (hn7 : p1 = (7 : Int32)) :
    MetFree l (⟨"com/example/indberet/indberet/KindKeepsTextPinLaw", "kind", "(I)Lcom/example/indberet/indberet/Lpr3Class$Kind;"⟩ : MethodName) (head1 (Jvm.Cond.code (⟨"com/example/indberet/indberet/KindKeepsTextPinLaw", "kind", "(I)Lcom/example/indberet/indberet/Lpr3Class$Kind;"⟩ : MethodName) method_3_code 1 (some (.object "com/example/indberet/indberet/Lpr3Class$Kind")) :: ws) ({ frames := 0, cells := 0, slots := 0, locals := 0 } : Room)) (fun a U => a = #[(.int p1)] ∧ Z.Warmed39 U.vm ∧ U.heap = h0) (fun _ _ _ _ _ => True) (fun _ U o U' => ∃ v L, o = .returned v ∧ Q_rm_pk7 Z p1 w_ARRAY h0 n0 v U'.heap L ∧ FrameEnd U o U' L ({ frames := 0, cells := 0, slots := 0, locals := 0 } : Room).cells ({ frames := 0, cells := 0, slots := 0, locals := 0 } : Room).slots) := by
  refine MetFree.of_bodySF (plainFor_of_name pn_com_example_indberet_indberet_KindKeepsTextPinLaw) hisR ?_
  intro p e s m args below meth c s₁ Bd hml0 hP hK
  obtain ⟨rfl, hZ, hh⟩ := hP
  have hx := Bd.exec
  have hby := Bd.bytes
  have hml : c.maxLocals = 1 := hml0
  have hown : s.vm.findClass "com/example/indberet/indberet/KindKeepsTextPinLaw" = some m.cls := findClass_of_methodNamed Bd.named
  have hnm := (name_of_methodNamed Bd.named Bd.method).1
  have X0 : Stand p l e ({ frames := 0, cells := 0, slots := 0, locals := 0 } : Room) s m #[(.int p1)] below meth c s₁ [] 0 0 := Stand.of_body Bd
  have e0 : s₁.heap = h0 := by rw [← hh, Bd.state]; rfl
  have N0 := Fr.nil n0
  have pre0 : ∀ t, Steps p.tables e below (s₁.setTop (mkF m 0 #[.val (.int p1)] [])) t → Steps p.tables e below (s₁.setTop (entryFrame m #[(.int p1)] 1)) t := fun t k => castTop (ef_rm_pk7 m p1) k
  obtain ⟨T1, X1, e1, st1⟩ := getS2 X0 hx hZ hown (host := "") (Or.inl (hw _ (List.mem_of_getElem? (i := 27) rfl))) Via.refl e0 (pr0.ext pr1.2) (g := (mkF m 69 #[.val (.int p1)] [])) rfl (hb hby d1_69)
  obtain ⟨fs, hr, hrun, hended, hW, hsame⟩ := X1.leave (v := some (.ref w_ARRAY)) (fun h => by rw [Bd.returns] at h; cases h)
  refine ⟨_, _, pre0 _ ?_, hrun, hended, _, _, rfl, ?_, ⟨_, rfl⟩, hW, hsame.mono (by decide) (by decide)⟩
  · show Steps p.tables e below (s₁.setTop (mkF m 0 #[.val (.int p1)] [])) _
    refine XS.iloadN X0.here hx rfl (hb hby d1_0) rfl ?_
    show Steps p.tables e below (s₁.setTop (mkF m 1 #[.val (.int p1)] [(.int p1)])) _
    refine XS.ifYes X0.here hx rfl (pc0 := 1) (pc' := 8) rfl (hb hby d1_1) rfl ((if0 _ _).trans (feq hn0).2) (by decide) (by decide) ?_
    show Steps p.tables e below (s₁.setTop (mkF m 8 #[.val (.int p1)] [])) _
    refine XS.iloadN X0.here hx rfl (hb hby d1_8) rfl ?_
    show Steps p.tables e below (s₁.setTop (mkF m 9 #[.val (.int p1)] [(.int p1)])) _
    refine XS.iconst X0.here hx rfl (hb hby d1_9) ?_
    show Steps p.tables e below (s₁.setTop (mkF m 10 #[.val (.int p1)] [(.int (1 : Int32)), (.int p1)])) _
    refine XS.icmpYes X0.here hx rfl (pc0 := 10) (pc' := 17) rfl (hb hby d1_10) rfl (feq hn1).2 (by decide) (by decide) ?_
    show Steps p.tables e below (s₁.setTop (mkF m 17 #[.val (.int p1)] [])) _
    refine XS.iloadN X0.here hx rfl (hb hby d1_17) rfl ?_
    show Steps p.tables e below (s₁.setTop (mkF m 18 #[.val (.int p1)] [(.int p1)])) _
    refine XS.iconst X0.here hx rfl (hb hby d1_18) ?_
    show Steps p.tables e below (s₁.setTop (mkF m 19 #[.val (.int p1)] [(.int (2 : Int32)), (.int p1)])) _
    refine XS.icmpYes X0.here hx rfl (pc0 := 19) (pc' := 26) rfl (hb hby d1_19) rfl (feq hn2).2 (by decide) (by decide) ?_
    show Steps p.tables e below (s₁.setTop (mkF m 26 #[.val (.int p1)] [])) _
    refine XS.iloadN X0.here hx rfl (hb hby d1_26) rfl ?_
    show Steps p.tables e below (s₁.setTop (mkF m 27 #[.val (.int p1)] [(.int p1)])) _
    refine XS.iconst X0.here hx rfl (hb hby d1_27) ?_
    show Steps p.tables e below (s₁.setTop (mkF m 28 #[.val (.int p1)] [(.int (3 : Int32)), (.int p1)])) _
    refine XS.icmpYes X0.here hx rfl (pc0 := 28) (pc' := 35) rfl (hb hby d1_28) rfl (feq hn3).2 (by decide) (by decide) ?_
    show Steps p.tables e below (s₁.setTop (mkF m 35 #[.val (.int p1)] [])) _
    refine XS.iloadN X0.here hx rfl (hb hby d1_35) rfl ?_
    show Steps p.tables e below (s₁.setTop (mkF m 36 #[.val (.int p1)] [(.int p1)])) _
    refine XS.iconst X0.here hx rfl (hb hby d1_36) ?_
    show Steps p.tables e below (s₁.setTop (mkF m 37 #[.val (.int p1)] [(.int (4 : Int32)), (.int p1)])) _
    refine XS.icmpYes X0.here hx rfl (pc0 := 37) (pc' := 44) rfl (hb hby d1_37) rfl (feq hn4).2 (by decide) (by decide) ?_
    show Steps p.tables e below (s₁.setTop (mkF m 44 #[.val (.int p1)] [])) _
    refine XS.iloadN X0.here hx rfl (hb hby d1_44) rfl ?_
    show Steps p.tables e below (s₁.setTop (mkF m 45 #[.val (.int p1)] [(.int p1)])) _
    refine XS.iconst X0.here hx rfl (hb hby d1_45) ?_
    show Steps p.tables e below (s₁.setTop (mkF m 46 #[.val (.int p1)] [(.int (5 : Int32)), (.int p1)])) _
    refine XS.icmpYes X0.here hx rfl (pc0 := 46) (pc' := 53) rfl (hb hby d1_46) rfl (feq hn5).2 (by decide) (by decide) ?_
    show Steps p.tables e below (s₁.setTop (mkF m 53 #[.val (.int p1)] [])) _
    refine XS.iloadN X0.here hx rfl (hb hby d1_53) rfl ?_
    show Steps p.tables e below (s₁.setTop (mkF m 54 #[.val (.int p1)] [(.int p1)])) _
    refine XS.bipush X0.here hx rfl (hb hby d1_54) ?_
    show Steps p.tables e below (s₁.setTop (mkF m 56 #[.val (.int p1)] [(.int (6 : Int32)), (.int p1)])) _
    refine XS.icmpYes X0.here hx rfl (pc0 := 56) (pc' := 63) rfl (hb hby d1_56) rfl (feq hn6).2 (by decide) (by decide) ?_
    show Steps p.tables e below (s₁.setTop (mkF m 63 #[.val (.int p1)] [])) _
    refine XS.iloadN X0.here hx rfl (hb hby d1_63) rfl ?_
    show Steps p.tables e below (s₁.setTop (mkF m 64 #[.val (.int p1)] [(.int p1)])) _
    refine XS.bipush X0.here hx rfl (hb hby d1_64) ?_
    show Steps p.tables e below (s₁.setTop (mkF m 66 #[.val (.int p1)] [(.int (7 : Int32)), (.int p1)])) _
    refine XS.icmpNo X0.here hx rfl (hb hby d1_66) rfl (teq hn7).2 ?_
    show Steps p.tables e below (s₁.setTop (mkF m 69 #[.val (.int p1)] [])) _
    refine st1 _ ?_
    show Steps p.tables e below (T1.setTop (mkF m 72 #[.val (.int p1)] [(.ref w_ARRAY)])) _
    exact retOut X1 hx Bd.returns rfl (Or.inr (Or.inr (Or.inr (Or.inr ⟨rfl, rfl, rfl⟩)))) (hb hby d1_72) hr
  · show Q_rm_pk7 Z p1 w_ARRAY h0 n0 _ T1.heap _
    rw [e1]
    exact ⟨rfl, N0, rfl⟩
theorem d1_73 : decode method_3_code 73 = .ok (.iload_n 0, 1) := by decide +kernel
theorem d1_74 : decode method_3_code 74 = .ok (.bipush 8, 2) := by decide +kernel
theorem d1_76 : decode method_3_code 76 = .ok (.if_icmp .ne 7, 3) := by decide +kernel
theorem d1_79 : decode method_3_code 79 = .ok (.getstatic 45, 3) := by decide +kernel
theorem d1_82 : decode method_3_code 82 = .ok (.areturn, 1) := by decide +kernel
theorem ef_rm_pk8 (m : MethodId) (x0 : Int32) : entryFrame m #[(.int x0)] 1 = mkF m 0 #[.val (.int x0)] [] := by first | (simp [entryFrame, mkF, argsToLocals, Value.category]; done) | rfl
def Q_rm_pk8 (Z : State) (p1 : Int32) (w_OPTIONAL_ARRAY : Addr) (h0 : Heap) (n0 : Nat) (v : Option Value) (h : Heap) (L : List Loc) : Prop := v = some (.ref w_OPTIONAL_ARRAY) ∧ Fr n0 L ∧ h = h0
set_option maxRecDepth 65536 in
set_option maxHeartbeats 40000000 in
theorem rm_pk8 (l : Launch) (Z : State) (a0 : Array Value) (hw : ∀ d ∈ tables_1, d.before a0 Z = true) (ws : List Jvm.Cond) (p1 : Int32) (w_OPTIONAL_ARRAY : Addr) (h0 : Heap) (n0 : Nat) (Z0 : n0 ≤ h0.size) (pr0 : Sta Z Z.heap "com/example/indberet/indberet/Lpr3Class$Kind" "OPTIONAL_ARRAY" "Lcom/example/indberet/indberet/Lpr3Class$Kind;" (.ref w_OPTIONAL_ARRAY)) (pr1 : Old Z n0 h0) (hn0 : ¬ (p1 = (0 : Int32))) (hn1 : ¬ (p1 = (1 : Int32))) (hn2 : ¬ (p1 = (2 : Int32))) (hn3 : ¬ (p1 = (3 : Int32))) (hn4 : ¬ (p1 = (4 : Int32))) (hn5 : ¬ (p1 = (5 : Int32))) (hn6 : ¬ (p1 = (6 : Int32))) (hn7 : ¬ (p1 = (7 : Int32))) (hn8 : p1 = (8 : Int32)) :
    MetFree l (⟨"com/example/indberet/indberet/KindKeepsTextPinLaw", "kind", "(I)Lcom/example/indberet/indberet/Lpr3Class$Kind;"⟩ : MethodName) (head1 (Jvm.Cond.code (⟨"com/example/indberet/indberet/KindKeepsTextPinLaw", "kind", "(I)Lcom/example/indberet/indberet/Lpr3Class$Kind;"⟩ : MethodName) method_3_code 1 (some (.object "com/example/indberet/indberet/Lpr3Class$Kind")) :: ws) ({ frames := 0, cells := 0, slots := 0, locals := 0 } : Room)) (fun a U => a = #[(.int p1)] ∧ Z.Warmed39 U.vm ∧ U.heap = h0) (fun _ _ _ _ _ => True) (fun _ U o U' => ∃ v L, o = .returned v ∧ Q_rm_pk8 Z p1 w_OPTIONAL_ARRAY h0 n0 v U'.heap L ∧ FrameEnd U o U' L ({ frames := 0, cells := 0, slots := 0, locals := 0 } : Room).cells ({ frames := 0, cells := 0, slots := 0, locals := 0 } : Room).slots) := by
  refine MetFree.of_bodySF (plainFor_of_name pn_com_example_indberet_indberet_KindKeepsTextPinLaw) hisR ?_
  intro p e s m args below meth c s₁ Bd hml0 hP hK
  obtain ⟨rfl, hZ, hh⟩ := hP
  have hx := Bd.exec
  have hby := Bd.bytes
  have hml : c.maxLocals = 1 := hml0
  have hown : s.vm.findClass "com/example/indberet/indberet/KindKeepsTextPinLaw" = some m.cls := findClass_of_methodNamed Bd.named
  have hnm := (name_of_methodNamed Bd.named Bd.method).1
  have X0 : Stand p l e ({ frames := 0, cells := 0, slots := 0, locals := 0 } : Room) s m #[(.int p1)] below meth c s₁ [] 0 0 := Stand.of_body Bd
  have e0 : s₁.heap = h0 := by rw [← hh, Bd.state]; rfl
  have N0 := Fr.nil n0
  have pre0 : ∀ t, Steps p.tables e below (s₁.setTop (mkF m 0 #[.val (.int p1)] [])) t → Steps p.tables e below (s₁.setTop (entryFrame m #[(.int p1)] 1)) t := fun t k => castTop (ef_rm_pk8 m p1) k
  obtain ⟨T1, X1, e1, st1⟩ := getS2 X0 hx hZ hown (host := "") (Or.inl (hw _ (List.mem_of_getElem? (i := 33) rfl))) Via.refl e0 (pr0.ext pr1.2) (g := (mkF m 79 #[.val (.int p1)] [])) rfl (hb hby d1_79)
  obtain ⟨fs, hr, hrun, hended, hW, hsame⟩ := X1.leave (v := some (.ref w_OPTIONAL_ARRAY)) (fun h => by rw [Bd.returns] at h; cases h)
  refine ⟨_, _, pre0 _ ?_, hrun, hended, _, _, rfl, ?_, ⟨_, rfl⟩, hW, hsame.mono (by decide) (by decide)⟩
  · show Steps p.tables e below (s₁.setTop (mkF m 0 #[.val (.int p1)] [])) _
    refine XS.iloadN X0.here hx rfl (hb hby d1_0) rfl ?_
    show Steps p.tables e below (s₁.setTop (mkF m 1 #[.val (.int p1)] [(.int p1)])) _
    refine XS.ifYes X0.here hx rfl (pc0 := 1) (pc' := 8) rfl (hb hby d1_1) rfl ((if0 _ _).trans (feq hn0).2) (by decide) (by decide) ?_
    show Steps p.tables e below (s₁.setTop (mkF m 8 #[.val (.int p1)] [])) _
    refine XS.iloadN X0.here hx rfl (hb hby d1_8) rfl ?_
    show Steps p.tables e below (s₁.setTop (mkF m 9 #[.val (.int p1)] [(.int p1)])) _
    refine XS.iconst X0.here hx rfl (hb hby d1_9) ?_
    show Steps p.tables e below (s₁.setTop (mkF m 10 #[.val (.int p1)] [(.int (1 : Int32)), (.int p1)])) _
    refine XS.icmpYes X0.here hx rfl (pc0 := 10) (pc' := 17) rfl (hb hby d1_10) rfl (feq hn1).2 (by decide) (by decide) ?_
    show Steps p.tables e below (s₁.setTop (mkF m 17 #[.val (.int p1)] [])) _
    refine XS.iloadN X0.here hx rfl (hb hby d1_17) rfl ?_
    show Steps p.tables e below (s₁.setTop (mkF m 18 #[.val (.int p1)] [(.int p1)])) _
    refine XS.iconst X0.here hx rfl (hb hby d1_18) ?_
    show Steps p.tables e below (s₁.setTop (mkF m 19 #[.val (.int p1)] [(.int (2 : Int32)), (.int p1)])) _
    refine XS.icmpYes X0.here hx rfl (pc0 := 19) (pc' := 26) rfl (hb hby d1_19) rfl (feq hn2).2 (by decide) (by decide) ?_
    show Steps p.tables e below (s₁.setTop (mkF m 26 #[.val (.int p1)] [])) _
    refine XS.iloadN X0.here hx rfl (hb hby d1_26) rfl ?_
    show Steps p.tables e below (s₁.setTop (mkF m 27 #[.val (.int p1)] [(.int p1)])) _
    refine XS.iconst X0.here hx rfl (hb hby d1_27) ?_
    show Steps p.tables e below (s₁.setTop (mkF m 28 #[.val (.int p1)] [(.int (3 : Int32)), (.int p1)])) _
    refine XS.icmpYes X0.here hx rfl (pc0 := 28) (pc' := 35) rfl (hb hby d1_28) rfl (feq hn3).2 (by decide) (by decide) ?_
    show Steps p.tables e below (s₁.setTop (mkF m 35 #[.val (.int p1)] [])) _
    refine XS.iloadN X0.here hx rfl (hb hby d1_35) rfl ?_
    show Steps p.tables e below (s₁.setTop (mkF m 36 #[.val (.int p1)] [(.int p1)])) _
    refine XS.iconst X0.here hx rfl (hb hby d1_36) ?_
    show Steps p.tables e below (s₁.setTop (mkF m 37 #[.val (.int p1)] [(.int (4 : Int32)), (.int p1)])) _
    refine XS.icmpYes X0.here hx rfl (pc0 := 37) (pc' := 44) rfl (hb hby d1_37) rfl (feq hn4).2 (by decide) (by decide) ?_
    show Steps p.tables e below (s₁.setTop (mkF m 44 #[.val (.int p1)] [])) _
    refine XS.iloadN X0.here hx rfl (hb hby d1_44) rfl ?_
    show Steps p.tables e below (s₁.setTop (mkF m 45 #[.val (.int p1)] [(.int p1)])) _
    refine XS.iconst X0.here hx rfl (hb hby d1_45) ?_
    show Steps p.tables e below (s₁.setTop (mkF m 46 #[.val (.int p1)] [(.int (5 : Int32)), (.int p1)])) _
    refine XS.icmpYes X0.here hx rfl (pc0 := 46) (pc' := 53) rfl (hb hby d1_46) rfl (feq hn5).2 (by decide) (by decide) ?_
    show Steps p.tables e below (s₁.setTop (mkF m 53 #[.val (.int p1)] [])) _
    refine XS.iloadN X0.here hx rfl (hb hby d1_53) rfl ?_
    show Steps p.tables e below (s₁.setTop (mkF m 54 #[.val (.int p1)] [(.int p1)])) _
    refine XS.bipush X0.here hx rfl (hb hby d1_54) ?_
    show Steps p.tables e below (s₁.setTop (mkF m 56 #[.val (.int p1)] [(.int (6 : Int32)), (.int p1)])) _
    refine XS.icmpYes X0.here hx rfl (pc0 := 56) (pc' := 63) rfl (hb hby d1_56) rfl (feq hn6).2 (by decide) (by decide) ?_
    show Steps p.tables e below (s₁.setTop (mkF m 63 #[.val (.int p1)] [])) _
    refine XS.iloadN X0.here hx rfl (hb hby d1_63) rfl ?_
    show Steps p.tables e below (s₁.setTop (mkF m 64 #[.val (.int p1)] [(.int p1)])) _
    refine XS.bipush X0.here hx rfl (hb hby d1_64) ?_
    show Steps p.tables e below (s₁.setTop (mkF m 66 #[.val (.int p1)] [(.int (7 : Int32)), (.int p1)])) _
    refine XS.icmpYes X0.here hx rfl (pc0 := 66) (pc' := 73) rfl (hb hby d1_66) rfl (feq hn7).2 (by decide) (by decide) ?_
    show Steps p.tables e below (s₁.setTop (mkF m 73 #[.val (.int p1)] [])) _
    refine XS.iloadN X0.here hx rfl (hb hby d1_73) rfl ?_
    show Steps p.tables e below (s₁.setTop (mkF m 74 #[.val (.int p1)] [(.int p1)])) _
    refine XS.bipush X0.here hx rfl (hb hby d1_74) ?_
    show Steps p.tables e below (s₁.setTop (mkF m 76 #[.val (.int p1)] [(.int (8 : Int32)), (.int p1)])) _
    refine XS.icmpNo X0.here hx rfl (hb hby d1_76) rfl (teq hn8).2 ?_
    show Steps p.tables e below (s₁.setTop (mkF m 79 #[.val (.int p1)] [])) _
    refine st1 _ ?_
    show Steps p.tables e below (T1.setTop (mkF m 82 #[.val (.int p1)] [(.ref w_OPTIONAL_ARRAY)])) _
    exact retOut X1 hx Bd.returns rfl (Or.inr (Or.inr (Or.inr (Or.inr ⟨rfl, rfl, rfl⟩)))) (hb hby d1_82) hr
  · show Q_rm_pk8 Z p1 w_OPTIONAL_ARRAY h0 n0 _ T1.heap _
    rw [e1]
    exact ⟨rfl, N0, rfl⟩
theorem d1_83 : decode method_3_code 83 = .ok (.iload_n 0, 1) := by decide +kernel
theorem d1_84 : decode method_3_code 84 = .ok (.bipush 9, 2) := by decide +kernel
theorem d1_86 : decode method_3_code 86 = .ok (.if_icmp .ne 7, 3) := by decide +kernel
theorem d1_89 : decode method_3_code 89 = .ok (.getstatic 48, 3) := by decide +kernel
theorem d1_92 : decode method_3_code 92 = .ok (.areturn, 1) := by decide +kernel
theorem ef_rm_pk9 (m : MethodId) (x0 : Int32) : entryFrame m #[(.int x0)] 1 = mkF m 0 #[.val (.int x0)] [] := by first | (simp [entryFrame, mkF, argsToLocals, Value.category]; done) | rfl
def Q_rm_pk9 (Z : State) (p1 : Int32) (w_OBJECT : Addr) (h0 : Heap) (n0 : Nat) (v : Option Value) (h : Heap) (L : List Loc) : Prop := v = some (.ref w_OBJECT) ∧ Fr n0 L ∧ h = h0
set_option maxRecDepth 65536 in
set_option maxHeartbeats 40000000 in
theorem rm_pk9 (l : Launch) (Z : State) (a0 : Array Value) (hw : ∀ d ∈ tables_1, d.before a0 Z = true) (ws : List Jvm.Cond) (p1 : Int32) (w_OBJECT : Addr) (h0 : Heap) (n0 : Nat) (Z0 : n0 ≤ h0.size) (pr0 : Sta Z Z.heap "com/example/indberet/indberet/Lpr3Class$Kind" "OBJECT" "Lcom/example/indberet/indberet/Lpr3Class$Kind;" (.ref w_OBJECT)) (pr1 : Old Z n0 h0) (hn0 : ¬ (p1 = (0 : Int32))) (hn1 : ¬ (p1 = (1 : Int32))) (hn2 : ¬ (p1 = (2 : Int32))) (hn3 : ¬ (p1 = (3 : Int32))) (hn4 : ¬ (p1 = (4 : Int32))) (hn5 : ¬ (p1 = (5 : Int32))) (hn6 : ¬ (p1 = (6 : Int32))) (hn7 : ¬ (p1 = (7 : Int32))) (hn8 : ¬ (p1 = (8 : Int32))) (hn9 : p1 = (9 : Int32)) :
    MetFree l (⟨"com/example/indberet/indberet/KindKeepsTextPinLaw", "kind", "(I)Lcom/example/indberet/indberet/Lpr3Class$Kind;"⟩ : MethodName) (head1 (Jvm.Cond.code (⟨"com/example/indberet/indberet/KindKeepsTextPinLaw", "kind", "(I)Lcom/example/indberet/indberet/Lpr3Class$Kind;"⟩ : MethodName) method_3_code 1 (some (.object "com/example/indberet/indberet/Lpr3Class$Kind")) :: ws) ({ frames := 0, cells := 0, slots := 0, locals := 0 } : Room)) (fun a U => a = #[(.int p1)] ∧ Z.Warmed39 U.vm ∧ U.heap = h0) (fun _ _ _ _ _ => True) (fun _ U o U' => ∃ v L, o = .returned v ∧ Q_rm_pk9 Z p1 w_OBJECT h0 n0 v U'.heap L ∧ FrameEnd U o U' L ({ frames := 0, cells := 0, slots := 0, locals := 0 } : Room).cells ({ frames := 0, cells := 0, slots := 0, locals := 0 } : Room).slots) := by
  refine MetFree.of_bodySF (plainFor_of_name pn_com_example_indberet_indberet_KindKeepsTextPinLaw) hisR ?_
  intro p e s m args below meth c s₁ Bd hml0 hP hK
  obtain ⟨rfl, hZ, hh⟩ := hP
  have hx := Bd.exec
  have hby := Bd.bytes
  have hml : c.maxLocals = 1 := hml0
  have hown : s.vm.findClass "com/example/indberet/indberet/KindKeepsTextPinLaw" = some m.cls := findClass_of_methodNamed Bd.named
  have hnm := (name_of_methodNamed Bd.named Bd.method).1
  have X0 : Stand p l e ({ frames := 0, cells := 0, slots := 0, locals := 0 } : Room) s m #[(.int p1)] below meth c s₁ [] 0 0 := Stand.of_body Bd
  have e0 : s₁.heap = h0 := by rw [← hh, Bd.state]; rfl
  have N0 := Fr.nil n0
  have pre0 : ∀ t, Steps p.tables e below (s₁.setTop (mkF m 0 #[.val (.int p1)] [])) t → Steps p.tables e below (s₁.setTop (entryFrame m #[(.int p1)] 1)) t := fun t k => castTop (ef_rm_pk9 m p1) k
  obtain ⟨T1, X1, e1, st1⟩ := getS2 X0 hx hZ hown (host := "") (Or.inl (hw _ (List.mem_of_getElem? (i := 37) rfl))) Via.refl e0 (pr0.ext pr1.2) (g := (mkF m 89 #[.val (.int p1)] [])) rfl (hb hby d1_89)
  obtain ⟨fs, hr, hrun, hended, hW, hsame⟩ := X1.leave (v := some (.ref w_OBJECT)) (fun h => by rw [Bd.returns] at h; cases h)
  refine ⟨_, _, pre0 _ ?_, hrun, hended, _, _, rfl, ?_, ⟨_, rfl⟩, hW, hsame.mono (by decide) (by decide)⟩
  · show Steps p.tables e below (s₁.setTop (mkF m 0 #[.val (.int p1)] [])) _
    refine XS.iloadN X0.here hx rfl (hb hby d1_0) rfl ?_
    show Steps p.tables e below (s₁.setTop (mkF m 1 #[.val (.int p1)] [(.int p1)])) _
    refine XS.ifYes X0.here hx rfl (pc0 := 1) (pc' := 8) rfl (hb hby d1_1) rfl ((if0 _ _).trans (feq hn0).2) (by decide) (by decide) ?_
    show Steps p.tables e below (s₁.setTop (mkF m 8 #[.val (.int p1)] [])) _
    refine XS.iloadN X0.here hx rfl (hb hby d1_8) rfl ?_
    show Steps p.tables e below (s₁.setTop (mkF m 9 #[.val (.int p1)] [(.int p1)])) _
    refine XS.iconst X0.here hx rfl (hb hby d1_9) ?_
    show Steps p.tables e below (s₁.setTop (mkF m 10 #[.val (.int p1)] [(.int (1 : Int32)), (.int p1)])) _
    refine XS.icmpYes X0.here hx rfl (pc0 := 10) (pc' := 17) rfl (hb hby d1_10) rfl (feq hn1).2 (by decide) (by decide) ?_
    show Steps p.tables e below (s₁.setTop (mkF m 17 #[.val (.int p1)] [])) _
    refine XS.iloadN X0.here hx rfl (hb hby d1_17) rfl ?_
    show Steps p.tables e below (s₁.setTop (mkF m 18 #[.val (.int p1)] [(.int p1)])) _
    refine XS.iconst X0.here hx rfl (hb hby d1_18) ?_
    show Steps p.tables e below (s₁.setTop (mkF m 19 #[.val (.int p1)] [(.int (2 : Int32)), (.int p1)])) _
    refine XS.icmpYes X0.here hx rfl (pc0 := 19) (pc' := 26) rfl (hb hby d1_19) rfl (feq hn2).2 (by decide) (by decide) ?_
    show Steps p.tables e below (s₁.setTop (mkF m 26 #[.val (.int p1)] [])) _
    refine XS.iloadN X0.here hx rfl (hb hby d1_26) rfl ?_
    show Steps p.tables e below (s₁.setTop (mkF m 27 #[.val (.int p1)] [(.int p1)])) _
    refine XS.iconst X0.here hx rfl (hb hby d1_27) ?_
    show Steps p.tables e below (s₁.setTop (mkF m 28 #[.val (.int p1)] [(.int (3 : Int32)), (.int p1)])) _
    refine XS.icmpYes X0.here hx rfl (pc0 := 28) (pc' := 35) rfl (hb hby d1_28) rfl (feq hn3).2 (by decide) (by decide) ?_
    show Steps p.tables e below (s₁.setTop (mkF m 35 #[.val (.int p1)] [])) _
    refine XS.iloadN X0.here hx rfl (hb hby d1_35) rfl ?_
    show Steps p.tables e below (s₁.setTop (mkF m 36 #[.val (.int p1)] [(.int p1)])) _
    refine XS.iconst X0.here hx rfl (hb hby d1_36) ?_
    show Steps p.tables e below (s₁.setTop (mkF m 37 #[.val (.int p1)] [(.int (4 : Int32)), (.int p1)])) _
    refine XS.icmpYes X0.here hx rfl (pc0 := 37) (pc' := 44) rfl (hb hby d1_37) rfl (feq hn4).2 (by decide) (by decide) ?_
    show Steps p.tables e below (s₁.setTop (mkF m 44 #[.val (.int p1)] [])) _
    refine XS.iloadN X0.here hx rfl (hb hby d1_44) rfl ?_
    show Steps p.tables e below (s₁.setTop (mkF m 45 #[.val (.int p1)] [(.int p1)])) _
    refine XS.iconst X0.here hx rfl (hb hby d1_45) ?_
    show Steps p.tables e below (s₁.setTop (mkF m 46 #[.val (.int p1)] [(.int (5 : Int32)), (.int p1)])) _
    refine XS.icmpYes X0.here hx rfl (pc0 := 46) (pc' := 53) rfl (hb hby d1_46) rfl (feq hn5).2 (by decide) (by decide) ?_
    show Steps p.tables e below (s₁.setTop (mkF m 53 #[.val (.int p1)] [])) _
    refine XS.iloadN X0.here hx rfl (hb hby d1_53) rfl ?_
    show Steps p.tables e below (s₁.setTop (mkF m 54 #[.val (.int p1)] [(.int p1)])) _
    refine XS.bipush X0.here hx rfl (hb hby d1_54) ?_
    show Steps p.tables e below (s₁.setTop (mkF m 56 #[.val (.int p1)] [(.int (6 : Int32)), (.int p1)])) _
    refine XS.icmpYes X0.here hx rfl (pc0 := 56) (pc' := 63) rfl (hb hby d1_56) rfl (feq hn6).2 (by decide) (by decide) ?_
    show Steps p.tables e below (s₁.setTop (mkF m 63 #[.val (.int p1)] [])) _
    refine XS.iloadN X0.here hx rfl (hb hby d1_63) rfl ?_
    show Steps p.tables e below (s₁.setTop (mkF m 64 #[.val (.int p1)] [(.int p1)])) _
    refine XS.bipush X0.here hx rfl (hb hby d1_64) ?_
    show Steps p.tables e below (s₁.setTop (mkF m 66 #[.val (.int p1)] [(.int (7 : Int32)), (.int p1)])) _
    refine XS.icmpYes X0.here hx rfl (pc0 := 66) (pc' := 73) rfl (hb hby d1_66) rfl (feq hn7).2 (by decide) (by decide) ?_
    show Steps p.tables e below (s₁.setTop (mkF m 73 #[.val (.int p1)] [])) _
    refine XS.iloadN X0.here hx rfl (hb hby d1_73) rfl ?_
    show Steps p.tables e below (s₁.setTop (mkF m 74 #[.val (.int p1)] [(.int p1)])) _
    refine XS.bipush X0.here hx rfl (hb hby d1_74) ?_
    show Steps p.tables e below (s₁.setTop (mkF m 76 #[.val (.int p1)] [(.int (8 : Int32)), (.int p1)])) _
    refine XS.icmpYes X0.here hx rfl (pc0 := 76) (pc' := 83) rfl (hb hby d1_76) rfl (feq hn8).2 (by decide) (by decide) ?_
    show Steps p.tables e below (s₁.setTop (mkF m 83 #[.val (.int p1)] [])) _
    refine XS.iloadN X0.here hx rfl (hb hby d1_83) rfl ?_
    show Steps p.tables e below (s₁.setTop (mkF m 84 #[.val (.int p1)] [(.int p1)])) _
    refine XS.bipush X0.here hx rfl (hb hby d1_84) ?_
    show Steps p.tables e below (s₁.setTop (mkF m 86 #[.val (.int p1)] [(.int (9 : Int32)), (.int p1)])) _
    refine XS.icmpNo X0.here hx rfl (hb hby d1_86) rfl (teq hn9).2 ?_
    show Steps p.tables e below (s₁.setTop (mkF m 89 #[.val (.int p1)] [])) _
    refine st1 _ ?_
    show Steps p.tables e below (T1.setTop (mkF m 92 #[.val (.int p1)] [(.ref w_OBJECT)])) _
    exact retOut X1 hx Bd.returns rfl (Or.inr (Or.inr (Or.inr (Or.inr ⟨rfl, rfl, rfl⟩)))) (hb hby d1_92) hr
  · show Q_rm_pk9 Z p1 w_OBJECT h0 n0 _ T1.heap _
    rw [e1]
    exact ⟨rfl, N0, rfl⟩
theorem d1_93 : decode method_3_code 93 = .ok (.iload_n 0, 1) := by decide +kernel
theorem d1_94 : decode method_3_code 94 = .ok (.bipush 10, 2) := by decide +kernel
theorem d1_96 : decode method_3_code 96 = .ok (.if_icmp .ne 7, 3) := by decide +kernel
theorem d1_99 : decode method_3_code 99 = .ok (.getstatic 51, 3) := by decide +kernel
theorem d1_102 : decode method_3_code 102 = .ok (.areturn, 1) := by decide +kernel
theorem ef_rm_pk10 (m : MethodId) (x0 : Int32) : entryFrame m #[(.int x0)] 1 = mkF m 0 #[.val (.int x0)] [] := by first | (simp [entryFrame, mkF, argsToLocals, Value.category]; done) | rfl
def Q_rm_pk10 (Z : State) (p1 : Int32) (w_BIRTH : Addr) (h0 : Heap) (n0 : Nat) (v : Option Value) (h : Heap) (L : List Loc) : Prop := v = some (.ref w_BIRTH) ∧ Fr n0 L ∧ h = h0
set_option maxRecDepth 65536 in
set_option maxHeartbeats 40000000 in
theorem rm_pk10 (l : Launch) (Z : State) (a0 : Array Value) (hw : ∀ d ∈ tables_1, d.before a0 Z = true) (ws : List Jvm.Cond) (p1 : Int32) (w_BIRTH : Addr) (h0 : Heap) (n0 : Nat) (Z0 : n0 ≤ h0.size) (pr0 : Sta Z Z.heap "com/example/indberet/indberet/Lpr3Class$Kind" "BIRTH" "Lcom/example/indberet/indberet/Lpr3Class$Kind;" (.ref w_BIRTH)) (pr1 : Old Z n0 h0) (hn0 : ¬ (p1 = (0 : Int32))) (hn1 : ¬ (p1 = (1 : Int32))) (hn2 : ¬ (p1 = (2 : Int32))) (hn3 : ¬ (p1 = (3 : Int32))) (hn4 : ¬ (p1 = (4 : Int32))) (hn5 : ¬ (p1 = (5 : Int32))) (hn6 : ¬ (p1 = (6 : Int32))) (hn7 : ¬ (p1 = (7 : Int32))) (hn8 : ¬ (p1 = (8 : Int32))) (hn9 : ¬ (p1 = (9 : Int32))) (hn10 : p1 = (10 : Int32)) :
    MetFree l (⟨"com/example/indberet/indberet/KindKeepsTextPinLaw", "kind", "(I)Lcom/example/indberet/indberet/Lpr3Class$Kind;"⟩ : MethodName) (head1 (Jvm.Cond.code (⟨"com/example/indberet/indberet/KindKeepsTextPinLaw", "kind", "(I)Lcom/example/indberet/indberet/Lpr3Class$Kind;"⟩ : MethodName) method_3_code 1 (some (.object "com/example/indberet/indberet/Lpr3Class$Kind")) :: ws) ({ frames := 0, cells := 0, slots := 0, locals := 0 } : Room)) (fun a U => a = #[(.int p1)] ∧ Z.Warmed39 U.vm ∧ U.heap = h0) (fun _ _ _ _ _ => True) (fun _ U o U' => ∃ v L, o = .returned v ∧ Q_rm_pk10 Z p1 w_BIRTH h0 n0 v U'.heap L ∧ FrameEnd U o U' L ({ frames := 0, cells := 0, slots := 0, locals := 0 } : Room).cells ({ frames := 0, cells := 0, slots := 0, locals := 0 } : Room).slots) := by
  refine MetFree.of_bodySF (plainFor_of_name pn_com_example_indberet_indberet_KindKeepsTextPinLaw) hisR ?_
  intro p e s m args below meth c s₁ Bd hml0 hP hK
  obtain ⟨rfl, hZ, hh⟩ := hP
  have hx := Bd.exec
  have hby := Bd.bytes
  have hml : c.maxLocals = 1 := hml0
  have hown : s.vm.findClass "com/example/indberet/indberet/KindKeepsTextPinLaw" = some m.cls := findClass_of_methodNamed Bd.named
  have hnm := (name_of_methodNamed Bd.named Bd.method).1
  have X0 : Stand p l e ({ frames := 0, cells := 0, slots := 0, locals := 0 } : Room) s m #[(.int p1)] below meth c s₁ [] 0 0 := Stand.of_body Bd
  have e0 : s₁.heap = h0 := by rw [← hh, Bd.state]; rfl
  have N0 := Fr.nil n0
  have pre0 : ∀ t, Steps p.tables e below (s₁.setTop (mkF m 0 #[.val (.int p1)] [])) t → Steps p.tables e below (s₁.setTop (entryFrame m #[(.int p1)] 1)) t := fun t k => castTop (ef_rm_pk10 m p1) k
  obtain ⟨T1, X1, e1, st1⟩ := getS2 X0 hx hZ hown (host := "") (Or.inl (hw _ (List.mem_of_getElem? (i := 31) rfl))) Via.refl e0 (pr0.ext pr1.2) (g := (mkF m 99 #[.val (.int p1)] [])) rfl (hb hby d1_99)
  obtain ⟨fs, hr, hrun, hended, hW, hsame⟩ := X1.leave (v := some (.ref w_BIRTH)) (fun h => by rw [Bd.returns] at h; cases h)
  refine ⟨_, _, pre0 _ ?_, hrun, hended, _, _, rfl, ?_, ⟨_, rfl⟩, hW, hsame.mono (by decide) (by decide)⟩
  · show Steps p.tables e below (s₁.setTop (mkF m 0 #[.val (.int p1)] [])) _
    refine XS.iloadN X0.here hx rfl (hb hby d1_0) rfl ?_
    show Steps p.tables e below (s₁.setTop (mkF m 1 #[.val (.int p1)] [(.int p1)])) _
    refine XS.ifYes X0.here hx rfl (pc0 := 1) (pc' := 8) rfl (hb hby d1_1) rfl ((if0 _ _).trans (feq hn0).2) (by decide) (by decide) ?_
    show Steps p.tables e below (s₁.setTop (mkF m 8 #[.val (.int p1)] [])) _
    refine XS.iloadN X0.here hx rfl (hb hby d1_8) rfl ?_
    show Steps p.tables e below (s₁.setTop (mkF m 9 #[.val (.int p1)] [(.int p1)])) _
    refine XS.iconst X0.here hx rfl (hb hby d1_9) ?_
    show Steps p.tables e below (s₁.setTop (mkF m 10 #[.val (.int p1)] [(.int (1 : Int32)), (.int p1)])) _
    refine XS.icmpYes X0.here hx rfl (pc0 := 10) (pc' := 17) rfl (hb hby d1_10) rfl (feq hn1).2 (by decide) (by decide) ?_
    show Steps p.tables e below (s₁.setTop (mkF m 17 #[.val (.int p1)] [])) _
    refine XS.iloadN X0.here hx rfl (hb hby d1_17) rfl ?_
    show Steps p.tables e below (s₁.setTop (mkF m 18 #[.val (.int p1)] [(.int p1)])) _
    refine XS.iconst X0.here hx rfl (hb hby d1_18) ?_
    show Steps p.tables e below (s₁.setTop (mkF m 19 #[.val (.int p1)] [(.int (2 : Int32)), (.int p1)])) _
    refine XS.icmpYes X0.here hx rfl (pc0 := 19) (pc' := 26) rfl (hb hby d1_19) rfl (feq hn2).2 (by decide) (by decide) ?_
    show Steps p.tables e below (s₁.setTop (mkF m 26 #[.val (.int p1)] [])) _
    refine XS.iloadN X0.here hx rfl (hb hby d1_26) rfl ?_
    show Steps p.tables e below (s₁.setTop (mkF m 27 #[.val (.int p1)] [(.int p1)])) _
    refine XS.iconst X0.here hx rfl (hb hby d1_27) ?_
    show Steps p.tables e below (s₁.setTop (mkF m 28 #[.val (.int p1)] [(.int (3 : Int32)), (.int p1)])) _
    refine XS.icmpYes X0.here hx rfl (pc0 := 28) (pc' := 35) rfl (hb hby d1_28) rfl (feq hn3).2 (by decide) (by decide) ?_
    show Steps p.tables e below (s₁.setTop (mkF m 35 #[.val (.int p1)] [])) _
    refine XS.iloadN X0.here hx rfl (hb hby d1_35) rfl ?_
    show Steps p.tables e below (s₁.setTop (mkF m 36 #[.val (.int p1)] [(.int p1)])) _
    refine XS.iconst X0.here hx rfl (hb hby d1_36) ?_
    show Steps p.tables e below (s₁.setTop (mkF m 37 #[.val (.int p1)] [(.int (4 : Int32)), (.int p1)])) _
    refine XS.icmpYes X0.here hx rfl (pc0 := 37) (pc' := 44) rfl (hb hby d1_37) rfl (feq hn4).2 (by decide) (by decide) ?_
    show Steps p.tables e below (s₁.setTop (mkF m 44 #[.val (.int p1)] [])) _
    refine XS.iloadN X0.here hx rfl (hb hby d1_44) rfl ?_
    show Steps p.tables e below (s₁.setTop (mkF m 45 #[.val (.int p1)] [(.int p1)])) _
    refine XS.iconst X0.here hx rfl (hb hby d1_45) ?_
    show Steps p.tables e below (s₁.setTop (mkF m 46 #[.val (.int p1)] [(.int (5 : Int32)), (.int p1)])) _
    refine XS.icmpYes X0.here hx rfl (pc0 := 46) (pc' := 53) rfl (hb hby d1_46) rfl (feq hn5).2 (by decide) (by decide) ?_
    show Steps p.tables e below (s₁.setTop (mkF m 53 #[.val (.int p1)] [])) _
    refine XS.iloadN X0.here hx rfl (hb hby d1_53) rfl ?_
    show Steps p.tables e below (s₁.setTop (mkF m 54 #[.val (.int p1)] [(.int p1)])) _
    refine XS.bipush X0.here hx rfl (hb hby d1_54) ?_
    show Steps p.tables e below (s₁.setTop (mkF m 56 #[.val (.int p1)] [(.int (6 : Int32)), (.int p1)])) _
    refine XS.icmpYes X0.here hx rfl (pc0 := 56) (pc' := 63) rfl (hb hby d1_56) rfl (feq hn6).2 (by decide) (by decide) ?_
    show Steps p.tables e below (s₁.setTop (mkF m 63 #[.val (.int p1)] [])) _
    refine XS.iloadN X0.here hx rfl (hb hby d1_63) rfl ?_
    show Steps p.tables e below (s₁.setTop (mkF m 64 #[.val (.int p1)] [(.int p1)])) _
    refine XS.bipush X0.here hx rfl (hb hby d1_64) ?_
    show Steps p.tables e below (s₁.setTop (mkF m 66 #[.val (.int p1)] [(.int (7 : Int32)), (.int p1)])) _
    refine XS.icmpYes X0.here hx rfl (pc0 := 66) (pc' := 73) rfl (hb hby d1_66) rfl (feq hn7).2 (by decide) (by decide) ?_
    show Steps p.tables e below (s₁.setTop (mkF m 73 #[.val (.int p1)] [])) _
    refine XS.iloadN X0.here hx rfl (hb hby d1_73) rfl ?_
    show Steps p.tables e below (s₁.setTop (mkF m 74 #[.val (.int p1)] [(.int p1)])) _
    refine XS.bipush X0.here hx rfl (hb hby d1_74) ?_
    show Steps p.tables e below (s₁.setTop (mkF m 76 #[.val (.int p1)] [(.int (8 : Int32)), (.int p1)])) _
    refine XS.icmpYes X0.here hx rfl (pc0 := 76) (pc' := 83) rfl (hb hby d1_76) rfl (feq hn8).2 (by decide) (by decide) ?_
    show Steps p.tables e below (s₁.setTop (mkF m 83 #[.val (.int p1)] [])) _
    refine XS.iloadN X0.here hx rfl (hb hby d1_83) rfl ?_
    show Steps p.tables e below (s₁.setTop (mkF m 84 #[.val (.int p1)] [(.int p1)])) _
    refine XS.bipush X0.here hx rfl (hb hby d1_84) ?_
    show Steps p.tables e below (s₁.setTop (mkF m 86 #[.val (.int p1)] [(.int (9 : Int32)), (.int p1)])) _
    refine XS.icmpYes X0.here hx rfl (pc0 := 86) (pc' := 93) rfl (hb hby d1_86) rfl (feq hn9).2 (by decide) (by decide) ?_
    show Steps p.tables e below (s₁.setTop (mkF m 93 #[.val (.int p1)] [])) _
    refine XS.iloadN X0.here hx rfl (hb hby d1_93) rfl ?_
    show Steps p.tables e below (s₁.setTop (mkF m 94 #[.val (.int p1)] [(.int p1)])) _
    refine XS.bipush X0.here hx rfl (hb hby d1_94) ?_
    show Steps p.tables e below (s₁.setTop (mkF m 96 #[.val (.int p1)] [(.int (10 : Int32)), (.int p1)])) _
    refine XS.icmpNo X0.here hx rfl (hb hby d1_96) rfl (teq hn10).2 ?_
    show Steps p.tables e below (s₁.setTop (mkF m 99 #[.val (.int p1)] [])) _
    refine st1 _ ?_
    show Steps p.tables e below (T1.setTop (mkF m 102 #[.val (.int p1)] [(.ref w_BIRTH)])) _
    exact retOut X1 hx Bd.returns rfl (Or.inr (Or.inr (Or.inr (Or.inr ⟨rfl, rfl, rfl⟩)))) (hb hby d1_102) hr
  · show Q_rm_pk10 Z p1 w_BIRTH h0 n0 _ T1.heap _
    rw [e1]
    exact ⟨rfl, N0, rfl⟩
theorem d1_103 : decode method_3_code 103 = .ok (.iload_n 0, 1) := by decide +kernel
theorem d1_104 : decode method_3_code 104 = .ok (.bipush 11, 2) := by decide +kernel
theorem d1_106 : decode method_3_code 106 = .ok (.if_icmp .ne 7, 3) := by decide +kernel
theorem d1_109 : decode method_3_code 109 = .ok (.getstatic 54, 3) := by decide +kernel
theorem d1_112 : decode method_3_code 112 = .ok (.areturn, 1) := by decide +kernel
theorem ef_rm_pk11 (m : MethodId) (x0 : Int32) : entryFrame m #[(.int x0)] 1 = mkF m 0 #[.val (.int x0)] [] := by first | (simp [entryFrame, mkF, argsToLocals, Value.category]; done) | rfl
def Q_rm_pk11 (Z : State) (p1 : Int32) (w_REPORT_NAME : Addr) (h0 : Heap) (n0 : Nat) (v : Option Value) (h : Heap) (L : List Loc) : Prop := v = some (.ref w_REPORT_NAME) ∧ Fr n0 L ∧ h = h0
set_option maxRecDepth 65536 in
set_option maxHeartbeats 40000000 in
theorem rm_pk11 (l : Launch) (Z : State) (a0 : Array Value) (hw : ∀ d ∈ tables_1, d.before a0 Z = true) (ws : List Jvm.Cond) (p1 : Int32) (w_REPORT_NAME : Addr) (h0 : Heap) (n0 : Nat) (Z0 : n0 ≤ h0.size) (pr0 : Sta Z Z.heap "com/example/indberet/indberet/Lpr3Class$Kind" "REPORT_NAME" "Lcom/example/indberet/indberet/Lpr3Class$Kind;" (.ref w_REPORT_NAME)) (pr1 : Old Z n0 h0) (hn0 : ¬ (p1 = (0 : Int32))) (hn1 : ¬ (p1 = (1 : Int32))) (hn2 : ¬ (p1 = (2 : Int32))) (hn3 : ¬ (p1 = (3 : Int32))) (hn4 : ¬ (p1 = (4 : Int32))) (hn5 : ¬ (p1 = (5 : Int32))) (hn6 : ¬ (p1 = (6 : Int32))) (hn7 : ¬ (p1 = (7 : Int32))) (hn8 : ¬ (p1 = (8 : Int32))) (hn9 : ¬ (p1 = (9 : Int32))) (hn10 : ¬ (p1 = (10 : Int32))) (hn11 : p1 = (11 : Int32)) :
    MetFree l (⟨"com/example/indberet/indberet/KindKeepsTextPinLaw", "kind", "(I)Lcom/example/indberet/indberet/Lpr3Class$Kind;"⟩ : MethodName) (head1 (Jvm.Cond.code (⟨"com/example/indberet/indberet/KindKeepsTextPinLaw", "kind", "(I)Lcom/example/indberet/indberet/Lpr3Class$Kind;"⟩ : MethodName) method_3_code 1 (some (.object "com/example/indberet/indberet/Lpr3Class$Kind")) :: ws) ({ frames := 0, cells := 0, slots := 0, locals := 0 } : Room)) (fun a U => a = #[(.int p1)] ∧ Z.Warmed39 U.vm ∧ U.heap = h0) (fun _ _ _ _ _ => True) (fun _ U o U' => ∃ v L, o = .returned v ∧ Q_rm_pk11 Z p1 w_REPORT_NAME h0 n0 v U'.heap L ∧ FrameEnd U o U' L ({ frames := 0, cells := 0, slots := 0, locals := 0 } : Room).cells ({ frames := 0, cells := 0, slots := 0, locals := 0 } : Room).slots) := by
  refine MetFree.of_bodySF (plainFor_of_name pn_com_example_indberet_indberet_KindKeepsTextPinLaw) hisR ?_
  intro p e s m args below meth c s₁ Bd hml0 hP hK
  obtain ⟨rfl, hZ, hh⟩ := hP
  have hx := Bd.exec
  have hby := Bd.bytes
  have hml : c.maxLocals = 1 := hml0
  have hown : s.vm.findClass "com/example/indberet/indberet/KindKeepsTextPinLaw" = some m.cls := findClass_of_methodNamed Bd.named
  have hnm := (name_of_methodNamed Bd.named Bd.method).1
  have X0 : Stand p l e ({ frames := 0, cells := 0, slots := 0, locals := 0 } : Room) s m #[(.int p1)] below meth c s₁ [] 0 0 := Stand.of_body Bd
  have e0 : s₁.heap = h0 := by rw [← hh, Bd.state]; rfl
  have N0 := Fr.nil n0
  have pre0 : ∀ t, Steps p.tables e below (s₁.setTop (mkF m 0 #[.val (.int p1)] [])) t → Steps p.tables e below (s₁.setTop (entryFrame m #[(.int p1)] 1)) t := fun t k => castTop (ef_rm_pk11 m p1) k
  obtain ⟨T1, X1, e1, st1⟩ := getS2 X0 hx hZ hown (host := "") (Or.inl (hw _ (List.mem_of_getElem? (i := 30) rfl))) Via.refl e0 (pr0.ext pr1.2) (g := (mkF m 109 #[.val (.int p1)] [])) rfl (hb hby d1_109)
  obtain ⟨fs, hr, hrun, hended, hW, hsame⟩ := X1.leave (v := some (.ref w_REPORT_NAME)) (fun h => by rw [Bd.returns] at h; cases h)
  refine ⟨_, _, pre0 _ ?_, hrun, hended, _, _, rfl, ?_, ⟨_, rfl⟩, hW, hsame.mono (by decide) (by decide)⟩
  · show Steps p.tables e below (s₁.setTop (mkF m 0 #[.val (.int p1)] [])) _
    refine XS.iloadN X0.here hx rfl (hb hby d1_0) rfl ?_
    show Steps p.tables e below (s₁.setTop (mkF m 1 #[.val (.int p1)] [(.int p1)])) _
    refine XS.ifYes X0.here hx rfl (pc0 := 1) (pc' := 8) rfl (hb hby d1_1) rfl ((if0 _ _).trans (feq hn0).2) (by decide) (by decide) ?_
    show Steps p.tables e below (s₁.setTop (mkF m 8 #[.val (.int p1)] [])) _
    refine XS.iloadN X0.here hx rfl (hb hby d1_8) rfl ?_
    show Steps p.tables e below (s₁.setTop (mkF m 9 #[.val (.int p1)] [(.int p1)])) _
    refine XS.iconst X0.here hx rfl (hb hby d1_9) ?_
    show Steps p.tables e below (s₁.setTop (mkF m 10 #[.val (.int p1)] [(.int (1 : Int32)), (.int p1)])) _
    refine XS.icmpYes X0.here hx rfl (pc0 := 10) (pc' := 17) rfl (hb hby d1_10) rfl (feq hn1).2 (by decide) (by decide) ?_
    show Steps p.tables e below (s₁.setTop (mkF m 17 #[.val (.int p1)] [])) _
    refine XS.iloadN X0.here hx rfl (hb hby d1_17) rfl ?_
    show Steps p.tables e below (s₁.setTop (mkF m 18 #[.val (.int p1)] [(.int p1)])) _
    refine XS.iconst X0.here hx rfl (hb hby d1_18) ?_
    show Steps p.tables e below (s₁.setTop (mkF m 19 #[.val (.int p1)] [(.int (2 : Int32)), (.int p1)])) _
    refine XS.icmpYes X0.here hx rfl (pc0 := 19) (pc' := 26) rfl (hb hby d1_19) rfl (feq hn2).2 (by decide) (by decide) ?_
    show Steps p.tables e below (s₁.setTop (mkF m 26 #[.val (.int p1)] [])) _
    refine XS.iloadN X0.here hx rfl (hb hby d1_26) rfl ?_
    show Steps p.tables e below (s₁.setTop (mkF m 27 #[.val (.int p1)] [(.int p1)])) _
    refine XS.iconst X0.here hx rfl (hb hby d1_27) ?_
    show Steps p.tables e below (s₁.setTop (mkF m 28 #[.val (.int p1)] [(.int (3 : Int32)), (.int p1)])) _
    refine XS.icmpYes X0.here hx rfl (pc0 := 28) (pc' := 35) rfl (hb hby d1_28) rfl (feq hn3).2 (by decide) (by decide) ?_
    show Steps p.tables e below (s₁.setTop (mkF m 35 #[.val (.int p1)] [])) _
    refine XS.iloadN X0.here hx rfl (hb hby d1_35) rfl ?_
    show Steps p.tables e below (s₁.setTop (mkF m 36 #[.val (.int p1)] [(.int p1)])) _
    refine XS.iconst X0.here hx rfl (hb hby d1_36) ?_
    show Steps p.tables e below (s₁.setTop (mkF m 37 #[.val (.int p1)] [(.int (4 : Int32)), (.int p1)])) _
    refine XS.icmpYes X0.here hx rfl (pc0 := 37) (pc' := 44) rfl (hb hby d1_37) rfl (feq hn4).2 (by decide) (by decide) ?_
    show Steps p.tables e below (s₁.setTop (mkF m 44 #[.val (.int p1)] [])) _
    refine XS.iloadN X0.here hx rfl (hb hby d1_44) rfl ?_
    show Steps p.tables e below (s₁.setTop (mkF m 45 #[.val (.int p1)] [(.int p1)])) _
    refine XS.iconst X0.here hx rfl (hb hby d1_45) ?_
    show Steps p.tables e below (s₁.setTop (mkF m 46 #[.val (.int p1)] [(.int (5 : Int32)), (.int p1)])) _
    refine XS.icmpYes X0.here hx rfl (pc0 := 46) (pc' := 53) rfl (hb hby d1_46) rfl (feq hn5).2 (by decide) (by decide) ?_
    show Steps p.tables e below (s₁.setTop (mkF m 53 #[.val (.int p1)] [])) _
    refine XS.iloadN X0.here hx rfl (hb hby d1_53) rfl ?_
    show Steps p.tables e below (s₁.setTop (mkF m 54 #[.val (.int p1)] [(.int p1)])) _
    refine XS.bipush X0.here hx rfl (hb hby d1_54) ?_
    show Steps p.tables e below (s₁.setTop (mkF m 56 #[.val (.int p1)] [(.int (6 : Int32)), (.int p1)])) _
    refine XS.icmpYes X0.here hx rfl (pc0 := 56) (pc' := 63) rfl (hb hby d1_56) rfl (feq hn6).2 (by decide) (by decide) ?_
    show Steps p.tables e below (s₁.setTop (mkF m 63 #[.val (.int p1)] [])) _
    refine XS.iloadN X0.here hx rfl (hb hby d1_63) rfl ?_
    show Steps p.tables e below (s₁.setTop (mkF m 64 #[.val (.int p1)] [(.int p1)])) _
    refine XS.bipush X0.here hx rfl (hb hby d1_64) ?_
    show Steps p.tables e below (s₁.setTop (mkF m 66 #[.val (.int p1)] [(.int (7 : Int32)), (.int p1)])) _
    refine XS.icmpYes X0.here hx rfl (pc0 := 66) (pc' := 73) rfl (hb hby d1_66) rfl (feq hn7).2 (by decide) (by decide) ?_
    show Steps p.tables e below (s₁.setTop (mkF m 73 #[.val (.int p1)] [])) _
    refine XS.iloadN X0.here hx rfl (hb hby d1_73) rfl ?_
    show Steps p.tables e below (s₁.setTop (mkF m 74 #[.val (.int p1)] [(.int p1)])) _
    refine XS.bipush X0.here hx rfl (hb hby d1_74) ?_
    show Steps p.tables e below (s₁.setTop (mkF m 76 #[.val (.int p1)] [(.int (8 : Int32)), (.int p1)])) _
    refine XS.icmpYes X0.here hx rfl (pc0 := 76) (pc' := 83) rfl (hb hby d1_76) rfl (feq hn8).2 (by decide) (by decide) ?_
    show Steps p.tables e below (s₁.setTop (mkF m 83 #[.val (.int p1)] [])) _
    refine XS.iloadN X0.here hx rfl (hb hby d1_83) rfl ?_
    show Steps p.tables e below (s₁.setTop (mkF m 84 #[.val (.int p1)] [(.int p1)])) _
    refine XS.bipush X0.here hx rfl (hb hby d1_84) ?_
    show Steps p.tables e below (s₁.setTop (mkF m 86 #[.val (.int p1)] [(.int (9 : Int32)), (.int p1)])) _
    refine XS.icmpYes X0.here hx rfl (pc0 := 86) (pc' := 93) rfl (hb hby d1_86) rfl (feq hn9).2 (by decide) (by decide) ?_
    show Steps p.tables e below (s₁.setTop (mkF m 93 #[.val (.int p1)] [])) _
    refine XS.iloadN X0.here hx rfl (hb hby d1_93) rfl ?_
    show Steps p.tables e below (s₁.setTop (mkF m 94 #[.val (.int p1)] [(.int p1)])) _
    refine XS.bipush X0.here hx rfl (hb hby d1_94) ?_
    show Steps p.tables e below (s₁.setTop (mkF m 96 #[.val (.int p1)] [(.int (10 : Int32)), (.int p1)])) _
    refine XS.icmpYes X0.here hx rfl (pc0 := 96) (pc' := 103) rfl (hb hby d1_96) rfl (feq hn10).2 (by decide) (by decide) ?_
    show Steps p.tables e below (s₁.setTop (mkF m 103 #[.val (.int p1)] [])) _
    refine XS.iloadN X0.here hx rfl (hb hby d1_103) rfl ?_
    show Steps p.tables e below (s₁.setTop (mkF m 104 #[.val (.int p1)] [(.int p1)])) _
    refine XS.bipush X0.here hx rfl (hb hby d1_104) ?_
    show Steps p.tables e below (s₁.setTop (mkF m 106 #[.val (.int p1)] [(.int (11 : Int32)), (.int p1)])) _
    refine XS.icmpNo X0.here hx rfl (hb hby d1_106) rfl (teq hn11).2 ?_
    show Steps p.tables e below (s₁.setTop (mkF m 109 #[.val (.int p1)] [])) _
    refine st1 _ ?_
    show Steps p.tables e below (T1.setTop (mkF m 112 #[.val (.int p1)] [(.ref w_REPORT_NAME)])) _
    exact retOut X1 hx Bd.returns rfl (Or.inr (Or.inr (Or.inr (Or.inr ⟨rfl, rfl, rfl⟩)))) (hb hby d1_112) hr
  · show Q_rm_pk11 Z p1 w_REPORT_NAME h0 n0 _ T1.heap _
    rw [e1]
    exact ⟨rfl, N0, rfl⟩
theorem d1_113 : decode method_3_code 113 = .ok (.iload_n 0, 1) := by decide +kernel
theorem d1_114 : decode method_3_code 114 = .ok (.bipush 12, 2) := by decide +kernel
theorem d1_116 : decode method_3_code 116 = .ok (.if_icmp .ne 7, 3) := by decide +kernel
theorem d1_119 : decode method_3_code 119 = .ok (.getstatic 57, 3) := by decide +kernel
theorem d1_122 : decode method_3_code 122 = .ok (.areturn, 1) := by decide +kernel
theorem ef_rm_pk12 (m : MethodId) (x0 : Int32) : entryFrame m #[(.int x0)] 1 = mkF m 0 #[.val (.int x0)] [] := by first | (simp [entryFrame, mkF, argsToLocals, Value.category]; done) | rfl
def Q_rm_pk12 (Z : State) (p1 : Int32) (w_RESULT_TYPE : Addr) (h0 : Heap) (n0 : Nat) (v : Option Value) (h : Heap) (L : List Loc) : Prop := v = some (.ref w_RESULT_TYPE) ∧ Fr n0 L ∧ h = h0
set_option maxRecDepth 65536 in
set_option maxHeartbeats 40000000 in
theorem rm_pk12 (l : Launch) (Z : State) (a0 : Array Value) (hw : ∀ d ∈ tables_1, d.before a0 Z = true) (ws : List Jvm.Cond) (p1 : Int32) (w_RESULT_TYPE : Addr) (h0 : Heap) (n0 : Nat) (Z0 : n0 ≤ h0.size) (pr0 : Sta Z Z.heap "com/example/indberet/indberet/Lpr3Class$Kind" "RESULT_TYPE" "Lcom/example/indberet/indberet/Lpr3Class$Kind;" (.ref w_RESULT_TYPE)) (pr1 : Old Z n0 h0) (hn0 : ¬ (p1 = (0 : Int32))) (hn1 : ¬ (p1 = (1 : Int32))) (hn2 : ¬ (p1 = (2 : Int32))) (hn3 : ¬ (p1 = (3 : Int32))) (hn4 : ¬ (p1 = (4 : Int32))) (hn5 : ¬ (p1 = (5 : Int32))) (hn6 : ¬ (p1 = (6 : Int32))) (hn7 : ¬ (p1 = (7 : Int32))) (hn8 : ¬ (p1 = (8 : Int32))) (hn9 : ¬ (p1 = (9 : Int32))) (hn10 : ¬ (p1 = (10 : Int32))) (hn11 : ¬ (p1 = (11 : Int32))) (hn12 : p1 = (12 : Int32)) :
    MetFree l (⟨"com/example/indberet/indberet/KindKeepsTextPinLaw", "kind", "(I)Lcom/example/indberet/indberet/Lpr3Class$Kind;"⟩ : MethodName) (head1 (Jvm.Cond.code (⟨"com/example/indberet/indberet/KindKeepsTextPinLaw", "kind", "(I)Lcom/example/indberet/indberet/Lpr3Class$Kind;"⟩ : MethodName) method_3_code 1 (some (.object "com/example/indberet/indberet/Lpr3Class$Kind")) :: ws) ({ frames := 0, cells := 0, slots := 0, locals := 0 } : Room)) (fun a U => a = #[(.int p1)] ∧ Z.Warmed39 U.vm ∧ U.heap = h0) (fun _ _ _ _ _ => True) (fun _ U o U' => ∃ v L, o = .returned v ∧ Q_rm_pk12 Z p1 w_RESULT_TYPE h0 n0 v U'.heap L ∧ FrameEnd U o U' L ({ frames := 0, cells := 0, slots := 0, locals := 0 } : Room).cells ({ frames := 0, cells := 0, slots := 0, locals := 0 } : Room).slots) := by
  refine MetFree.of_bodySF (plainFor_of_name pn_com_example_indberet_indberet_KindKeepsTextPinLaw) hisR ?_
  intro p e s m args below meth c s₁ Bd hml0 hP hK
  obtain ⟨rfl, hZ, hh⟩ := hP
  have hx := Bd.exec
  have hby := Bd.bytes
  have hml : c.maxLocals = 1 := hml0
  have hown : s.vm.findClass "com/example/indberet/indberet/KindKeepsTextPinLaw" = some m.cls := findClass_of_methodNamed Bd.named
  have hnm := (name_of_methodNamed Bd.named Bd.method).1
  have X0 : Stand p l e ({ frames := 0, cells := 0, slots := 0, locals := 0 } : Room) s m #[(.int p1)] below meth c s₁ [] 0 0 := Stand.of_body Bd
  have e0 : s₁.heap = h0 := by rw [← hh, Bd.state]; rfl
  have N0 := Fr.nil n0
  have pre0 : ∀ t, Steps p.tables e below (s₁.setTop (mkF m 0 #[.val (.int p1)] [])) t → Steps p.tables e below (s₁.setTop (entryFrame m #[(.int p1)] 1)) t := fun t k => castTop (ef_rm_pk12 m p1) k
  obtain ⟨T1, X1, e1, st1⟩ := getS2 X0 hx hZ hown (host := "") (Or.inl (hw _ (List.mem_of_getElem? (i := 22) rfl))) Via.refl e0 (pr0.ext pr1.2) (g := (mkF m 119 #[.val (.int p1)] [])) rfl (hb hby d1_119)
  obtain ⟨fs, hr, hrun, hended, hW, hsame⟩ := X1.leave (v := some (.ref w_RESULT_TYPE)) (fun h => by rw [Bd.returns] at h; cases h)
  refine ⟨_, _, pre0 _ ?_, hrun, hended, _, _, rfl, ?_, ⟨_, rfl⟩, hW, hsame.mono (by decide) (by decide)⟩
  · show Steps p.tables e below (s₁.setTop (mkF m 0 #[.val (.int p1)] [])) _
    refine XS.iloadN X0.here hx rfl (hb hby d1_0) rfl ?_
    show Steps p.tables e below (s₁.setTop (mkF m 1 #[.val (.int p1)] [(.int p1)])) _
    refine XS.ifYes X0.here hx rfl (pc0 := 1) (pc' := 8) rfl (hb hby d1_1) rfl ((if0 _ _).trans (feq hn0).2) (by decide) (by decide) ?_
    show Steps p.tables e below (s₁.setTop (mkF m 8 #[.val (.int p1)] [])) _
    refine XS.iloadN X0.here hx rfl (hb hby d1_8) rfl ?_
    show Steps p.tables e below (s₁.setTop (mkF m 9 #[.val (.int p1)] [(.int p1)])) _
    refine XS.iconst X0.here hx rfl (hb hby d1_9) ?_
    show Steps p.tables e below (s₁.setTop (mkF m 10 #[.val (.int p1)] [(.int (1 : Int32)), (.int p1)])) _
    refine XS.icmpYes X0.here hx rfl (pc0 := 10) (pc' := 17) rfl (hb hby d1_10) rfl (feq hn1).2 (by decide) (by decide) ?_
    show Steps p.tables e below (s₁.setTop (mkF m 17 #[.val (.int p1)] [])) _
    refine XS.iloadN X0.here hx rfl (hb hby d1_17) rfl ?_
    show Steps p.tables e below (s₁.setTop (mkF m 18 #[.val (.int p1)] [(.int p1)])) _
    refine XS.iconst X0.here hx rfl (hb hby d1_18) ?_
    show Steps p.tables e below (s₁.setTop (mkF m 19 #[.val (.int p1)] [(.int (2 : Int32)), (.int p1)])) _
    refine XS.icmpYes X0.here hx rfl (pc0 := 19) (pc' := 26) rfl (hb hby d1_19) rfl (feq hn2).2 (by decide) (by decide) ?_
    show Steps p.tables e below (s₁.setTop (mkF m 26 #[.val (.int p1)] [])) _
    refine XS.iloadN X0.here hx rfl (hb hby d1_26) rfl ?_
    show Steps p.tables e below (s₁.setTop (mkF m 27 #[.val (.int p1)] [(.int p1)])) _
    refine XS.iconst X0.here hx rfl (hb hby d1_27) ?_
    show Steps p.tables e below (s₁.setTop (mkF m 28 #[.val (.int p1)] [(.int (3 : Int32)), (.int p1)])) _
    refine XS.icmpYes X0.here hx rfl (pc0 := 28) (pc' := 35) rfl (hb hby d1_28) rfl (feq hn3).2 (by decide) (by decide) ?_
    show Steps p.tables e below (s₁.setTop (mkF m 35 #[.val (.int p1)] [])) _
    refine XS.iloadN X0.here hx rfl (hb hby d1_35) rfl ?_
    show Steps p.tables e below (s₁.setTop (mkF m 36 #[.val (.int p1)] [(.int p1)])) _
    refine XS.iconst X0.here hx rfl (hb hby d1_36) ?_
    show Steps p.tables e below (s₁.setTop (mkF m 37 #[.val (.int p1)] [(.int (4 : Int32)), (.int p1)])) _
    refine XS.icmpYes X0.here hx rfl (pc0 := 37) (pc' := 44) rfl (hb hby d1_37) rfl (feq hn4).2 (by decide) (by decide) ?_
    show Steps p.tables e below (s₁.setTop (mkF m 44 #[.val (.int p1)] [])) _
    refine XS.iloadN X0.here hx rfl (hb hby d1_44) rfl ?_
    show Steps p.tables e below (s₁.setTop (mkF m 45 #[.val (.int p1)] [(.int p1)])) _
    refine XS.iconst X0.here hx rfl (hb hby d1_45) ?_
    show Steps p.tables e below (s₁.setTop (mkF m 46 #[.val (.int p1)] [(.int (5 : Int32)), (.int p1)])) _
    refine XS.icmpYes X0.here hx rfl (pc0 := 46) (pc' := 53) rfl (hb hby d1_46) rfl (feq hn5).2 (by decide) (by decide) ?_
    show Steps p.tables e below (s₁.setTop (mkF m 53 #[.val (.int p1)] [])) _
    refine XS.iloadN X0.here hx rfl (hb hby d1_53) rfl ?_
    show Steps p.tables e below (s₁.setTop (mkF m 54 #[.val (.int p1)] [(.int p1)])) _
    refine XS.bipush X0.here hx rfl (hb hby d1_54) ?_
    show Steps p.tables e below (s₁.setTop (mkF m 56 #[.val (.int p1)] [(.int (6 : Int32)), (.int p1)])) _
    refine XS.icmpYes X0.here hx rfl (pc0 := 56) (pc' := 63) rfl (hb hby d1_56) rfl (feq hn6).2 (by decide) (by decide) ?_
    show Steps p.tables e below (s₁.setTop (mkF m 63 #[.val (.int p1)] [])) _
    refine XS.iloadN X0.here hx rfl (hb hby d1_63) rfl ?_
    show Steps p.tables e below (s₁.setTop (mkF m 64 #[.val (.int p1)] [(.int p1)])) _
    refine XS.bipush X0.here hx rfl (hb hby d1_64) ?_
    show Steps p.tables e below (s₁.setTop (mkF m 66 #[.val (.int p1)] [(.int (7 : Int32)), (.int p1)])) _
    refine XS.icmpYes X0.here hx rfl (pc0 := 66) (pc' := 73) rfl (hb hby d1_66) rfl (feq hn7).2 (by decide) (by decide) ?_
    show Steps p.tables e below (s₁.setTop (mkF m 73 #[.val (.int p1)] [])) _
    refine XS.iloadN X0.here hx rfl (hb hby d1_73) rfl ?_
    show Steps p.tables e below (s₁.setTop (mkF m 74 #[.val (.int p1)] [(.int p1)])) _
    refine XS.bipush X0.here hx rfl (hb hby d1_74) ?_
    show Steps p.tables e below (s₁.setTop (mkF m 76 #[.val (.int p1)] [(.int (8 : Int32)), (.int p1)])) _
    refine XS.icmpYes X0.here hx rfl (pc0 := 76) (pc' := 83) rfl (hb hby d1_76) rfl (feq hn8).2 (by decide) (by decide) ?_
    show Steps p.tables e below (s₁.setTop (mkF m 83 #[.val (.int p1)] [])) _
    refine XS.iloadN X0.here hx rfl (hb hby d1_83) rfl ?_
    show Steps p.tables e below (s₁.setTop (mkF m 84 #[.val (.int p1)] [(.int p1)])) _
    refine XS.bipush X0.here hx rfl (hb hby d1_84) ?_
    show Steps p.tables e below (s₁.setTop (mkF m 86 #[.val (.int p1)] [(.int (9 : Int32)), (.int p1)])) _
    refine XS.icmpYes X0.here hx rfl (pc0 := 86) (pc' := 93) rfl (hb hby d1_86) rfl (feq hn9).2 (by decide) (by decide) ?_
    show Steps p.tables e below (s₁.setTop (mkF m 93 #[.val (.int p1)] [])) _
    refine XS.iloadN X0.here hx rfl (hb hby d1_93) rfl ?_
    show Steps p.tables e below (s₁.setTop (mkF m 94 #[.val (.int p1)] [(.int p1)])) _
    refine XS.bipush X0.here hx rfl (hb hby d1_94) ?_
    show Steps p.tables e below (s₁.setTop (mkF m 96 #[.val (.int p1)] [(.int (10 : Int32)), (.int p1)])) _
    refine XS.icmpYes X0.here hx rfl (pc0 := 96) (pc' := 103) rfl (hb hby d1_96) rfl (feq hn10).2 (by decide) (by decide) ?_
    show Steps p.tables e below (s₁.setTop (mkF m 103 #[.val (.int p1)] [])) _
    refine XS.iloadN X0.here hx rfl (hb hby d1_103) rfl ?_
    show Steps p.tables e below (s₁.setTop (mkF m 104 #[.val (.int p1)] [(.int p1)])) _
    refine XS.bipush X0.here hx rfl (hb hby d1_104) ?_
    show Steps p.tables e below (s₁.setTop (mkF m 106 #[.val (.int p1)] [(.int (11 : Int32)), (.int p1)])) _
    refine XS.icmpYes X0.here hx rfl (pc0 := 106) (pc' := 113) rfl (hb hby d1_106) rfl (feq hn11).2 (by decide) (by decide) ?_
    show Steps p.tables e below (s₁.setTop (mkF m 113 #[.val (.int p1)] [])) _
    refine XS.iloadN X0.here hx rfl (hb hby d1_113) rfl ?_
    show Steps p.tables e below (s₁.setTop (mkF m 114 #[.val (.int p1)] [(.int p1)])) _
    refine XS.bipush X0.here hx rfl (hb hby d1_114) ?_
    show Steps p.tables e below (s₁.setTop (mkF m 116 #[.val (.int p1)] [(.int (12 : Int32)), (.int p1)])) _
    refine XS.icmpNo X0.here hx rfl (hb hby d1_116) rfl (teq hn12).2 ?_
    show Steps p.tables e below (s₁.setTop (mkF m 119 #[.val (.int p1)] [])) _
    refine st1 _ ?_
    show Steps p.tables e below (T1.setTop (mkF m 122 #[.val (.int p1)] [(.ref w_RESULT_TYPE)])) _
    exact retOut X1 hx Bd.returns rfl (Or.inr (Or.inr (Or.inr (Or.inr ⟨rfl, rfl, rfl⟩)))) (hb hby d1_122) hr
  · show Q_rm_pk12 Z p1 w_RESULT_TYPE h0 n0 _ T1.heap _
    rw [e1]
    exact ⟨rfl, N0, rfl⟩
theorem d1_123 : decode method_3_code 123 = .ok (.getstatic 60, 3) := by decide +kernel
theorem d1_126 : decode method_3_code 126 = .ok (.areturn, 1) := by decide +kernel
theorem ef_rm_pk13 (m : MethodId) (x0 : Int32) : entryFrame m #[(.int x0)] 1 = mkF m 0 #[.val (.int x0)] [] := by first | (simp [entryFrame, mkF, argsToLocals, Value.category]; done) | rfl
def Q_rm_pk13 (Z : State) (p1 : Int32) (w_VALUE_MOMENT : Addr) (h0 : Heap) (n0 : Nat) (v : Option Value) (h : Heap) (L : List Loc) : Prop := v = some (.ref w_VALUE_MOMENT) ∧ Fr n0 L ∧ h = h0
set_option maxRecDepth 65536 in
set_option maxHeartbeats 40000000 in
theorem rm_pk13 (l : Launch) (Z : State) (a0 : Array Value) (hw : ∀ d ∈ tables_1, d.before a0 Z = true) (ws : List Jvm.Cond) (p1 : Int32) (w_VALUE_MOMENT : Addr) (h0 : Heap) (n0 : Nat) (Z0 : n0 ≤ h0.size) (pr0 : Sta Z Z.heap "com/example/indberet/indberet/Lpr3Class$Kind" "VALUE_MOMENT" "Lcom/example/indberet/indberet/Lpr3Class$Kind;" (.ref w_VALUE_MOMENT)) (pr1 : Old Z n0 h0) (hn0 : ¬ (p1 = (0 : Int32))) (hn1 : ¬ (p1 = (1 : Int32))) (hn2 : ¬ (p1 = (2 : Int32))) (hn3 : ¬ (p1 = (3 : Int32))) (hn4 : ¬ (p1 = (4 : Int32))) (hn5 : ¬ (p1 = (5 : Int32))) (hn6 : ¬ (p1 = (6 : Int32))) (hn7 : ¬ (p1 = (7 : Int32))) (hn8 : ¬ (p1 = (8 : Int32))) (hn9 : ¬ (p1 = (9 : Int32))) (hn10 : ¬ (p1 = (10 : Int32))) (hn11 : ¬ (p1 = (11 : Int32))) (hn12 : ¬ (p1 = (12 : Int32))) :
    MetFree l (⟨"com/example/indberet/indberet/KindKeepsTextPinLaw", "kind", "(I)Lcom/example/indberet/indberet/Lpr3Class$Kind;"⟩ : MethodName) (head1 (Jvm.Cond.code (⟨"com/example/indberet/indberet/KindKeepsTextPinLaw", "kind", "(I)Lcom/example/indberet/indberet/Lpr3Class$Kind;"⟩ : MethodName) method_3_code 1 (some (.object "com/example/indberet/indberet/Lpr3Class$Kind")) :: ws) ({ frames := 0, cells := 0, slots := 0, locals := 0 } : Room)) (fun a U => a = #[(.int p1)] ∧ Z.Warmed39 U.vm ∧ U.heap = h0) (fun _ _ _ _ _ => True) (fun _ U o U' => ∃ v L, o = .returned v ∧ Q_rm_pk13 Z p1 w_VALUE_MOMENT h0 n0 v U'.heap L ∧ FrameEnd U o U' L ({ frames := 0, cells := 0, slots := 0, locals := 0 } : Room).cells ({ frames := 0, cells := 0, slots := 0, locals := 0 } : Room).slots) := by
  refine MetFree.of_bodySF (plainFor_of_name pn_com_example_indberet_indberet_KindKeepsTextPinLaw) hisR ?_
  intro p e s m args below meth c s₁ Bd hml0 hP hK
  obtain ⟨rfl, hZ, hh⟩ := hP
  have hx := Bd.exec
  have hby := Bd.bytes
  have hml : c.maxLocals = 1 := hml0
  have hown : s.vm.findClass "com/example/indberet/indberet/KindKeepsTextPinLaw" = some m.cls := findClass_of_methodNamed Bd.named
  have hnm := (name_of_methodNamed Bd.named Bd.method).1
  have X0 : Stand p l e ({ frames := 0, cells := 0, slots := 0, locals := 0 } : Room) s m #[(.int p1)] below meth c s₁ [] 0 0 := Stand.of_body Bd
  have e0 : s₁.heap = h0 := by rw [← hh, Bd.state]; rfl
  have N0 := Fr.nil n0
  have pre0 : ∀ t, Steps p.tables e below (s₁.setTop (mkF m 0 #[.val (.int p1)] [])) t → Steps p.tables e below (s₁.setTop (entryFrame m #[(.int p1)] 1)) t := fun t k => castTop (ef_rm_pk13 m p1) k
  obtain ⟨T1, X1, e1, st1⟩ := getS2 X0 hx hZ hown (host := "") (Or.inl (hw _ (List.mem_of_getElem? (i := 24) rfl))) Via.refl e0 (pr0.ext pr1.2) (g := (mkF m 123 #[.val (.int p1)] [])) rfl (hb hby d1_123)
  obtain ⟨fs, hr, hrun, hended, hW, hsame⟩ := X1.leave (v := some (.ref w_VALUE_MOMENT)) (fun h => by rw [Bd.returns] at h; cases h)
  refine ⟨_, _, pre0 _ ?_, hrun, hended, _, _, rfl, ?_, ⟨_, rfl⟩, hW, hsame.mono (by decide) (by decide)⟩
  · show Steps p.tables e below (s₁.setTop (mkF m 0 #[.val (.int p1)] [])) _
    refine XS.iloadN X0.here hx rfl (hb hby d1_0) rfl ?_
    show Steps p.tables e below (s₁.setTop (mkF m 1 #[.val (.int p1)] [(.int p1)])) _
    refine XS.ifYes X0.here hx rfl (pc0 := 1) (pc' := 8) rfl (hb hby d1_1) rfl ((if0 _ _).trans (feq hn0).2) (by decide) (by decide) ?_
    show Steps p.tables e below (s₁.setTop (mkF m 8 #[.val (.int p1)] [])) _
    refine XS.iloadN X0.here hx rfl (hb hby d1_8) rfl ?_
    show Steps p.tables e below (s₁.setTop (mkF m 9 #[.val (.int p1)] [(.int p1)])) _
    refine XS.iconst X0.here hx rfl (hb hby d1_9) ?_
    show Steps p.tables e below (s₁.setTop (mkF m 10 #[.val (.int p1)] [(.int (1 : Int32)), (.int p1)])) _
    refine XS.icmpYes X0.here hx rfl (pc0 := 10) (pc' := 17) rfl (hb hby d1_10) rfl (feq hn1).2 (by decide) (by decide) ?_
    show Steps p.tables e below (s₁.setTop (mkF m 17 #[.val (.int p1)] [])) _
    refine XS.iloadN X0.here hx rfl (hb hby d1_17) rfl ?_
    show Steps p.tables e below (s₁.setTop (mkF m 18 #[.val (.int p1)] [(.int p1)])) _
    refine XS.iconst X0.here hx rfl (hb hby d1_18) ?_
    show Steps p.tables e below (s₁.setTop (mkF m 19 #[.val (.int p1)] [(.int (2 : Int32)), (.int p1)])) _
    refine XS.icmpYes X0.here hx rfl (pc0 := 19) (pc' := 26) rfl (hb hby d1_19) rfl (feq hn2).2 (by decide) (by decide) ?_
    show Steps p.tables e below (s₁.setTop (mkF m 26 #[.val (.int p1)] [])) _
    refine XS.iloadN X0.here hx rfl (hb hby d1_26) rfl ?_
    show Steps p.tables e below (s₁.setTop (mkF m 27 #[.val (.int p1)] [(.int p1)])) _
    refine XS.iconst X0.here hx rfl (hb hby d1_27) ?_
    show Steps p.tables e below (s₁.setTop (mkF m 28 #[.val (.int p1)] [(.int (3 : Int32)), (.int p1)])) _
    refine XS.icmpYes X0.here hx rfl (pc0 := 28) (pc' := 35) rfl (hb hby d1_28) rfl (feq hn3).2 (by decide) (by decide) ?_
    show Steps p.tables e below (s₁.setTop (mkF m 35 #[.val (.int p1)] [])) _
    refine XS.iloadN X0.here hx rfl (hb hby d1_35) rfl ?_
    show Steps p.tables e below (s₁.setTop (mkF m 36 #[.val (.int p1)] [(.int p1)])) _
    refine XS.iconst X0.here hx rfl (hb hby d1_36) ?_
    show Steps p.tables e below (s₁.setTop (mkF m 37 #[.val (.int p1)] [(.int (4 : Int32)), (.int p1)])) _
    refine XS.icmpYes X0.here hx rfl (pc0 := 37) (pc' := 44) rfl (hb hby d1_37) rfl (feq hn4).2 (by decide) (by decide) ?_
    show Steps p.tables e below (s₁.setTop (mkF m 44 #[.val (.int p1)] [])) _
    refine XS.iloadN X0.here hx rfl (hb hby d1_44) rfl ?_
    show Steps p.tables e below (s₁.setTop (mkF m 45 #[.val (.int p1)] [(.int p1)])) _
    refine XS.iconst X0.here hx rfl (hb hby d1_45) ?_
    show Steps p.tables e below (s₁.setTop (mkF m 46 #[.val (.int p1)] [(.int (5 : Int32)), (.int p1)])) _
    refine XS.icmpYes X0.here hx rfl (pc0 := 46) (pc' := 53) rfl (hb hby d1_46) rfl (feq hn5).2 (by decide) (by decide) ?_
    show Steps p.tables e below (s₁.setTop (mkF m 53 #[.val (.int p1)] [])) _
    refine XS.iloadN X0.here hx rfl (hb hby d1_53) rfl ?_
    show Steps p.tables e below (s₁.setTop (mkF m 54 #[.val (.int p1)] [(.int p1)])) _
    refine XS.bipush X0.here hx rfl (hb hby d1_54) ?_
    show Steps p.tables e below (s₁.setTop (mkF m 56 #[.val (.int p1)] [(.int (6 : Int32)), (.int p1)])) _
    refine XS.icmpYes X0.here hx rfl (pc0 := 56) (pc' := 63) rfl (hb hby d1_56) rfl (feq hn6).2 (by decide) (by decide) ?_
    show Steps p.tables e below (s₁.setTop (mkF m 63 #[.val (.int p1)] [])) _
    refine XS.iloadN X0.here hx rfl (hb hby d1_63) rfl ?_
    show Steps p.tables e below (s₁.setTop (mkF m 64 #[.val (.int p1)] [(.int p1)])) _
    refine XS.bipush X0.here hx rfl (hb hby d1_64) ?_
    show Steps p.tables e below (s₁.setTop (mkF m 66 #[.val (.int p1)] [(.int (7 : Int32)), (.int p1)])) _
    refine XS.icmpYes X0.here hx rfl (pc0 := 66) (pc' := 73) rfl (hb hby d1_66) rfl (feq hn7).2 (by decide) (by decide) ?_
    show Steps p.tables e below (s₁.setTop (mkF m 73 #[.val (.int p1)] [])) _
    refine XS.iloadN X0.here hx rfl (hb hby d1_73) rfl ?_
    show Steps p.tables e below (s₁.setTop (mkF m 74 #[.val (.int p1)] [(.int p1)])) _
    refine XS.bipush X0.here hx rfl (hb hby d1_74) ?_
    show Steps p.tables e below (s₁.setTop (mkF m 76 #[.val (.int p1)] [(.int (8 : Int32)), (.int p1)])) _
    refine XS.icmpYes X0.here hx rfl (pc0 := 76) (pc' := 83) rfl (hb hby d1_76) rfl (feq hn8).2 (by decide) (by decide) ?_
    show Steps p.tables e below (s₁.setTop (mkF m 83 #[.val (.int p1)] [])) _
    refine XS.iloadN X0.here hx rfl (hb hby d1_83) rfl ?_
    show Steps p.tables e below (s₁.setTop (mkF m 84 #[.val (.int p1)] [(.int p1)])) _
    refine XS.bipush X0.here hx rfl (hb hby d1_84) ?_
    show Steps p.tables e below (s₁.setTop (mkF m 86 #[.val (.int p1)] [(.int (9 : Int32)), (.int p1)])) _
    refine XS.icmpYes X0.here hx rfl (pc0 := 86) (pc' := 93) rfl (hb hby d1_86) rfl (feq hn9).2 (by decide) (by decide) ?_
    show Steps p.tables e below (s₁.setTop (mkF m 93 #[.val (.int p1)] [])) _
    refine XS.iloadN X0.here hx rfl (hb hby d1_93) rfl ?_
    show Steps p.tables e below (s₁.setTop (mkF m 94 #[.val (.int p1)] [(.int p1)])) _
    refine XS.bipush X0.here hx rfl (hb hby d1_94) ?_
    show Steps p.tables e below (s₁.setTop (mkF m 96 #[.val (.int p1)] [(.int (10 : Int32)), (.int p1)])) _
    refine XS.icmpYes X0.here hx rfl (pc0 := 96) (pc' := 103) rfl (hb hby d1_96) rfl (feq hn10).2 (by decide) (by decide) ?_
    show Steps p.tables e below (s₁.setTop (mkF m 103 #[.val (.int p1)] [])) _
    refine XS.iloadN X0.here hx rfl (hb hby d1_103) rfl ?_
    show Steps p.tables e below (s₁.setTop (mkF m 104 #[.val (.int p1)] [(.int p1)])) _
    refine XS.bipush X0.here hx rfl (hb hby d1_104) ?_
    show Steps p.tables e below (s₁.setTop (mkF m 106 #[.val (.int p1)] [(.int (11 : Int32)), (.int p1)])) _
    refine XS.icmpYes X0.here hx rfl (pc0 := 106) (pc' := 113) rfl (hb hby d1_106) rfl (feq hn11).2 (by decide) (by decide) ?_
    show Steps p.tables e below (s₁.setTop (mkF m 113 #[.val (.int p1)] [])) _
    refine XS.iloadN X0.here hx rfl (hb hby d1_113) rfl ?_
    show Steps p.tables e below (s₁.setTop (mkF m 114 #[.val (.int p1)] [(.int p1)])) _
    refine XS.bipush X0.here hx rfl (hb hby d1_114) ?_
    show Steps p.tables e below (s₁.setTop (mkF m 116 #[.val (.int p1)] [(.int (12 : Int32)), (.int p1)])) _
    refine XS.icmpYes X0.here hx rfl (pc0 := 116) (pc' := 123) rfl (hb hby d1_116) rfl (feq hn12).2 (by decide) (by decide) ?_
    show Steps p.tables e below (s₁.setTop (mkF m 123 #[.val (.int p1)] [])) _
    refine st1 _ ?_
    show Steps p.tables e below (T1.setTop (mkF m 126 #[.val (.int p1)] [(.ref w_VALUE_MOMENT)])) _
    exact retOut X1 hx Bd.returns rfl (Or.inr (Or.inr (Or.inr (Or.inr ⟨rfl, rfl, rfl⟩)))) (hb hby d1_126) hr
  · show Q_rm_pk13 Z p1 w_VALUE_MOMENT h0 n0 _ T1.heap _
    rw [e1]
    exact ⟨rfl, N0, rfl⟩
theorem d2_0 : decode prog_68_method_6_code 0 = .ok (.aload_n 0, 1) := by decide +kernel
theorem d2_1 : decode prog_68_method_6_code 1 = .ok (.getstatic 10, 3) := by decide +kernel
theorem d2_4 : decode prog_68_method_6_code 4 = .ok (.if_acmp .eq 24, 3) := by decide +kernel
theorem d2_28 : decode prog_68_method_6_code 28 = .ok (.iconst 1, 1) := by decide +kernel
theorem d2_29 : decode prog_68_method_6_code 29 = .ok (.goto 4, 3) := by decide +kernel
theorem d2_33 : decode prog_68_method_6_code 33 = .ok (.ireturn, 1) := by decide +kernel
theorem pn_com_example_indberet_indberet_Lpr3Class_Kind : plainName "com/example/indberet/indberet/Lpr3Class$Kind" = true := by first | (simp [plainName, overriddenIn]; done) | decide +kernel
theorem ef_rm_t0 (m : MethodId) (x0 : Addr) : entryFrame m #[(.ref x0)] 1 = mkF m 0 #[.val (.ref x0)] [] := by first | (simp [entryFrame, mkF, argsToLocals, Value.category]; done) | rfl
def Q_rm_t0 (Z : State) (w_VALUE : Addr) (h0 : Heap) (n0 : Nat) (v : Option Value) (h : Heap) (L : List Loc) : Prop := v = some (.int (1 : Int32)) ∧ Fr n0 L ∧ h = h0
set_option maxRecDepth 65536 in
set_option maxHeartbeats 40000000 in
theorem rm_t0 (l : Launch) (Z : State) (a0 : Array Value) (hw : ∀ d ∈ tables_1, d.before a0 Z = true) (ws : List Jvm.Cond) (w_VALUE : Addr) (h0 : Heap) (n0 : Nat) (Z0 : n0 ≤ h0.size) (pr0 : Sta Z Z.heap "com/example/indberet/indberet/Lpr3Class$Kind" "VALUE" "Lcom/example/indberet/indberet/Lpr3Class$Kind;" (.ref w_VALUE)) (pr1 : Old Z n0 h0) :
    MetFree l (⟨"com/example/indberet/indberet/Lpr3Class$Kind", "keepsText", "()Z"⟩ : MethodName) (head1 (Jvm.Cond.code (⟨"com/example/indberet/indberet/Lpr3Class$Kind", "keepsText", "()Z"⟩ : MethodName) prog_68_method_6_code 1 (some .boolean) :: ws) ({ frames := 0, cells := 0, slots := 0, locals := 0 } : Room)) (fun a U => a = #[(.ref w_VALUE)] ∧ Z.Warmed39 U.vm ∧ U.heap = h0) (fun _ _ _ _ _ => True) (fun _ U o U' => ∃ v L, o = .returned v ∧ Q_rm_t0 Z w_VALUE h0 n0 v U'.heap L ∧ FrameEnd U o U' L ({ frames := 0, cells := 0, slots := 0, locals := 0 } : Room).cells ({ frames := 0, cells := 0, slots := 0, locals := 0 } : Room).slots) := by
  refine MetFree.of_bodySF (plainFor_of_name pn_com_example_indberet_indberet_Lpr3Class_Kind) hisR ?_
  intro p e s m args below meth c s₁ Bd hml0 hP hK
  obtain ⟨rfl, hZ, hh⟩ := hP
  have hx := Bd.exec
  have hby := Bd.bytes
  have hml : c.maxLocals = 1 := hml0
  have hown : s.vm.findClass "com/example/indberet/indberet/Lpr3Class$Kind" = some m.cls := findClass_of_methodNamed Bd.named
  have hnm := (name_of_methodNamed Bd.named Bd.method).1
  have X0 : Stand p l e ({ frames := 0, cells := 0, slots := 0, locals := 0 } : Room) s m #[(.ref w_VALUE)] below meth c s₁ [] 0 0 := Stand.of_body Bd
  have e0 : s₁.heap = h0 := by rw [← hh, Bd.state]; rfl
  have N0 := Fr.nil n0
  have pre0 : ∀ t, Steps p.tables e below (s₁.setTop (mkF m 0 #[.val (.ref w_VALUE)] [])) t → Steps p.tables e below (s₁.setTop (entryFrame m #[(.ref w_VALUE)] 1)) t := fun t k => castTop (ef_rm_t0 m w_VALUE) k
  obtain ⟨T1, X1, e1, st1⟩ := getS2 X0 hx hZ hown (host := "") (Or.inl (hw _ (List.mem_of_getElem? (i := 13) rfl))) Via.refl e0 (pr0.ext pr1.2) (g := (mkF m 1 #[.val (.ref w_VALUE)] [(.ref w_VALUE)])) rfl (hb hby d2_1)
  obtain ⟨fs, hr, hrun, hended, hW, hsame⟩ := X1.leave (v := some (.int (1 : Int32))) (fun h => by rw [Bd.returns] at h; cases h)
  refine ⟨_, _, pre0 _ ?_, hrun, hended, _, _, rfl, ?_, ⟨_, rfl⟩, hW, hsame.mono (by decide) (by decide)⟩
  · show Steps p.tables e below (s₁.setTop (mkF m 0 #[.val (.ref w_VALUE)] [])) _
    refine XS.aloadN X0.here hx rfl (hb hby d2_0) rfl rfl ?_
    show Steps p.tables e below (s₁.setTop (mkF m 1 #[.val (.ref w_VALUE)] [(.ref w_VALUE)])) _
    refine st1 _ ?_
    show Steps p.tables e below (T1.setTop (mkF m 4 #[.val (.ref w_VALUE)] [(.ref w_VALUE), (.ref w_VALUE)])) _
    refine Jvm.RoadKit.acmp (g := (mkF m 4 #[.val (.ref w_VALUE)] [(.ref w_VALUE), (.ref w_VALUE)])) X1 hx rfl rfl rfl (pc0 := 4) (pc' := 28) (same := true) rfl (hb hby d2_4) rfl (decide_eq_true rfl) (by decide) (by decide) ?_
    show Steps p.tables e below (T1.setTop (mkF m 28 #[.val (.ref w_VALUE)] [])) _
    refine XS.iconst X1.here hx rfl (hb hby d2_28) ?_
    show Steps p.tables e below (T1.setTop (mkF m 29 #[.val (.ref w_VALUE)] [(.int (1 : Int32))])) _
    refine XS.goto X1.here hx rfl (pc0 := 29) (pc' := 33) rfl (hb hby d2_29) (by decide) (by decide) ?_
    show Steps p.tables e below (T1.setTop (mkF m 33 #[.val (.ref w_VALUE)] [(.int (1 : Int32))])) _
    exact retN X1 hx (t := .boolean) Bd.returns (by simp) (hb hby d2_33) hr
  · show Q_rm_t0 Z w_VALUE h0 n0 _ T1.heap _
    rw [e1]
    exact ⟨rfl, N0, rfl⟩
theorem d2_7 : decode prog_68_method_6_code 7 = .ok (.aload_n 0, 1) := by decide +kernel
theorem d2_8 : decode prog_68_method_6_code 8 = .ok (.getstatic 13, 3) := by decide +kernel
theorem d2_11 : decode prog_68_method_6_code 11 = .ok (.if_acmp .eq 17, 3) := by decide +kernel
theorem ef_rm_t1 (m : MethodId) (x0 : Addr) : entryFrame m #[(.ref x0)] 1 = mkF m 0 #[.val (.ref x0)] [] := by first | (simp [entryFrame, mkF, argsToLocals, Value.category]; done) | rfl
def Q_rm_t1 (Z : State) (w_REFERENCE : Addr) (w_VALUE : Addr) (h0 : Heap) (n0 : Nat) (v : Option Value) (h : Heap) (L : List Loc) : Prop := v = some (.int (1 : Int32)) ∧ Fr n0 L ∧ h = h0
set_option maxRecDepth 65536 in
set_option maxHeartbeats 40000000 in
theorem rm_t1 (l : Launch) (Z : State) (a0 : Array Value) (hw : ∀ d ∈ tables_1, d.before a0 Z = true) (ws : List Jvm.Cond) (w_REFERENCE : Addr) (w_VALUE : Addr) (h0 : Heap) (n0 : Nat) (Z0 : n0 ≤ h0.size) (pr0 : Sta Z Z.heap "com/example/indberet/indberet/Lpr3Class$Kind" "VALUE" "Lcom/example/indberet/indberet/Lpr3Class$Kind;" (.ref w_VALUE)) (pr1 : Sta Z Z.heap "com/example/indberet/indberet/Lpr3Class$Kind" "REFERENCE" "Lcom/example/indberet/indberet/Lpr3Class$Kind;" (.ref w_REFERENCE)) (pr2 : Old Z n0 h0) (pr3 : w_REFERENCE ≠ w_VALUE) :
    MetFree l (⟨"com/example/indberet/indberet/Lpr3Class$Kind", "keepsText", "()Z"⟩ : MethodName) (head1 (Jvm.Cond.code (⟨"com/example/indberet/indberet/Lpr3Class$Kind", "keepsText", "()Z"⟩ : MethodName) prog_68_method_6_code 1 (some .boolean) :: ws) ({ frames := 0, cells := 0, slots := 0, locals := 0 } : Room)) (fun a U => a = #[(.ref w_REFERENCE)] ∧ Z.Warmed39 U.vm ∧ U.heap = h0) (fun _ _ _ _ _ => True) (fun _ U o U' => ∃ v L, o = .returned v ∧ Q_rm_t1 Z w_REFERENCE w_VALUE h0 n0 v U'.heap L ∧ FrameEnd U o U' L ({ frames := 0, cells := 0, slots := 0, locals := 0 } : Room).cells ({ frames := 0, cells := 0, slots := 0, locals := 0 } : Room).slots) := by
  refine MetFree.of_bodySF (plainFor_of_name pn_com_example_indberet_indberet_Lpr3Class_Kind) hisR ?_
  intro p e s m args below meth c s₁ Bd hml0 hP hK
  obtain ⟨rfl, hZ, hh⟩ := hP
  have hx := Bd.exec
  have hby := Bd.bytes
  have hml : c.maxLocals = 1 := hml0
  have hown : s.vm.findClass "com/example/indberet/indberet/Lpr3Class$Kind" = some m.cls := findClass_of_methodNamed Bd.named
  have hnm := (name_of_methodNamed Bd.named Bd.method).1
  have X0 : Stand p l e ({ frames := 0, cells := 0, slots := 0, locals := 0 } : Room) s m #[(.ref w_REFERENCE)] below meth c s₁ [] 0 0 := Stand.of_body Bd
  have e0 : s₁.heap = h0 := by rw [← hh, Bd.state]; rfl
  have N0 := Fr.nil n0
  have pre0 : ∀ t, Steps p.tables e below (s₁.setTop (mkF m 0 #[.val (.ref w_REFERENCE)] [])) t → Steps p.tables e below (s₁.setTop (entryFrame m #[(.ref w_REFERENCE)] 1)) t := fun t k => castTop (ef_rm_t1 m w_REFERENCE) k
  obtain ⟨T1, X1, e1, st1⟩ := getS2 X0 hx hZ hown (host := "") (Or.inl (hw _ (List.mem_of_getElem? (i := 13) rfl))) Via.refl e0 (pr0.ext pr2.2) (g := (mkF m 1 #[.val (.ref w_REFERENCE)] [(.ref w_REFERENCE)])) rfl (hb hby d2_1)
  obtain ⟨T2, X2, e2, st2⟩ := getS2 X1 hx hZ hown (host := "") (Or.inl (hw _ (List.mem_of_getElem? (i := 15) rfl))) Via.refl e1 (pr1.ext pr2.2) (g := (mkF m 8 #[.val (.ref w_REFERENCE)] [(.ref w_REFERENCE)])) rfl (hb hby d2_8)
  obtain ⟨fs, hr, hrun, hended, hW, hsame⟩ := X2.leave (v := some (.int (1 : Int32))) (fun h => by rw [Bd.returns] at h; cases h)
  refine ⟨_, _, pre0 _ ?_, hrun, hended, _, _, rfl, ?_, ⟨_, rfl⟩, hW, hsame.mono (by decide) (by decide)⟩
  · show Steps p.tables e below (s₁.setTop (mkF m 0 #[.val (.ref w_REFERENCE)] [])) _
    refine XS.aloadN X0.here hx rfl (hb hby d2_0) rfl rfl ?_
    show Steps p.tables e below (s₁.setTop (mkF m 1 #[.val (.ref w_REFERENCE)] [(.ref w_REFERENCE)])) _
    refine st1 _ ?_
    show Steps p.tables e below (T1.setTop (mkF m 4 #[.val (.ref w_REFERENCE)] [(.ref w_VALUE), (.ref w_REFERENCE)])) _
    refine Jvm.RoadKit.acmp (g := (mkF m 4 #[.val (.ref w_REFERENCE)] [(.ref w_VALUE), (.ref w_REFERENCE)])) X1 hx rfl rfl rfl (pc0 := 4) (pc' := 7) (same := false) rfl (hb hby d2_4) rfl (decide_eq_false fun q => pr3 (Value.ref.inj q)) (by decide) (by decide) ?_
    show Steps p.tables e below (T1.setTop (mkF m 7 #[.val (.ref w_REFERENCE)] [])) _
    refine XS.aloadN X1.here hx rfl (hb hby d2_7) rfl rfl ?_
    show Steps p.tables e below (T1.setTop (mkF m 8 #[.val (.ref w_REFERENCE)] [(.ref w_REFERENCE)])) _
    refine st2 _ ?_
    show Steps p.tables e below (T2.setTop (mkF m 11 #[.val (.ref w_REFERENCE)] [(.ref w_REFERENCE), (.ref w_REFERENCE)])) _
    refine Jvm.RoadKit.acmp (g := (mkF m 11 #[.val (.ref w_REFERENCE)] [(.ref w_REFERENCE), (.ref w_REFERENCE)])) X2 hx rfl rfl rfl (pc0 := 11) (pc' := 28) (same := true) rfl (hb hby d2_11) rfl (decide_eq_true rfl) (by decide) (by decide) ?_
    show Steps p.tables e below (T2.setTop (mkF m 28 #[.val (.ref w_REFERENCE)] [])) _
    refine XS.iconst X2.here hx rfl (hb hby d2_28) ?_
    show Steps p.tables e below (T2.setTop (mkF m 29 #[.val (.ref w_REFERENCE)] [(.int (1 : Int32))])) _
    refine XS.goto X2.here hx rfl (pc0 := 29) (pc' := 33) rfl (hb hby d2_29) (by decide) (by decide) ?_
    show Steps p.tables e below (T2.setTop (mkF m 33 #[.val (.ref w_REFERENCE)] [(.int (1 : Int32))])) _
    exact retN X2 hx (t := .boolean) Bd.returns (by simp) (hb hby d2_33) hr
  · show Q_rm_t1 Z w_REFERENCE w_VALUE h0 n0 _ T2.heap _
    rw [e2]
    exact ⟨rfl, N0, rfl⟩
theorem d2_14 : decode prog_68_method_6_code 14 = .ok (.aload_n 0, 1) := by decide +kernel
theorem d2_15 : decode prog_68_method_6_code 15 = .ok (.getstatic 16, 3) := by decide +kernel
theorem d2_18 : decode prog_68_method_6_code 18 = .ok (.if_acmp .eq 10, 3) := by decide +kernel
theorem ef_rm_t2 (m : MethodId) (x0 : Addr) : entryFrame m #[(.ref x0)] 1 = mkF m 0 #[.val (.ref x0)] [] := by first | (simp [entryFrame, mkF, argsToLocals, Value.category]; done) | rfl
def Q_rm_t2 (Z : State) (w_LINK : Addr) (w_VALUE : Addr) (w_REFERENCE : Addr) (h0 : Heap) (n0 : Nat) (v : Option Value) (h : Heap) (L : List Loc) : Prop := v = some (.int (1 : Int32)) ∧ Fr n0 L ∧ h = h0
set_option maxRecDepth 65536 in
set_option maxHeartbeats 40000000 in
theorem rm_t2 (l : Launch) (Z : State) (a0 : Array Value) (hw : ∀ d ∈ tables_1, d.before a0 Z = true) (ws : List Jvm.Cond) (w_LINK : Addr) (w_VALUE : Addr) (w_REFERENCE : Addr) (h0 : Heap) (n0 : Nat) (Z0 : n0 ≤ h0.size) (pr0 : Sta Z Z.heap "com/example/indberet/indberet/Lpr3Class$Kind" "VALUE" "Lcom/example/indberet/indberet/Lpr3Class$Kind;" (.ref w_VALUE)) (pr1 : Sta Z Z.heap "com/example/indberet/indberet/Lpr3Class$Kind" "REFERENCE" "Lcom/example/indberet/indberet/Lpr3Class$Kind;" (.ref w_REFERENCE)) (pr2 : Sta Z Z.heap "com/example/indberet/indberet/Lpr3Class$Kind" "LINK" "Lcom/example/indberet/indberet/Lpr3Class$Kind;" (.ref w_LINK)) (pr3 : Old Z n0 h0) (pr4 : w_LINK ≠ w_VALUE) (pr5 : w_LINK ≠ w_REFERENCE) :
    MetFree l (⟨"com/example/indberet/indberet/Lpr3Class$Kind", "keepsText", "()Z"⟩ : MethodName) (head1 (Jvm.Cond.code (⟨"com/example/indberet/indberet/Lpr3Class$Kind", "keepsText", "()Z"⟩ : MethodName) prog_68_method_6_code 1 (some .boolean) :: ws) ({ frames := 0, cells := 0, slots := 0, locals := 0 } : Room)) (fun a U => a = #[(.ref w_LINK)] ∧ Z.Warmed39 U.vm ∧ U.heap = h0) (fun _ _ _ _ _ => True) (fun _ U o U' => ∃ v L, o = .returned v ∧ Q_rm_t2 Z w_LINK w_VALUE w_REFERENCE h0 n0 v U'.heap L ∧ FrameEnd U o U' L ({ frames := 0, cells := 0, slots := 0, locals := 0 } : Room).cells ({ frames := 0, cells := 0, slots := 0, locals := 0 } : Room).slots) := by
  refine MetFree.of_bodySF (plainFor_of_name pn_com_example_indberet_indberet_Lpr3Class_Kind) hisR ?_
  intro p e s m args below meth c s₁ Bd hml0 hP hK
  obtain ⟨rfl, hZ, hh⟩ := hP
  have hx := Bd.exec
  have hby := Bd.bytes
  have hml : c.maxLocals = 1 := hml0
  have hown : s.vm.findClass "com/example/indberet/indberet/Lpr3Class$Kind" = some m.cls := findClass_of_methodNamed Bd.named
  have hnm := (name_of_methodNamed Bd.named Bd.method).1
  have X0 : Stand p l e ({ frames := 0, cells := 0, slots := 0, locals := 0 } : Room) s m #[(.ref w_LINK)] below meth c s₁ [] 0 0 := Stand.of_body Bd
  have e0 : s₁.heap = h0 := by rw [← hh, Bd.state]; rfl
  have N0 := Fr.nil n0
  have pre0 : ∀ t, Steps p.tables e below (s₁.setTop (mkF m 0 #[.val (.ref w_LINK)] [])) t → Steps p.tables e below (s₁.setTop (entryFrame m #[(.ref w_LINK)] 1)) t := fun t k => castTop (ef_rm_t2 m w_LINK) k
  obtain ⟨T1, X1, e1, st1⟩ := getS2 X0 hx hZ hown (host := "") (Or.inl (hw _ (List.mem_of_getElem? (i := 13) rfl))) Via.refl e0 (pr0.ext pr3.2) (g := (mkF m 1 #[.val (.ref w_LINK)] [(.ref w_LINK)])) rfl (hb hby d2_1)
  obtain ⟨T2, X2, e2, st2⟩ := getS2 X1 hx hZ hown (host := "") (Or.inl (hw _ (List.mem_of_getElem? (i := 15) rfl))) Via.refl e1 (pr1.ext pr3.2) (g := (mkF m 8 #[.val (.ref w_LINK)] [(.ref w_LINK)])) rfl (hb hby d2_8)
  obtain ⟨T3, X3, e3, st3⟩ := getS2 X2 hx hZ hown (host := "") (Or.inl (hw _ (List.mem_of_getElem? (i := 17) rfl))) Via.refl e2 (pr2.ext pr3.2) (g := (mkF m 15 #[.val (.ref w_LINK)] [(.ref w_LINK)])) rfl (hb hby d2_15)
  obtain ⟨fs, hr, hrun, hended, hW, hsame⟩ := X3.leave (v := some (.int (1 : Int32))) (fun h => by rw [Bd.returns] at h; cases h)
  refine ⟨_, _, pre0 _ ?_, hrun, hended, _, _, rfl, ?_, ⟨_, rfl⟩, hW, hsame.mono (by decide) (by decide)⟩
  · show Steps p.tables e below (s₁.setTop (mkF m 0 #[.val (.ref w_LINK)] [])) _
    refine XS.aloadN X0.here hx rfl (hb hby d2_0) rfl rfl ?_
    show Steps p.tables e below (s₁.setTop (mkF m 1 #[.val (.ref w_LINK)] [(.ref w_LINK)])) _
    refine st1 _ ?_
    show Steps p.tables e below (T1.setTop (mkF m 4 #[.val (.ref w_LINK)] [(.ref w_VALUE), (.ref w_LINK)])) _
    refine Jvm.RoadKit.acmp (g := (mkF m 4 #[.val (.ref w_LINK)] [(.ref w_VALUE), (.ref w_LINK)])) X1 hx rfl rfl rfl (pc0 := 4) (pc' := 7) (same := false) rfl (hb hby d2_4) rfl (decide_eq_false fun q => pr4 (Value.ref.inj q)) (by decide) (by decide) ?_
    show Steps p.tables e below (T1.setTop (mkF m 7 #[.val (.ref w_LINK)] [])) _
    refine XS.aloadN X1.here hx rfl (hb hby d2_7) rfl rfl ?_
    show Steps p.tables e below (T1.setTop (mkF m 8 #[.val (.ref w_LINK)] [(.ref w_LINK)])) _
    refine st2 _ ?_
    show Steps p.tables e below (T2.setTop (mkF m 11 #[.val (.ref w_LINK)] [(.ref w_REFERENCE), (.ref w_LINK)])) _
    refine Jvm.RoadKit.acmp (g := (mkF m 11 #[.val (.ref w_LINK)] [(.ref w_REFERENCE), (.ref w_LINK)])) X2 hx rfl rfl rfl (pc0 := 11) (pc' := 14) (same := false) rfl (hb hby d2_11) rfl (decide_eq_false fun q => pr5 (Value.ref.inj q)) (by decide) (by decide) ?_
    show Steps p.tables e below (T2.setTop (mkF m 14 #[.val (.ref w_LINK)] [])) _
    refine XS.aloadN X2.here hx rfl (hb hby d2_14) rfl rfl ?_
    show Steps p.tables e below (T2.setTop (mkF m 15 #[.val (.ref w_LINK)] [(.ref w_LINK)])) _
    refine st3 _ ?_
    show Steps p.tables e below (T3.setTop (mkF m 18 #[.val (.ref w_LINK)] [(.ref w_LINK), (.ref w_LINK)])) _
    refine Jvm.RoadKit.acmp (g := (mkF m 18 #[.val (.ref w_LINK)] [(.ref w_LINK), (.ref w_LINK)])) X3 hx rfl rfl rfl (pc0 := 18) (pc' := 28) (same := true) rfl (hb hby d2_18) rfl (decide_eq_true rfl) (by decide) (by decide) ?_
    show Steps p.tables e below (T3.setTop (mkF m 28 #[.val (.ref w_LINK)] [])) _
    refine XS.iconst X3.here hx rfl (hb hby d2_28) ?_
    show Steps p.tables e below (T3.setTop (mkF m 29 #[.val (.ref w_LINK)] [(.int (1 : Int32))])) _
    refine XS.goto X3.here hx rfl (pc0 := 29) (pc' := 33) rfl (hb hby d2_29) (by decide) (by decide) ?_
    show Steps p.tables e below (T3.setTop (mkF m 33 #[.val (.ref w_LINK)] [(.int (1 : Int32))])) _
    exact retN X3 hx (t := .boolean) Bd.returns (by simp) (hb hby d2_33) hr
  · show Q_rm_t2 Z w_LINK w_VALUE w_REFERENCE h0 n0 _ T3.heap _
    rw [e3]
    exact ⟨rfl, N0, rfl⟩
theorem d2_21 : decode prog_68_method_6_code 21 = .ok (.aload_n 0, 1) := by decide +kernel
theorem d2_22 : decode prog_68_method_6_code 22 = .ok (.getstatic 37, 3) := by decide +kernel
theorem d2_25 : decode prog_68_method_6_code 25 = .ok (.if_acmp .ne 7, 3) := by decide +kernel
theorem ef_rm_t3 (m : MethodId) (x0 : Addr) : entryFrame m #[(.ref x0)] 1 = mkF m 0 #[.val (.ref x0)] [] := by first | (simp [entryFrame, mkF, argsToLocals, Value.category]; done) | rfl
def Q_rm_t3 (Z : State) (w_REPORT_NAME : Addr) (w_VALUE : Addr) (w_REFERENCE : Addr) (w_LINK : Addr) (h0 : Heap) (n0 : Nat) (v : Option Value) (h : Heap) (L : List Loc) : Prop := v = some (.int (1 : Int32)) ∧ Fr n0 L ∧ h = h0
set_option maxRecDepth 65536 in
set_option maxHeartbeats 40000000 in
theorem rm_t3 (l : Launch) (Z : State) (a0 : Array Value) (hw : ∀ d ∈ tables_1, d.before a0 Z = true) (ws : List Jvm.Cond) (w_REPORT_NAME : Addr) (w_VALUE : Addr) (w_REFERENCE : Addr) (w_LINK : Addr) (h0 : Heap) (n0 : Nat) (Z0 : n0 ≤ h0.size) (pr0 : Sta Z Z.heap "com/example/indberet/indberet/Lpr3Class$Kind" "VALUE" "Lcom/example/indberet/indberet/Lpr3Class$Kind;" (.ref w_VALUE)) (pr1 : Sta Z Z.heap "com/example/indberet/indberet/Lpr3Class$Kind" "REFERENCE" "Lcom/example/indberet/indberet/Lpr3Class$Kind;" (.ref w_REFERENCE)) (pr2 : Sta Z Z.heap "com/example/indberet/indberet/Lpr3Class$Kind" "LINK" "Lcom/example/indberet/indberet/Lpr3Class$Kind;" (.ref w_LINK)) (pr3 : Sta Z Z.heap "com/example/indberet/indberet/Lpr3Class$Kind" "REPORT_NAME" "Lcom/example/indberet/indberet/Lpr3Class$Kind;" (.ref w_REPORT_NAME)) (pr4 : Old Z n0 h0) (pr5 : w_REPORT_NAME ≠ w_VALUE) (pr6 : w_REPORT_NAME ≠ w_REFERENCE) (pr7 : w_REPORT_NAME ≠ w_LINK) :
    MetFree l (⟨"com/example/indberet/indberet/Lpr3Class$Kind", "keepsText", "()Z"⟩ : MethodName) (head1 (Jvm.Cond.code (⟨"com/example/indberet/indberet/Lpr3Class$Kind", "keepsText", "()Z"⟩ : MethodName) prog_68_method_6_code 1 (some .boolean) :: ws) ({ frames := 0, cells := 0, slots := 0, locals := 0 } : Room)) (fun a U => a = #[(.ref w_REPORT_NAME)] ∧ Z.Warmed39 U.vm ∧ U.heap = h0) (fun _ _ _ _ _ => True) (fun _ U o U' => ∃ v L, o = .returned v ∧ Q_rm_t3 Z w_REPORT_NAME w_VALUE w_REFERENCE w_LINK h0 n0 v U'.heap L ∧ FrameEnd U o U' L ({ frames := 0, cells := 0, slots := 0, locals := 0 } : Room).cells ({ frames := 0, cells := 0, slots := 0, locals := 0 } : Room).slots) := by
  refine MetFree.of_bodySF (plainFor_of_name pn_com_example_indberet_indberet_Lpr3Class_Kind) hisR ?_
  intro p e s m args below meth c s₁ Bd hml0 hP hK
  obtain ⟨rfl, hZ, hh⟩ := hP
  have hx := Bd.exec
  have hby := Bd.bytes
  have hml : c.maxLocals = 1 := hml0
  have hown : s.vm.findClass "com/example/indberet/indberet/Lpr3Class$Kind" = some m.cls := findClass_of_methodNamed Bd.named
  have hnm := (name_of_methodNamed Bd.named Bd.method).1
  have X0 : Stand p l e ({ frames := 0, cells := 0, slots := 0, locals := 0 } : Room) s m #[(.ref w_REPORT_NAME)] below meth c s₁ [] 0 0 := Stand.of_body Bd
  have e0 : s₁.heap = h0 := by rw [← hh, Bd.state]; rfl
  have N0 := Fr.nil n0
  have pre0 : ∀ t, Steps p.tables e below (s₁.setTop (mkF m 0 #[.val (.ref w_REPORT_NAME)] [])) t → Steps p.tables e below (s₁.setTop (entryFrame m #[(.ref w_REPORT_NAME)] 1)) t := fun t k => castTop (ef_rm_t3 m w_REPORT_NAME) k
  obtain ⟨T1, X1, e1, st1⟩ := getS2 X0 hx hZ hown (host := "") (Or.inl (hw _ (List.mem_of_getElem? (i := 13) rfl))) Via.refl e0 (pr0.ext pr4.2) (g := (mkF m 1 #[.val (.ref w_REPORT_NAME)] [(.ref w_REPORT_NAME)])) rfl (hb hby d2_1)
  obtain ⟨T2, X2, e2, st2⟩ := getS2 X1 hx hZ hown (host := "") (Or.inl (hw _ (List.mem_of_getElem? (i := 15) rfl))) Via.refl e1 (pr1.ext pr4.2) (g := (mkF m 8 #[.val (.ref w_REPORT_NAME)] [(.ref w_REPORT_NAME)])) rfl (hb hby d2_8)
  obtain ⟨T3, X3, e3, st3⟩ := getS2 X2 hx hZ hown (host := "") (Or.inl (hw _ (List.mem_of_getElem? (i := 17) rfl))) Via.refl e2 (pr2.ext pr4.2) (g := (mkF m 15 #[.val (.ref w_REPORT_NAME)] [(.ref w_REPORT_NAME)])) rfl (hb hby d2_15)
  obtain ⟨T4, X4, e4, st4⟩ := getS2 X3 hx hZ hown (host := "") (Or.inl (hw _ (List.mem_of_getElem? (i := 19) rfl))) Via.refl e3 (pr3.ext pr4.2) (g := (mkF m 22 #[.val (.ref w_REPORT_NAME)] [(.ref w_REPORT_NAME)])) rfl (hb hby d2_22)
  obtain ⟨fs, hr, hrun, hended, hW, hsame⟩ := X4.leave (v := some (.int (1 : Int32))) (fun h => by rw [Bd.returns] at h; cases h)
  refine ⟨_, _, pre0 _ ?_, hrun, hended, _, _, rfl, ?_, ⟨_, rfl⟩, hW, hsame.mono (by decide) (by decide)⟩
  · show Steps p.tables e below (s₁.setTop (mkF m 0 #[.val (.ref w_REPORT_NAME)] [])) _
    refine XS.aloadN X0.here hx rfl (hb hby d2_0) rfl rfl ?_
    show Steps p.tables e below (s₁.setTop (mkF m 1 #[.val (.ref w_REPORT_NAME)] [(.ref w_REPORT_NAME)])) _
    refine st1 _ ?_
    show Steps p.tables e below (T1.setTop (mkF m 4 #[.val (.ref w_REPORT_NAME)] [(.ref w_VALUE), (.ref w_REPORT_NAME)])) _
    refine Jvm.RoadKit.acmp (g := (mkF m 4 #[.val (.ref w_REPORT_NAME)] [(.ref w_VALUE), (.ref w_REPORT_NAME)])) X1 hx rfl rfl rfl (pc0 := 4) (pc' := 7) (same := false) rfl (hb hby d2_4) rfl (decide_eq_false fun q => pr5 (Value.ref.inj q)) (by decide) (by decide) ?_
    show Steps p.tables e below (T1.setTop (mkF m 7 #[.val (.ref w_REPORT_NAME)] [])) _
    refine XS.aloadN X1.here hx rfl (hb hby d2_7) rfl rfl ?_
    show Steps p.tables e below (T1.setTop (mkF m 8 #[.val (.ref w_REPORT_NAME)] [(.ref w_REPORT_NAME)])) _
    refine st2 _ ?_
    show Steps p.tables e below (T2.setTop (mkF m 11 #[.val (.ref w_REPORT_NAME)] [(.ref w_REFERENCE), (.ref w_REPORT_NAME)])) _
    refine Jvm.RoadKit.acmp (g := (mkF m 11 #[.val (.ref w_REPORT_NAME)] [(.ref w_REFERENCE), (.ref w_REPORT_NAME)])) X2 hx rfl rfl rfl (pc0 := 11) (pc' := 14) (same := false) rfl (hb hby d2_11) rfl (decide_eq_false fun q => pr6 (Value.ref.inj q)) (by decide) (by decide) ?_
    show Steps p.tables e below (T2.setTop (mkF m 14 #[.val (.ref w_REPORT_NAME)] [])) _
    refine XS.aloadN X2.here hx rfl (hb hby d2_14) rfl rfl ?_
    show Steps p.tables e below (T2.setTop (mkF m 15 #[.val (.ref w_REPORT_NAME)] [(.ref w_REPORT_NAME)])) _
    refine st3 _ ?_
    show Steps p.tables e below (T3.setTop (mkF m 18 #[.val (.ref w_REPORT_NAME)] [(.ref w_LINK), (.ref w_REPORT_NAME)])) _
    refine Jvm.RoadKit.acmp (g := (mkF m 18 #[.val (.ref w_REPORT_NAME)] [(.ref w_LINK), (.ref w_REPORT_NAME)])) X3 hx rfl rfl rfl (pc0 := 18) (pc' := 21) (same := false) rfl (hb hby d2_18) rfl (decide_eq_false fun q => pr7 (Value.ref.inj q)) (by decide) (by decide) ?_
    show Steps p.tables e below (T3.setTop (mkF m 21 #[.val (.ref w_REPORT_NAME)] [])) _
    refine XS.aloadN X3.here hx rfl (hb hby d2_21) rfl rfl ?_
    show Steps p.tables e below (T3.setTop (mkF m 22 #[.val (.ref w_REPORT_NAME)] [(.ref w_REPORT_NAME)])) _
    refine st4 _ ?_
    show Steps p.tables e below (T4.setTop (mkF m 25 #[.val (.ref w_REPORT_NAME)] [(.ref w_REPORT_NAME), (.ref w_REPORT_NAME)])) _
    refine Jvm.RoadKit.acmp (g := (mkF m 25 #[.val (.ref w_REPORT_NAME)] [(.ref w_REPORT_NAME), (.ref w_REPORT_NAME)])) X4 hx rfl rfl rfl (pc0 := 25) (pc' := 28) (same := true) rfl (hb hby d2_25) rfl (decide_eq_true rfl) (by decide) (by decide) ?_
    show Steps p.tables e below (T4.setTop (mkF m 28 #[.val (.ref w_REPORT_NAME)] [])) _
    refine XS.iconst X4.here hx rfl (hb hby d2_28) ?_
    show Steps p.tables e below (T4.setTop (mkF m 29 #[.val (.ref w_REPORT_NAME)] [(.int (1 : Int32))])) _
    refine XS.goto X4.here hx rfl (pc0 := 29) (pc' := 33) rfl (hb hby d2_29) (by decide) (by decide) ?_
    show Steps p.tables e below (T4.setTop (mkF m 33 #[.val (.ref w_REPORT_NAME)] [(.int (1 : Int32))])) _
    exact retN X4 hx (t := .boolean) Bd.returns (by simp) (hb hby d2_33) hr
  · show Q_rm_t3 Z w_REPORT_NAME w_VALUE w_REFERENCE w_LINK h0 n0 _ T4.heap _
    rw [e4]
    exact ⟨rfl, N0, rfl⟩
theorem d2_32 : decode prog_68_method_6_code 32 = .ok (.iconst 0, 1) := by decide +kernel
theorem ef_rm_tn (m : MethodId) (x0 : Addr) : entryFrame m #[(.ref x0)] 1 = mkF m 0 #[.val (.ref x0)] [] := by first | (simp [entryFrame, mkF, argsToLocals, Value.category]; done) | rfl
def Q_rm_tn (Z : State) (a1 : Addr) (w_VALUE : Addr) (w_REFERENCE : Addr) (w_LINK : Addr) (w_REPORT_NAME : Addr) (h0 : Heap) (n0 : Nat) (v : Option Value) (h : Heap) (L : List Loc) : Prop := v = some (.int (0 : Int32)) ∧ Fr n0 L ∧ h = h0
set_option maxRecDepth 65536 in
set_option maxHeartbeats 40000000 in
theorem rm_tn (l : Launch) (Z : State) (a0 : Array Value) (hw : ∀ d ∈ tables_1, d.before a0 Z = true) (ws : List Jvm.Cond) (a1 : Addr) (w_VALUE : Addr) (w_REFERENCE : Addr) (w_LINK : Addr) (w_REPORT_NAME : Addr) (h0 : Heap) (n0 : Nat) (Z0 : n0 ≤ h0.size) (pr0 : Sta Z Z.heap "com/example/indberet/indberet/Lpr3Class$Kind" "VALUE" "Lcom/example/indberet/indberet/Lpr3Class$Kind;" (.ref w_VALUE)) (pr1 : Sta Z Z.heap "com/example/indberet/indberet/Lpr3Class$Kind" "REFERENCE" "Lcom/example/indberet/indberet/Lpr3Class$Kind;" (.ref w_REFERENCE)) (pr2 : Sta Z Z.heap "com/example/indberet/indberet/Lpr3Class$Kind" "LINK" "Lcom/example/indberet/indberet/Lpr3Class$Kind;" (.ref w_LINK)) (pr3 : Sta Z Z.heap "com/example/indberet/indberet/Lpr3Class$Kind" "REPORT_NAME" "Lcom/example/indberet/indberet/Lpr3Class$Kind;" (.ref w_REPORT_NAME)) (pr4 : Old Z n0 h0) (pr5 : a1 ≠ w_VALUE) (pr6 : a1 ≠ w_REFERENCE) (pr7 : a1 ≠ w_LINK) (pr8 : a1 ≠ w_REPORT_NAME) :
    MetFree l (⟨"com/example/indberet/indberet/Lpr3Class$Kind", "keepsText", "()Z"⟩ : MethodName) (head1 (Jvm.Cond.code (⟨"com/example/indberet/indberet/Lpr3Class$Kind", "keepsText", "()Z"⟩ : MethodName) prog_68_method_6_code 1 (some .boolean) :: ws) ({ frames := 0, cells := 0, slots := 0, locals := 0 } : Room)) (fun a U => a = #[(.ref a1)] ∧ Z.Warmed39 U.vm ∧ U.heap = h0) (fun _ _ _ _ _ => True) (fun _ U o U' => ∃ v L, o = .returned v ∧ Q_rm_tn Z a1 w_VALUE w_REFERENCE w_LINK w_REPORT_NAME h0 n0 v U'.heap L ∧ FrameEnd U o U' L ({ frames := 0, cells := 0, slots := 0, locals := 0 } : Room).cells ({ frames := 0, cells := 0, slots := 0, locals := 0 } : Room).slots) := by
  refine MetFree.of_bodySF (plainFor_of_name pn_com_example_indberet_indberet_Lpr3Class_Kind) hisR ?_
  intro p e s m args below meth c s₁ Bd hml0 hP hK
  obtain ⟨rfl, hZ, hh⟩ := hP
  have hx := Bd.exec
  have hby := Bd.bytes
  have hml : c.maxLocals = 1 := hml0
  have hown : s.vm.findClass "com/example/indberet/indberet/Lpr3Class$Kind" = some m.cls := findClass_of_methodNamed Bd.named
  have hnm := (name_of_methodNamed Bd.named Bd.method).1
  have X0 : Stand p l e ({ frames := 0, cells := 0, slots := 0, locals := 0 } : Room) s m #[(.ref a1)] below meth c s₁ [] 0 0 := Stand.of_body Bd
  have e0 : s₁.heap = h0 := by rw [← hh, Bd.state]; rfl
  have N0 := Fr.nil n0
  have pre0 : ∀ t, Steps p.tables e below (s₁.setTop (mkF m 0 #[.val (.ref a1)] [])) t → Steps p.tables e below (s₁.setTop (entryFrame m #[(.ref a1)] 1)) t := fun t k => castTop (ef_rm_tn m a1) k
  obtain ⟨T1, X1, e1, st1⟩ := getS2 X0 hx hZ hown (host := "") (Or.inl (hw _ (List.mem_of_getElem? (i := 13) rfl))) Via.refl e0 (pr0.ext pr4.2) (g := (mkF m 1 #[.val (.ref a1)] [(.ref a1)])) rfl (hb hby d2_1)
  obtain ⟨T2, X2, e2, st2⟩ := getS2 X1 hx hZ hown (host := "") (Or.inl (hw _ (List.mem_of_getElem? (i := 15) rfl))) Via.refl e1 (pr1.ext pr4.2) (g := (mkF m 8 #[.val (.ref a1)] [(.ref a1)])) rfl (hb hby d2_8)
  obtain ⟨T3, X3, e3, st3⟩ := getS2 X2 hx hZ hown (host := "") (Or.inl (hw _ (List.mem_of_getElem? (i := 17) rfl))) Via.refl e2 (pr2.ext pr4.2) (g := (mkF m 15 #[.val (.ref a1)] [(.ref a1)])) rfl (hb hby d2_15)
  obtain ⟨T4, X4, e4, st4⟩ := getS2 X3 hx hZ hown (host := "") (Or.inl (hw _ (List.mem_of_getElem? (i := 19) rfl))) Via.refl e3 (pr3.ext pr4.2) (g := (mkF m 22 #[.val (.ref a1)] [(.ref a1)])) rfl (hb hby d2_22)
  obtain ⟨fs, hr, hrun, hended, hW, hsame⟩ := X4.leave (v := some (.int (0 : Int32))) (fun h => by rw [Bd.returns] at h; cases h)
  refine ⟨_, _, pre0 _ ?_, hrun, hended, _, _, rfl, ?_, ⟨_, rfl⟩, hW, hsame.mono (by decide) (by decide)⟩
  · show Steps p.tables e below (s₁.setTop (mkF m 0 #[.val (.ref a1)] [])) _
    refine XS.aloadN X0.here hx rfl (hb hby d2_0) rfl rfl ?_
    show Steps p.tables e below (s₁.setTop (mkF m 1 #[.val (.ref a1)] [(.ref a1)])) _
    refine st1 _ ?_
    show Steps p.tables e below (T1.setTop (mkF m 4 #[.val (.ref a1)] [(.ref w_VALUE), (.ref a1)])) _
    refine Jvm.RoadKit.acmp (g := (mkF m 4 #[.val (.ref a1)] [(.ref w_VALUE), (.ref a1)])) X1 hx rfl rfl rfl (pc0 := 4) (pc' := 7) (same := false) rfl (hb hby d2_4) rfl (decide_eq_false fun q => pr5 (Value.ref.inj q)) (by decide) (by decide) ?_
    show Steps p.tables e below (T1.setTop (mkF m 7 #[.val (.ref a1)] [])) _
    refine XS.aloadN X1.here hx rfl (hb hby d2_7) rfl rfl ?_
    show Steps p.tables e below (T1.setTop (mkF m 8 #[.val (.ref a1)] [(.ref a1)])) _
    refine st2 _ ?_
    show Steps p.tables e below (T2.setTop (mkF m 11 #[.val (.ref a1)] [(.ref w_REFERENCE), (.ref a1)])) _
    refine Jvm.RoadKit.acmp (g := (mkF m 11 #[.val (.ref a1)] [(.ref w_REFERENCE), (.ref a1)])) X2 hx rfl rfl rfl (pc0 := 11) (pc' := 14) (same := false) rfl (hb hby d2_11) rfl (decide_eq_false fun q => pr6 (Value.ref.inj q)) (by decide) (by decide) ?_
    show Steps p.tables e below (T2.setTop (mkF m 14 #[.val (.ref a1)] [])) _
    refine XS.aloadN X2.here hx rfl (hb hby d2_14) rfl rfl ?_
    show Steps p.tables e below (T2.setTop (mkF m 15 #[.val (.ref a1)] [(.ref a1)])) _
    refine st3 _ ?_
    show Steps p.tables e below (T3.setTop (mkF m 18 #[.val (.ref a1)] [(.ref w_LINK), (.ref a1)])) _
    refine Jvm.RoadKit.acmp (g := (mkF m 18 #[.val (.ref a1)] [(.ref w_LINK), (.ref a1)])) X3 hx rfl rfl rfl (pc0 := 18) (pc' := 21) (same := false) rfl (hb hby d2_18) rfl (decide_eq_false fun q => pr7 (Value.ref.inj q)) (by decide) (by decide) ?_
    show Steps p.tables e below (T3.setTop (mkF m 21 #[.val (.ref a1)] [])) _
    refine XS.aloadN X3.here hx rfl (hb hby d2_21) rfl rfl ?_
    show Steps p.tables e below (T3.setTop (mkF m 22 #[.val (.ref a1)] [(.ref a1)])) _
    refine st4 _ ?_
    show Steps p.tables e below (T4.setTop (mkF m 25 #[.val (.ref a1)] [(.ref w_REPORT_NAME), (.ref a1)])) _
    refine Jvm.RoadKit.acmp (g := (mkF m 25 #[.val (.ref a1)] [(.ref w_REPORT_NAME), (.ref a1)])) X4 hx rfl rfl rfl (pc0 := 25) (pc' := 32) (same := false) rfl (hb hby d2_25) rfl (decide_eq_false fun q => pr8 (Value.ref.inj q)) (by decide) (by decide) ?_
    show Steps p.tables e below (T4.setTop (mkF m 32 #[.val (.ref a1)] [])) _
    refine XS.iconst X4.here hx rfl (hb hby d2_32) ?_
    show Steps p.tables e below (T4.setTop (mkF m 33 #[.val (.ref a1)] [(.int (0 : Int32))])) _
    exact retN X4 hx (t := .boolean) Bd.returns (by simp) (hb hby d2_33) hr
  · show Q_rm_tn Z a1 w_VALUE w_REFERENCE w_LINK w_REPORT_NAME h0 n0 _ T4.heap _
    rw [e4]
    exact ⟨rfl, N0, rfl⟩
theorem pd__40I_41Lcom_47example_47indberet_47indberet_47Lpr3Class_36Kind_59 : parseMethodDescriptor "(I)Lcom/example/indberet/indberet/Lpr3Class$Kind;" = some ⟨[.int], some (.object "com/example/indberet/indberet/Lpr3Class$Kind")⟩ := by decide +kernel
theorem pd__40_41Z : parseMethodDescriptor "()Z" = some ⟨[], some .boolean⟩ := by decide +kernel
theorem ef_rm0 (m : MethodId) (x0 : Int32) : entryFrame m #[(.int x0)] maxLocals = mkF m 0 #[.val (.int x0), .unset, .unset, .unset] [] := by first | (simp [entryFrame, mkF, argsToLocals, Value.category, maxLocals]; done) | rfl
def Q_rm0 (Z : State) (p1 : Int32) (w_TEXT : Addr) (w_OPTIONAL_TEXT : Addr) (w_VALUE : Addr) (w_REFERENCE : Addr) (w_LINK : Addr) (w_TIME : Addr) (w_OPTIONAL_TIME : Addr) (w_ARRAY : Addr) (w_OPTIONAL_ARRAY : Addr) (w_OBJECT : Addr) (w_BIRTH : Addr) (w_REPORT_NAME : Addr) (w_RESULT_TYPE : Addr) (w_VALUE_MOMENT : Addr) (h0 : Heap) (n0 : Nat) (v : Option Value) (h : Heap) (L : List Loc) : Prop := v = some (.int (1 : Int32)) ∧ Fr n0 L
set_option maxRecDepth 65536 in
set_option maxHeartbeats 40000000 in
theorem rm0 (l : Launch) (Z : State) (a0 : Array Value) (hw : ∀ d ∈ tables_1, d.before a0 Z = true) (ws : List Jvm.Cond) (p1 : Int32) (w_TEXT : Addr) (w_OPTIONAL_TEXT : Addr) (w_VALUE : Addr) (w_REFERENCE : Addr) (w_LINK : Addr) (w_TIME : Addr) (w_OPTIONAL_TIME : Addr) (w_ARRAY : Addr) (w_OPTIONAL_ARRAY : Addr) (w_OBJECT : Addr) (w_BIRTH : Addr) (w_REPORT_NAME : Addr) (w_RESULT_TYPE : Addr) (w_VALUE_MOMENT : Addr) (h0 : Heap) (n0 : Nat) (Z0 : n0 ≤ h0.size) (pr0 : Sta Z Z.heap "com/example/indberet/indberet/Lpr3Class$Kind" "TEXT" "Lcom/example/indberet/indberet/Lpr3Class$Kind;" (.ref w_TEXT)) (pr1 : Sta Z Z.heap "com/example/indberet/indberet/Lpr3Class$Kind" "OPTIONAL_TEXT" "Lcom/example/indberet/indberet/Lpr3Class$Kind;" (.ref w_OPTIONAL_TEXT)) (pr2 : Sta Z Z.heap "com/example/indberet/indberet/Lpr3Class$Kind" "VALUE" "Lcom/example/indberet/indberet/Lpr3Class$Kind;" (.ref w_VALUE)) (pr3 : Sta Z Z.heap "com/example/indberet/indberet/Lpr3Class$Kind" "REFERENCE" "Lcom/example/indberet/indberet/Lpr3Class$Kind;" (.ref w_REFERENCE)) (pr4 : Sta Z Z.heap "com/example/indberet/indberet/Lpr3Class$Kind" "LINK" "Lcom/example/indberet/indberet/Lpr3Class$Kind;" (.ref w_LINK)) (pr5 : Sta Z Z.heap "com/example/indberet/indberet/Lpr3Class$Kind" "TIME" "Lcom/example/indberet/indberet/Lpr3Class$Kind;" (.ref w_TIME)) (pr6 : Sta Z Z.heap "com/example/indberet/indberet/Lpr3Class$Kind" "OPTIONAL_TIME" "Lcom/example/indberet/indberet/Lpr3Class$Kind;" (.ref w_OPTIONAL_TIME)) (pr7 : Sta Z Z.heap "com/example/indberet/indberet/Lpr3Class$Kind" "ARRAY" "Lcom/example/indberet/indberet/Lpr3Class$Kind;" (.ref w_ARRAY)) (pr8 : Sta Z Z.heap "com/example/indberet/indberet/Lpr3Class$Kind" "OPTIONAL_ARRAY" "Lcom/example/indberet/indberet/Lpr3Class$Kind;" (.ref w_OPTIONAL_ARRAY)) (pr9 : Sta Z Z.heap "com/example/indberet/indberet/Lpr3Class$Kind" "OBJECT" "Lcom/example/indberet/indberet/Lpr3Class$Kind;" (.ref w_OBJECT)) (pr10 : Sta Z Z.heap "com/example/indberet/indberet/Lpr3Class$Kind" "BIRTH" "Lcom/example/indberet/indberet/Lpr3Class$Kind;" (.ref w_BIRTH)) (pr11 : Sta Z Z.heap "com/example/indberet/indberet/Lpr3Class$Kind" "REPORT_NAME" "Lcom/example/indberet/indberet/Lpr3Class$Kind;" (.ref w_REPORT_NAME)) (pr12 : Sta Z Z.heap "com/example/indberet/indberet/Lpr3Class$Kind" "RESULT_TYPE" "Lcom/example/indberet/indberet/Lpr3Class$Kind;" (.ref w_RESULT_TYPE)) (pr13 : Sta Z Z.heap "com/example/indberet/indberet/Lpr3Class$Kind" "VALUE_MOMENT" "Lcom/example/indberet/indberet/Lpr3Class$Kind;" (.ref w_VALUE_MOMENT)) (pr14 : Old Z n0 h0) (pr15 : Exa Z h0 w_TEXT "com/example/indberet/indberet/Lpr3Class$Kind") (pr16 : Exa Z h0 w_OPTIONAL_TEXT "com/example/indberet/indberet/Lpr3Class$Kind") (pr17 : Exa Z h0 w_VALUE "com/example/indberet/indberet/Lpr3Class$Kind") (pr18 : Exa Z h0 w_REFERENCE "com/example/indberet/indberet/Lpr3Class$Kind") (pr19 : Exa Z h0 w_LINK "com/example/indberet/indberet/Lpr3Class$Kind") (pr20 : Exa Z h0 w_TIME "com/example/indberet/indberet/Lpr3Class$Kind") (pr21 : Exa Z h0 w_OPTIONAL_TIME "com/example/indberet/indberet/Lpr3Class$Kind") (pr22 : Exa Z h0 w_ARRAY "com/example/indberet/indberet/Lpr3Class$Kind") (pr23 : Exa Z h0 w_OPTIONAL_ARRAY "com/example/indberet/indberet/Lpr3Class$Kind") (pr24 : Exa Z h0 w_OBJECT "com/example/indberet/indberet/Lpr3Class$Kind") (pr25 : Exa Z h0 w_BIRTH "com/example/indberet/indberet/Lpr3Class$Kind") (pr26 : Exa Z h0 w_REPORT_NAME "com/example/indberet/indberet/Lpr3Class$Kind") (pr27 : Exa Z h0 w_RESULT_TYPE "com/example/indberet/indberet/Lpr3Class$Kind") (pr28 : Exa Z h0 w_VALUE_MOMENT "com/example/indberet/indberet/Lpr3Class$Kind") (pr29 : w_TEXT ≠ w_VALUE) (pr30 : w_TEXT ≠ w_REFERENCE) (pr31 : w_TEXT ≠ w_LINK) (pr32 : w_TEXT ≠ w_REPORT_NAME) (pr33 : w_OPTIONAL_TEXT ≠ w_VALUE) (pr34 : w_OPTIONAL_TEXT ≠ w_REFERENCE) (pr35 : w_OPTIONAL_TEXT ≠ w_LINK) (pr36 : w_OPTIONAL_TEXT ≠ w_REPORT_NAME) (pr37 : w_REFERENCE ≠ w_VALUE) (pr38 : w_LINK ≠ w_VALUE) (pr39 : w_LINK ≠ w_REFERENCE) (pr40 : w_TIME ≠ w_VALUE) (pr41 : w_TIME ≠ w_REFERENCE) (pr42 : w_TIME ≠ w_LINK) (pr43 : w_TIME ≠ w_REPORT_NAME) (pr44 : w_OPTIONAL_TIME ≠ w_VALUE) (pr45 : w_OPTIONAL_TIME ≠ w_REFERENCE) (pr46 : w_OPTIONAL_TIME ≠ w_LINK) (pr47 : w_OPTIONAL_TIME ≠ w_REPORT_NAME) (pr48 : w_ARRAY ≠ w_VALUE) (pr49 : w_ARRAY ≠ w_REFERENCE) (pr50 : w_ARRAY ≠ w_LINK) (pr51 : w_ARRAY ≠ w_REPORT_NAME) (pr52 : w_OPTIONAL_ARRAY ≠ w_VALUE) (pr53 : w_OPTIONAL_ARRAY ≠ w_REFERENCE) (pr54 : w_OPTIONAL_ARRAY ≠ w_LINK) (pr55 : w_OPTIONAL_ARRAY ≠ w_REPORT_NAME) (pr56 : w_OBJECT ≠ w_VALUE) (pr57 : w_OBJECT ≠ w_REFERENCE) (pr58 : w_OBJECT ≠ w_LINK) (pr59 : w_OBJECT ≠ w_REPORT_NAME) (pr60 : w_BIRTH ≠ w_VALUE) (pr61 : w_BIRTH ≠ w_REFERENCE) (pr62 : w_BIRTH ≠ w_LINK) (pr63 : w_BIRTH ≠ w_REPORT_NAME) (pr64 : w_REPORT_NAME ≠ w_VALUE) (pr65 : w_REPORT_NAME ≠ w_REFERENCE) (pr66 : w_REPORT_NAME ≠ w_LINK) (pr67 : w_RESULT_TYPE ≠ w_VALUE) (pr68 : w_RESULT_TYPE ≠ w_REFERENCE) (pr69 : w_RESULT_TYPE ≠ w_LINK) (pr70 : w_RESULT_TYPE ≠ w_REPORT_NAME) (pr71 : w_VALUE_MOMENT ≠ w_VALUE) (pr72 : w_VALUE_MOMENT ≠ w_REFERENCE) (pr73 : w_VALUE_MOMENT ≠ w_LINK) (pr74 : w_VALUE_MOMENT ≠ w_REPORT_NAME) :
    MetFree l x (head1 (Jvm.Cond.code x code maxLocals ret :: ws) room_1) (fun a U => a = #[(.int p1)] ∧ Z.Warmed39 U.vm ∧ U.heap = h0) (fun _ _ _ _ _ => True) (fun _ U o U' => ∃ v L, o = .returned v ∧ Q_rm0 Z p1 w_TEXT w_OPTIONAL_TEXT w_VALUE w_REFERENCE w_LINK w_TIME w_OPTIONAL_TIME w_ARRAY w_OPTIONAL_ARRAY w_OBJECT w_BIRTH w_REPORT_NAME w_RESULT_TYPE w_VALUE_MOMENT h0 n0 v U'.heap L ∧ FrameEnd U o U' L room_1.cells room_1.slots) := by
  refine MetFree.of_bodySF (plainFor_of_name pn_com_example_indberet_indberet_KindKeepsTextPinLaw) hisR ?_
  intro p e s m args below meth c s₁ Bd hml0 hP hK
  obtain ⟨rfl, hZ, hh⟩ := hP
  have hx := Bd.exec
  have hby := Bd.bytes
  have hml : c.maxLocals = 4 := hml0
  have hown : s.vm.findClass "com/example/indberet/indberet/KindKeepsTextPinLaw" = some m.cls := findClass_of_methodNamed Bd.named
  have hnm := (name_of_methodNamed Bd.named Bd.method).1
  have X0 : Stand p l e room_1 s m #[(.int p1)] below meth c s₁ [] 0 0 := Stand.of_body Bd
  have e0 : s₁.heap = h0 := by rw [← hh, Bd.state]; rfl
  have N0 := Fr.nil n0
  have pre0 : ∀ t, Steps p.tables e below (s₁.setTop (mkF m 0 #[.val (.int p1), .unset, .unset, .unset] [])) t → Steps p.tables e below (s₁.setTop (entryFrame m #[(.int p1)] maxLocals)) t := fun t k => castTop (ef_rm0 m p1) k
  by_cases hc1 : ((p1 &&& (2147483647 : Int32)) % (14 : Int32)) = (0 : Int32)
  · obtain ⟨_, _, ⟨T1, L1, k1, n1⟩, -, X1, ⟨Lc1, hQ1, l1, y1, z1⟩, st1⟩ := Jvm.LawKit.callS X0 hx (y := (⟨"com/example/indberet/indberet/KindKeepsTextPinLaw", "kind", "(I)Lcom/example/indberet/indberet/Lpr3Class$Kind;"⟩ : MethodName)) hown (mvT hZ (hw _ (List.mem_of_getElem? (i := 1) rfl))) (mvT hZ (hw _ (List.mem_of_getElem? (i := 2) rfl))) (mvT hZ (hw _ (List.mem_of_getElem? (i := 3) rfl))) (mvT hZ (hw _ (List.mem_of_getElem? (i := 4) rfl))) (by decide) (backOf (W := 0) (rm_pk0 l Z a0 hw [] ((p1 &&& (2147483647 : Int32)) % (14 : Int32)) w_TEXT h0 n0 Z0 pr0 pr14 hc1) hZ (hw _ (List.mem_of_getElem? (i := 4) rfl)) (hw _ (List.mem_of_getElem? (i := 3) rfl)) (by decide) (by decide)) (g := (mkF m 9 #[.val (.int p1), .val (.int ((p1 &&& (2147483647 : Int32)) % (14 : Int32))), .unset, .unset] [(.int ((p1 &&& (2147483647 : Int32)) % (14 : Int32)))])) rfl (by rw [hml]; rfl) (argsL := [(.int ((p1 &&& (2147483647 : Int32)) % (14 : Int32)))]) (rest := []) (lenOf pd__40I_41Lcom_47example_47indberet_47indberet_47Lpr3Class_36Kind_59 rfl) rfl (by show 2 * 0 + _ ≤ _; exact Nat.le_of_eq rfl) (hb hby at_9) (fun _ _ => ⟨rfl, e0, (by decide : 0 + 0 ≤ _), (by decide : 0 + 0 ≤ _)⟩)
    dsimp only [Pt.U, Pt.locs, Pt.cells, Pt.slots] at X1 l1 y1 z1 st1 hQ1
    subst l1 y1 z1
    obtain ⟨rfl, Nq1, e1⟩ := hQ1
    have N1 := Fr.app N0 Nq1
    obtain ⟨cq2, kq2, q2a, q2b, q2c⟩ := isOf hZ e1 pr15
    obtain ⟨_, _, ⟨T2, L2, k2, n2⟩, -, X2, ⟨Lc2, hQ2, l2, y2, z2⟩, st2⟩ := X1.virtualBack hx (y := (⟨"com/example/indberet/indberet/Lpr3Class$Kind", "keepsText", "()Z"⟩ : MethodName)) (z := (⟨"com/example/indberet/indberet/Lpr3Class$Kind", "keepsText", "()Z"⟩ : MethodName)) hown (mvT hZ (hw _ (List.mem_of_getElem? (i := 8) rfl))) (mvT hZ (hw _ (List.mem_of_getElem? (i := 9) rfl))) (notFace_of_selects (args := #[]) (mvT hZ (hw _ (List.mem_of_getElem? (i := 11) rfl)))) (mvT hZ (hw _ (List.mem_of_getElem? (i := 11) rfl))) (mvT hZ (hw _ (List.mem_of_getElem? (i := 10) rfl))) (by decide) (backOf (W := 0) (rm_tn l Z a0 hw [] w_TEXT w_VALUE w_REFERENCE w_LINK w_REPORT_NAME h0 n0 Z0 pr2 pr3 pr4 pr11 pr14 pr29 pr30 pr31 pr32) hZ (hw _ (List.mem_of_getElem? (i := 12) rfl)) (hw _ (List.mem_of_getElem? (i := 6) rfl)) (by decide) (by decide)) q2a q2c (g := (mkF m 30 #[.val (.int p1), .val (.int ((p1 &&& (2147483647 : Int32)) % (14 : Int32))), .val (.ref w_TEXT), .val (.int (0 : Int32))] [(.ref w_TEXT)])) rfl (by rw [hml]; rfl) (Steps.refl _) (argsL := []) (rest := []) (lenOf pd__40_41Z rfl) rfl (by show 2 * 0 + _ ≤ _; exact Nat.le_of_eq rfl) (hb hby at_30) (fun _ _ => ⟨rfl, e1, (by decide : 0 + 0 ≤ _), (by decide : 0 + 0 ≤ _)⟩)
    dsimp only [Pt.U, Pt.locs, Pt.cells, Pt.slots] at X2 l2 y2 z2 st2 hQ2
    subst l2 y2 z2
    obtain ⟨rfl, Nq2, e2⟩ := hQ2
    have N2 := Fr.app N1 Nq2
    obtain ⟨fs, hr, hrun, hended, hW, hsame⟩ := X2.leave (v := some (.int (1 : Int32))) (fun h => by rw [Bd.returns] at h; cases h)
    refine ⟨_, _, pre0 _ ?_, hrun, hended, _, _, rfl, ?_, ⟨_, rfl⟩, hW, hsame.mono (by decide) (by decide)⟩
    · show Steps p.tables e below (s₁.setTop (mkF m 0 #[.val (.int p1), .unset, .unset, .unset] [])) _
      refine XS.iloadN X0.here hx rfl (hb hby at_0) rfl ?_
      show Steps p.tables e below (s₁.setTop (mkF m 1 #[.val (.int p1), .unset, .unset, .unset] [(.int p1)])) _
      refine X0.ldcInt hx hown (mvT hZ (hw _ (List.mem_of_getElem? (i := 0) rfl))) (g := (mkF m 1 #[.val (.int p1), .unset, .unset, .unset] [(.int p1)])) rfl (hb hby at_1) _ ?_
      show Steps p.tables e below (s₁.setTop (mkF m 3 #[.val (.int p1), .unset, .unset, .unset] [(.int (2147483647 : Int32)), (.int p1)])) _
      refine XS.iand X0.here hx rfl (hb hby at_3) rfl ?_
      show Steps p.tables e below (s₁.setTop (mkF m 4 #[.val (.int p1), .unset, .unset, .unset] [(.int (p1 &&& (2147483647 : Int32)))])) _
      refine XS.bipush X0.here hx rfl (hb hby at_4) ?_
      show Steps p.tables e below (s₁.setTop (mkF m 6 #[.val (.int p1), .unset, .unset, .unset] [(.int (14 : Int32)), (.int (p1 &&& (2147483647 : Int32)))])) _
      refine iremM X0 hx rfl (hb hby at_6) rfl (by decide : ¬ ((14 : Int32) = (0 : Int32))) ?_
      show Steps p.tables e below (s₁.setTop (mkF m 7 #[.val (.int p1), .unset, .unset, .unset] [(.int ((p1 &&& (2147483647 : Int32)) % (14 : Int32)))])) _
      refine XS.istoreN X0.here hx rfl (hb hby at_7) rfl (l' := #[.val (.int p1), .val (.int ((p1 &&& (2147483647 : Int32)) % (14 : Int32))), .unset, .unset]) rfl ?_
      show Steps p.tables e below (s₁.setTop (mkF m 8 #[.val (.int p1), .val (.int ((p1 &&& (2147483647 : Int32)) % (14 : Int32))), .unset, .unset] [])) _
      refine XS.iloadN X0.here hx rfl (hb hby at_8) rfl ?_
      show Steps p.tables e below (s₁.setTop (mkF m 9 #[.val (.int p1), .val (.int ((p1 &&& (2147483647 : Int32)) % (14 : Int32))), .unset, .unset] [(.int ((p1 &&& (2147483647 : Int32)) % (14 : Int32)))])) _
      refine st1 _ ?_
      show Steps p.tables e below (T1.setTop (mkF m 12 #[.val (.int p1), .val (.int ((p1 &&& (2147483647 : Int32)) % (14 : Int32))), .unset, .unset] [(.ref w_TEXT)])) _
      refine XS.astoreN X1.here hx rfl (hb hby at_12) rfl rfl (l' := #[.val (.int p1), .val (.int ((p1 &&& (2147483647 : Int32)) % (14 : Int32))), .val (.ref w_TEXT), .unset]) rfl ?_
      show Steps p.tables e below (T1.setTop (mkF m 13 #[.val (.int p1), .val (.int ((p1 &&& (2147483647 : Int32)) % (14 : Int32))), .val (.ref w_TEXT), .unset] [])) _
      refine XS.sipush X1.here hx rfl (hb hby at_13) ?_
      show Steps p.tables e below (T1.setTop (mkF m 16 #[.val (.int p1), .val (.int ((p1 &&& (2147483647 : Int32)) % (14 : Int32))), .val (.ref w_TEXT), .unset] [(.int (2076 : Int32))])) _
      refine XS.iloadN X1.here hx rfl (hb hby at_16) rfl ?_
      show Steps p.tables e below (T1.setTop (mkF m 17 #[.val (.int p1), .val (.int ((p1 &&& (2147483647 : Int32)) % (14 : Int32))), .val (.ref w_TEXT), .unset] [(.int ((p1 &&& (2147483647 : Int32)) % (14 : Int32))), (.int (2076 : Int32))])) _
      refine XS.iushr X1.here hx rfl (hb hby at_17) rfl ?_
      show Steps p.tables e below (T1.setTop (mkF m 18 #[.val (.int p1), .val (.int ((p1 &&& (2147483647 : Int32)) % (14 : Int32))), .val (.ref w_TEXT), .unset] [(.int (((2076 : Int32).toUInt32 >>> (((p1 &&& (2147483647 : Int32)) % (14 : Int32)) &&& 31).toUInt32).toInt32))])) _
      refine XS.iconst X1.here hx rfl (hb hby at_18) ?_
      show Steps p.tables e below (T1.setTop (mkF m 19 #[.val (.int p1), .val (.int ((p1 &&& (2147483647 : Int32)) % (14 : Int32))), .val (.ref w_TEXT), .unset] [(.int (1 : Int32)), (.int (((2076 : Int32).toUInt32 >>> (((p1 &&& (2147483647 : Int32)) % (14 : Int32)) &&& 31).toUInt32).toInt32))])) _
      refine XS.iand X1.here hx rfl (hb hby at_19) rfl ?_
      show Steps p.tables e below (T1.setTop (mkF m 20 #[.val (.int p1), .val (.int ((p1 &&& (2147483647 : Int32)) % (14 : Int32))), .val (.ref w_TEXT), .unset] [(.int ((((2076 : Int32).toUInt32 >>> (((p1 &&& (2147483647 : Int32)) % (14 : Int32)) &&& 31).toUInt32).toInt32) &&& (1 : Int32)))])) _
      refine XS.ifYes X1.here hx rfl (pc0 := 20) (pc' := 27) rfl (hb hby at_20) rfl ((if0 _ _).trans (teq (by rw [hc1]; decide : ((((2076 : Int32).toUInt32 >>> (((p1 &&& (2147483647 : Int32)) % (14 : Int32)) &&& 31).toUInt32).toInt32) &&& (1 : Int32)) = (0 : Int32))).1) (by decide) (by decide) ?_
      show Steps p.tables e below (T1.setTop (mkF m 27 #[.val (.int p1), .val (.int ((p1 &&& (2147483647 : Int32)) % (14 : Int32))), .val (.ref w_TEXT), .unset] [])) _
      refine XS.iconst X1.here hx rfl (hb hby at_27) ?_
      show Steps p.tables e below (T1.setTop (mkF m 28 #[.val (.int p1), .val (.int ((p1 &&& (2147483647 : Int32)) % (14 : Int32))), .val (.ref w_TEXT), .unset] [(.int (0 : Int32))])) _
      refine XS.istoreN X1.here hx rfl (hb hby at_28) rfl (l' := #[.val (.int p1), .val (.int ((p1 &&& (2147483647 : Int32)) % (14 : Int32))), .val (.ref w_TEXT), .val (.int (0 : Int32))]) rfl ?_
      show Steps p.tables e below (T1.setTop (mkF m 29 #[.val (.int p1), .val (.int ((p1 &&& (2147483647 : Int32)) % (14 : Int32))), .val (.ref w_TEXT), .val (.int (0 : Int32))] [])) _
      refine XS.aloadN X1.here hx rfl (hb hby at_29) rfl rfl ?_
      show Steps p.tables e below (T1.setTop (mkF m 30 #[.val (.int p1), .val (.int ((p1 &&& (2147483647 : Int32)) % (14 : Int32))), .val (.ref w_TEXT), .val (.int (0 : Int32))] [(.ref w_TEXT)])) _
      refine st2.trans ?_
      show Steps p.tables e below (T2.setTop (mkF m 33 #[.val (.int p1), .val (.int ((p1 &&& (2147483647 : Int32)) % (14 : Int32))), .val (.ref w_TEXT), .val (.int (0 : Int32))] [(.int (0 : Int32))])) _
      refine XS.iloadN X2.here hx rfl (hb hby at_33) rfl ?_
      show Steps p.tables e below (T2.setTop (mkF m 34 #[.val (.int p1), .val (.int ((p1 &&& (2147483647 : Int32)) % (14 : Int32))), .val (.ref w_TEXT), .val (.int (0 : Int32))] [(.int (0 : Int32)), (.int (0 : Int32))])) _
      refine XS.icmpNo X2.here hx rfl (hb hby at_34) rfl (teq (by decide : (0 : Int32) = (0 : Int32))).2 ?_
      show Steps p.tables e below (T2.setTop (mkF m 37 #[.val (.int p1), .val (.int ((p1 &&& (2147483647 : Int32)) % (14 : Int32))), .val (.ref w_TEXT), .val (.int (0 : Int32))] [])) _
      refine XS.iconst X2.here hx rfl (hb hby at_37) ?_
      show Steps p.tables e below (T2.setTop (mkF m 38 #[.val (.int p1), .val (.int ((p1 &&& (2147483647 : Int32)) % (14 : Int32))), .val (.ref w_TEXT), .val (.int (0 : Int32))] [(.int (1 : Int32))])) _
      refine XS.goto X2.here hx rfl (pc0 := 38) (pc' := 42) rfl (hb hby at_38) (by decide) (by decide) ?_
      show Steps p.tables e below (T2.setTop (mkF m 42 #[.val (.int p1), .val (.int ((p1 &&& (2147483647 : Int32)) % (14 : Int32))), .val (.ref w_TEXT), .val (.int (0 : Int32))] [(.int (1 : Int32))])) _
      exact retN X2 hx (t := .boolean) Bd.returns (by simp) (hb hby at_42) hr
    · show Q_rm0 Z p1 w_TEXT w_OPTIONAL_TEXT w_VALUE w_REFERENCE w_LINK w_TIME w_OPTIONAL_TIME w_ARRAY w_OPTIONAL_ARRAY w_OBJECT w_BIRTH w_REPORT_NAME w_RESULT_TYPE w_VALUE_MOMENT h0 n0 _ T2.heap _
      exact ⟨rfl, N2⟩
  · by_cases hc2 : ((p1 &&& (2147483647 : Int32)) % (14 : Int32)) = (1 : Int32)
    · obtain ⟨_, _, ⟨T3, L3, k3, n3⟩, -, X3, ⟨Lc3, hQ3, l3, y3, z3⟩, st3⟩ := Jvm.LawKit.callS X0 hx (y := (⟨"com/example/indberet/indberet/KindKeepsTextPinLaw", "kind", "(I)Lcom/example/indberet/indberet/Lpr3Class$Kind;"⟩ : MethodName)) hown (mvT hZ (hw _ (List.mem_of_getElem? (i := 1) rfl))) (mvT hZ (hw _ (List.mem_of_getElem? (i := 2) rfl))) (mvT hZ (hw _ (List.mem_of_getElem? (i := 3) rfl))) (mvT hZ (hw _ (List.mem_of_getElem? (i := 4) rfl))) (by decide) (backOf (W := 0) (rm_pk1 l Z a0 hw [] ((p1 &&& (2147483647 : Int32)) % (14 : Int32)) w_OPTIONAL_TEXT h0 n0 Z0 pr1 pr14 hc1 hc2) hZ (hw _ (List.mem_of_getElem? (i := 4) rfl)) (hw _ (List.mem_of_getElem? (i := 3) rfl)) (by decide) (by decide)) (g := (mkF m 9 #[.val (.int p1), .val (.int ((p1 &&& (2147483647 : Int32)) % (14 : Int32))), .unset, .unset] [(.int ((p1 &&& (2147483647 : Int32)) % (14 : Int32)))])) rfl (by rw [hml]; rfl) (argsL := [(.int ((p1 &&& (2147483647 : Int32)) % (14 : Int32)))]) (rest := []) (lenOf pd__40I_41Lcom_47example_47indberet_47indberet_47Lpr3Class_36Kind_59 rfl) rfl (by show 2 * 0 + _ ≤ _; exact Nat.le_of_eq rfl) (hb hby at_9) (fun _ _ => ⟨rfl, e0, (by decide : 0 + 0 ≤ _), (by decide : 0 + 0 ≤ _)⟩)
      dsimp only [Pt.U, Pt.locs, Pt.cells, Pt.slots] at X3 l3 y3 z3 st3 hQ3
      subst l3 y3 z3
      obtain ⟨rfl, Nq3, e3⟩ := hQ3
      have N3 := Fr.app N0 Nq3
      obtain ⟨cq4, kq4, q4a, q4b, q4c⟩ := isOf hZ e3 pr16
      obtain ⟨_, _, ⟨T4, L4, k4, n4⟩, -, X4, ⟨Lc4, hQ4, l4, y4, z4⟩, st4⟩ := X3.virtualBack hx (y := (⟨"com/example/indberet/indberet/Lpr3Class$Kind", "keepsText", "()Z"⟩ : MethodName)) (z := (⟨"com/example/indberet/indberet/Lpr3Class$Kind", "keepsText", "()Z"⟩ : MethodName)) hown (mvT hZ (hw _ (List.mem_of_getElem? (i := 8) rfl))) (mvT hZ (hw _ (List.mem_of_getElem? (i := 9) rfl))) (notFace_of_selects (args := #[]) (mvT hZ (hw _ (List.mem_of_getElem? (i := 11) rfl)))) (mvT hZ (hw _ (List.mem_of_getElem? (i := 11) rfl))) (mvT hZ (hw _ (List.mem_of_getElem? (i := 10) rfl))) (by decide) (backOf (W := 0) (rm_tn l Z a0 hw [] w_OPTIONAL_TEXT w_VALUE w_REFERENCE w_LINK w_REPORT_NAME h0 n0 Z0 pr2 pr3 pr4 pr11 pr14 pr33 pr34 pr35 pr36) hZ (hw _ (List.mem_of_getElem? (i := 12) rfl)) (hw _ (List.mem_of_getElem? (i := 6) rfl)) (by decide) (by decide)) q4a q4c (g := (mkF m 30 #[.val (.int p1), .val (.int ((p1 &&& (2147483647 : Int32)) % (14 : Int32))), .val (.ref w_OPTIONAL_TEXT), .val (.int (0 : Int32))] [(.ref w_OPTIONAL_TEXT)])) rfl (by rw [hml]; rfl) (Steps.refl _) (argsL := []) (rest := []) (lenOf pd__40_41Z rfl) rfl (by show 2 * 0 + _ ≤ _; exact Nat.le_of_eq rfl) (hb hby at_30) (fun _ _ => ⟨rfl, e3, (by decide : 0 + 0 ≤ _), (by decide : 0 + 0 ≤ _)⟩)
      dsimp only [Pt.U, Pt.locs, Pt.cells, Pt.slots] at X4 l4 y4 z4 st4 hQ4
      subst l4 y4 z4
      obtain ⟨rfl, Nq4, e4⟩ := hQ4
      have N4 := Fr.app N3 Nq4
      obtain ⟨fs, hr, hrun, hended, hW, hsame⟩ := X4.leave (v := some (.int (1 : Int32))) (fun h => by rw [Bd.returns] at h; cases h)
      refine ⟨_, _, pre0 _ ?_, hrun, hended, _, _, rfl, ?_, ⟨_, rfl⟩, hW, hsame.mono (by decide) (by decide)⟩
      · show Steps p.tables e below (s₁.setTop (mkF m 0 #[.val (.int p1), .unset, .unset, .unset] [])) _
        refine XS.iloadN X0.here hx rfl (hb hby at_0) rfl ?_
        show Steps p.tables e below (s₁.setTop (mkF m 1 #[.val (.int p1), .unset, .unset, .unset] [(.int p1)])) _
        refine X0.ldcInt hx hown (mvT hZ (hw _ (List.mem_of_getElem? (i := 0) rfl))) (g := (mkF m 1 #[.val (.int p1), .unset, .unset, .unset] [(.int p1)])) rfl (hb hby at_1) _ ?_
        show Steps p.tables e below (s₁.setTop (mkF m 3 #[.val (.int p1), .unset, .unset, .unset] [(.int (2147483647 : Int32)), (.int p1)])) _
        refine XS.iand X0.here hx rfl (hb hby at_3) rfl ?_
        show Steps p.tables e below (s₁.setTop (mkF m 4 #[.val (.int p1), .unset, .unset, .unset] [(.int (p1 &&& (2147483647 : Int32)))])) _
        refine XS.bipush X0.here hx rfl (hb hby at_4) ?_
        show Steps p.tables e below (s₁.setTop (mkF m 6 #[.val (.int p1), .unset, .unset, .unset] [(.int (14 : Int32)), (.int (p1 &&& (2147483647 : Int32)))])) _
        refine iremM X0 hx rfl (hb hby at_6) rfl (by decide : ¬ ((14 : Int32) = (0 : Int32))) ?_
        show Steps p.tables e below (s₁.setTop (mkF m 7 #[.val (.int p1), .unset, .unset, .unset] [(.int ((p1 &&& (2147483647 : Int32)) % (14 : Int32)))])) _
        refine XS.istoreN X0.here hx rfl (hb hby at_7) rfl (l' := #[.val (.int p1), .val (.int ((p1 &&& (2147483647 : Int32)) % (14 : Int32))), .unset, .unset]) rfl ?_
        show Steps p.tables e below (s₁.setTop (mkF m 8 #[.val (.int p1), .val (.int ((p1 &&& (2147483647 : Int32)) % (14 : Int32))), .unset, .unset] [])) _
        refine XS.iloadN X0.here hx rfl (hb hby at_8) rfl ?_
        show Steps p.tables e below (s₁.setTop (mkF m 9 #[.val (.int p1), .val (.int ((p1 &&& (2147483647 : Int32)) % (14 : Int32))), .unset, .unset] [(.int ((p1 &&& (2147483647 : Int32)) % (14 : Int32)))])) _
        refine st3 _ ?_
        show Steps p.tables e below (T3.setTop (mkF m 12 #[.val (.int p1), .val (.int ((p1 &&& (2147483647 : Int32)) % (14 : Int32))), .unset, .unset] [(.ref w_OPTIONAL_TEXT)])) _
        refine XS.astoreN X3.here hx rfl (hb hby at_12) rfl rfl (l' := #[.val (.int p1), .val (.int ((p1 &&& (2147483647 : Int32)) % (14 : Int32))), .val (.ref w_OPTIONAL_TEXT), .unset]) rfl ?_
        show Steps p.tables e below (T3.setTop (mkF m 13 #[.val (.int p1), .val (.int ((p1 &&& (2147483647 : Int32)) % (14 : Int32))), .val (.ref w_OPTIONAL_TEXT), .unset] [])) _
        refine XS.sipush X3.here hx rfl (hb hby at_13) ?_
        show Steps p.tables e below (T3.setTop (mkF m 16 #[.val (.int p1), .val (.int ((p1 &&& (2147483647 : Int32)) % (14 : Int32))), .val (.ref w_OPTIONAL_TEXT), .unset] [(.int (2076 : Int32))])) _
        refine XS.iloadN X3.here hx rfl (hb hby at_16) rfl ?_
        show Steps p.tables e below (T3.setTop (mkF m 17 #[.val (.int p1), .val (.int ((p1 &&& (2147483647 : Int32)) % (14 : Int32))), .val (.ref w_OPTIONAL_TEXT), .unset] [(.int ((p1 &&& (2147483647 : Int32)) % (14 : Int32))), (.int (2076 : Int32))])) _
        refine XS.iushr X3.here hx rfl (hb hby at_17) rfl ?_
        show Steps p.tables e below (T3.setTop (mkF m 18 #[.val (.int p1), .val (.int ((p1 &&& (2147483647 : Int32)) % (14 : Int32))), .val (.ref w_OPTIONAL_TEXT), .unset] [(.int (((2076 : Int32).toUInt32 >>> (((p1 &&& (2147483647 : Int32)) % (14 : Int32)) &&& 31).toUInt32).toInt32))])) _
        refine XS.iconst X3.here hx rfl (hb hby at_18) ?_
        show Steps p.tables e below (T3.setTop (mkF m 19 #[.val (.int p1), .val (.int ((p1 &&& (2147483647 : Int32)) % (14 : Int32))), .val (.ref w_OPTIONAL_TEXT), .unset] [(.int (1 : Int32)), (.int (((2076 : Int32).toUInt32 >>> (((p1 &&& (2147483647 : Int32)) % (14 : Int32)) &&& 31).toUInt32).toInt32))])) _
        refine XS.iand X3.here hx rfl (hb hby at_19) rfl ?_
        show Steps p.tables e below (T3.setTop (mkF m 20 #[.val (.int p1), .val (.int ((p1 &&& (2147483647 : Int32)) % (14 : Int32))), .val (.ref w_OPTIONAL_TEXT), .unset] [(.int ((((2076 : Int32).toUInt32 >>> (((p1 &&& (2147483647 : Int32)) % (14 : Int32)) &&& 31).toUInt32).toInt32) &&& (1 : Int32)))])) _
        refine XS.ifYes X3.here hx rfl (pc0 := 20) (pc' := 27) rfl (hb hby at_20) rfl ((if0 _ _).trans (teq (by rw [hc2]; decide : ((((2076 : Int32).toUInt32 >>> (((p1 &&& (2147483647 : Int32)) % (14 : Int32)) &&& 31).toUInt32).toInt32) &&& (1 : Int32)) = (0 : Int32))).1) (by decide) (by decide) ?_
        show Steps p.tables e below (T3.setTop (mkF m 27 #[.val (.int p1), .val (.int ((p1 &&& (2147483647 : Int32)) % (14 : Int32))), .val (.ref w_OPTIONAL_TEXT), .unset] [])) _
        refine XS.iconst X3.here hx rfl (hb hby at_27) ?_
        show Steps p.tables e below (T3.setTop (mkF m 28 #[.val (.int p1), .val (.int ((p1 &&& (2147483647 : Int32)) % (14 : Int32))), .val (.ref w_OPTIONAL_TEXT), .unset] [(.int (0 : Int32))])) _
        refine XS.istoreN X3.here hx rfl (hb hby at_28) rfl (l' := #[.val (.int p1), .val (.int ((p1 &&& (2147483647 : Int32)) % (14 : Int32))), .val (.ref w_OPTIONAL_TEXT), .val (.int (0 : Int32))]) rfl ?_
        show Steps p.tables e below (T3.setTop (mkF m 29 #[.val (.int p1), .val (.int ((p1 &&& (2147483647 : Int32)) % (14 : Int32))), .val (.ref w_OPTIONAL_TEXT), .val (.int (0 : Int32))] [])) _
        refine XS.aloadN X3.here hx rfl (hb hby at_29) rfl rfl ?_
        show Steps p.tables e below (T3.setTop (mkF m 30 #[.val (.int p1), .val (.int ((p1 &&& (2147483647 : Int32)) % (14 : Int32))), .val (.ref w_OPTIONAL_TEXT), .val (.int (0 : Int32))] [(.ref w_OPTIONAL_TEXT)])) _
        refine st4.trans ?_
        show Steps p.tables e below (T4.setTop (mkF m 33 #[.val (.int p1), .val (.int ((p1 &&& (2147483647 : Int32)) % (14 : Int32))), .val (.ref w_OPTIONAL_TEXT), .val (.int (0 : Int32))] [(.int (0 : Int32))])) _
        refine XS.iloadN X4.here hx rfl (hb hby at_33) rfl ?_
        show Steps p.tables e below (T4.setTop (mkF m 34 #[.val (.int p1), .val (.int ((p1 &&& (2147483647 : Int32)) % (14 : Int32))), .val (.ref w_OPTIONAL_TEXT), .val (.int (0 : Int32))] [(.int (0 : Int32)), (.int (0 : Int32))])) _
        refine XS.icmpNo X4.here hx rfl (hb hby at_34) rfl (teq (by decide : (0 : Int32) = (0 : Int32))).2 ?_
        show Steps p.tables e below (T4.setTop (mkF m 37 #[.val (.int p1), .val (.int ((p1 &&& (2147483647 : Int32)) % (14 : Int32))), .val (.ref w_OPTIONAL_TEXT), .val (.int (0 : Int32))] [])) _
        refine XS.iconst X4.here hx rfl (hb hby at_37) ?_
        show Steps p.tables e below (T4.setTop (mkF m 38 #[.val (.int p1), .val (.int ((p1 &&& (2147483647 : Int32)) % (14 : Int32))), .val (.ref w_OPTIONAL_TEXT), .val (.int (0 : Int32))] [(.int (1 : Int32))])) _
        refine XS.goto X4.here hx rfl (pc0 := 38) (pc' := 42) rfl (hb hby at_38) (by decide) (by decide) ?_
        show Steps p.tables e below (T4.setTop (mkF m 42 #[.val (.int p1), .val (.int ((p1 &&& (2147483647 : Int32)) % (14 : Int32))), .val (.ref w_OPTIONAL_TEXT), .val (.int (0 : Int32))] [(.int (1 : Int32))])) _
        exact retN X4 hx (t := .boolean) Bd.returns (by simp) (hb hby at_42) hr
      · show Q_rm0 Z p1 w_TEXT w_OPTIONAL_TEXT w_VALUE w_REFERENCE w_LINK w_TIME w_OPTIONAL_TIME w_ARRAY w_OPTIONAL_ARRAY w_OBJECT w_BIRTH w_REPORT_NAME w_RESULT_TYPE w_VALUE_MOMENT h0 n0 _ T4.heap _
        exact ⟨rfl, N4⟩
    · by_cases hc3 : ((p1 &&& (2147483647 : Int32)) % (14 : Int32)) = (2 : Int32)
      · obtain ⟨_, _, ⟨T5, L5, k5, n5⟩, -, X5, ⟨Lc5, hQ5, l5, y5, z5⟩, st5⟩ := Jvm.LawKit.callS X0 hx (y := (⟨"com/example/indberet/indberet/KindKeepsTextPinLaw", "kind", "(I)Lcom/example/indberet/indberet/Lpr3Class$Kind;"⟩ : MethodName)) hown (mvT hZ (hw _ (List.mem_of_getElem? (i := 1) rfl))) (mvT hZ (hw _ (List.mem_of_getElem? (i := 2) rfl))) (mvT hZ (hw _ (List.mem_of_getElem? (i := 3) rfl))) (mvT hZ (hw _ (List.mem_of_getElem? (i := 4) rfl))) (by decide) (backOf (W := 0) (rm_pk2 l Z a0 hw [] ((p1 &&& (2147483647 : Int32)) % (14 : Int32)) w_VALUE h0 n0 Z0 pr2 pr14 hc1 hc2 hc3) hZ (hw _ (List.mem_of_getElem? (i := 4) rfl)) (hw _ (List.mem_of_getElem? (i := 3) rfl)) (by decide) (by decide)) (g := (mkF m 9 #[.val (.int p1), .val (.int ((p1 &&& (2147483647 : Int32)) % (14 : Int32))), .unset, .unset] [(.int ((p1 &&& (2147483647 : Int32)) % (14 : Int32)))])) rfl (by rw [hml]; rfl) (argsL := [(.int ((p1 &&& (2147483647 : Int32)) % (14 : Int32)))]) (rest := []) (lenOf pd__40I_41Lcom_47example_47indberet_47indberet_47Lpr3Class_36Kind_59 rfl) rfl (by show 2 * 0 + _ ≤ _; exact Nat.le_of_eq rfl) (hb hby at_9) (fun _ _ => ⟨rfl, e0, (by decide : 0 + 0 ≤ _), (by decide : 0 + 0 ≤ _)⟩)
        dsimp only [Pt.U, Pt.locs, Pt.cells, Pt.slots] at X5 l5 y5 z5 st5 hQ5
        subst l5 y5 z5
        obtain ⟨rfl, Nq5, e5⟩ := hQ5
        have N5 := Fr.app N0 Nq5
        obtain ⟨cq6, kq6, q6a, q6b, q6c⟩ := isOf hZ e5 pr17
        obtain ⟨_, _, ⟨T6, L6, k6, n6⟩, -, X6, ⟨Lc6, hQ6, l6, y6, z6⟩, st6⟩ := X5.virtualBack hx (y := (⟨"com/example/indberet/indberet/Lpr3Class$Kind", "keepsText", "()Z"⟩ : MethodName)) (z := (⟨"com/example/indberet/indberet/Lpr3Class$Kind", "keepsText", "()Z"⟩ : MethodName)) hown (mvT hZ (hw _ (List.mem_of_getElem? (i := 8) rfl))) (mvT hZ (hw _ (List.mem_of_getElem? (i := 9) rfl))) (notFace_of_selects (args := #[]) (mvT hZ (hw _ (List.mem_of_getElem? (i := 11) rfl)))) (mvT hZ (hw _ (List.mem_of_getElem? (i := 11) rfl))) (mvT hZ (hw _ (List.mem_of_getElem? (i := 10) rfl))) (by decide) (backOf (W := 0) (rm_t0 l Z a0 hw [] w_VALUE h0 n0 Z0 pr2 pr14) hZ (hw _ (List.mem_of_getElem? (i := 12) rfl)) (hw _ (List.mem_of_getElem? (i := 6) rfl)) (by decide) (by decide)) q6a q6c (g := (mkF m 30 #[.val (.int p1), .val (.int ((p1 &&& (2147483647 : Int32)) % (14 : Int32))), .val (.ref w_VALUE), .val (.int (1 : Int32))] [(.ref w_VALUE)])) rfl (by rw [hml]; rfl) (Steps.refl _) (argsL := []) (rest := []) (lenOf pd__40_41Z rfl) rfl (by show 2 * 0 + _ ≤ _; exact Nat.le_of_eq rfl) (hb hby at_30) (fun _ _ => ⟨rfl, e5, (by decide : 0 + 0 ≤ _), (by decide : 0 + 0 ≤ _)⟩)
        dsimp only [Pt.U, Pt.locs, Pt.cells, Pt.slots] at X6 l6 y6 z6 st6 hQ6
        subst l6 y6 z6
        obtain ⟨rfl, Nq6, e6⟩ := hQ6
        have N6 := Fr.app N5 Nq6
        obtain ⟨fs, hr, hrun, hended, hW, hsame⟩ := X6.leave (v := some (.int (1 : Int32))) (fun h => by rw [Bd.returns] at h; cases h)
        refine ⟨_, _, pre0 _ ?_, hrun, hended, _, _, rfl, ?_, ⟨_, rfl⟩, hW, hsame.mono (by decide) (by decide)⟩
        · show Steps p.tables e below (s₁.setTop (mkF m 0 #[.val (.int p1), .unset, .unset, .unset] [])) _
          refine XS.iloadN X0.here hx rfl (hb hby at_0) rfl ?_
          show Steps p.tables e below (s₁.setTop (mkF m 1 #[.val (.int p1), .unset, .unset, .unset] [(.int p1)])) _
          refine X0.ldcInt hx hown (mvT hZ (hw _ (List.mem_of_getElem? (i := 0) rfl))) (g := (mkF m 1 #[.val (.int p1), .unset, .unset, .unset] [(.int p1)])) rfl (hb hby at_1) _ ?_
          show Steps p.tables e below (s₁.setTop (mkF m 3 #[.val (.int p1), .unset, .unset, .unset] [(.int (2147483647 : Int32)), (.int p1)])) _
          refine XS.iand X0.here hx rfl (hb hby at_3) rfl ?_
          show Steps p.tables e below (s₁.setTop (mkF m 4 #[.val (.int p1), .unset, .unset, .unset] [(.int (p1 &&& (2147483647 : Int32)))])) _
          refine XS.bipush X0.here hx rfl (hb hby at_4) ?_
          show Steps p.tables e below (s₁.setTop (mkF m 6 #[.val (.int p1), .unset, .unset, .unset] [(.int (14 : Int32)), (.int (p1 &&& (2147483647 : Int32)))])) _
          refine iremM X0 hx rfl (hb hby at_6) rfl (by decide : ¬ ((14 : Int32) = (0 : Int32))) ?_
          show Steps p.tables e below (s₁.setTop (mkF m 7 #[.val (.int p1), .unset, .unset, .unset] [(.int ((p1 &&& (2147483647 : Int32)) % (14 : Int32)))])) _
          refine XS.istoreN X0.here hx rfl (hb hby at_7) rfl (l' := #[.val (.int p1), .val (.int ((p1 &&& (2147483647 : Int32)) % (14 : Int32))), .unset, .unset]) rfl ?_
          show Steps p.tables e below (s₁.setTop (mkF m 8 #[.val (.int p1), .val (.int ((p1 &&& (2147483647 : Int32)) % (14 : Int32))), .unset, .unset] [])) _
          refine XS.iloadN X0.here hx rfl (hb hby at_8) rfl ?_
          show Steps p.tables e below (s₁.setTop (mkF m 9 #[.val (.int p1), .val (.int ((p1 &&& (2147483647 : Int32)) % (14 : Int32))), .unset, .unset] [(.int ((p1 &&& (2147483647 : Int32)) % (14 : Int32)))])) _
          refine st5 _ ?_
          show Steps p.tables e below (T5.setTop (mkF m 12 #[.val (.int p1), .val (.int ((p1 &&& (2147483647 : Int32)) % (14 : Int32))), .unset, .unset] [(.ref w_VALUE)])) _
          refine XS.astoreN X5.here hx rfl (hb hby at_12) rfl rfl (l' := #[.val (.int p1), .val (.int ((p1 &&& (2147483647 : Int32)) % (14 : Int32))), .val (.ref w_VALUE), .unset]) rfl ?_
          show Steps p.tables e below (T5.setTop (mkF m 13 #[.val (.int p1), .val (.int ((p1 &&& (2147483647 : Int32)) % (14 : Int32))), .val (.ref w_VALUE), .unset] [])) _
          refine XS.sipush X5.here hx rfl (hb hby at_13) ?_
          show Steps p.tables e below (T5.setTop (mkF m 16 #[.val (.int p1), .val (.int ((p1 &&& (2147483647 : Int32)) % (14 : Int32))), .val (.ref w_VALUE), .unset] [(.int (2076 : Int32))])) _
          refine XS.iloadN X5.here hx rfl (hb hby at_16) rfl ?_
          show Steps p.tables e below (T5.setTop (mkF m 17 #[.val (.int p1), .val (.int ((p1 &&& (2147483647 : Int32)) % (14 : Int32))), .val (.ref w_VALUE), .unset] [(.int ((p1 &&& (2147483647 : Int32)) % (14 : Int32))), (.int (2076 : Int32))])) _
          refine XS.iushr X5.here hx rfl (hb hby at_17) rfl ?_
          show Steps p.tables e below (T5.setTop (mkF m 18 #[.val (.int p1), .val (.int ((p1 &&& (2147483647 : Int32)) % (14 : Int32))), .val (.ref w_VALUE), .unset] [(.int (((2076 : Int32).toUInt32 >>> (((p1 &&& (2147483647 : Int32)) % (14 : Int32)) &&& 31).toUInt32).toInt32))])) _
          refine XS.iconst X5.here hx rfl (hb hby at_18) ?_
          show Steps p.tables e below (T5.setTop (mkF m 19 #[.val (.int p1), .val (.int ((p1 &&& (2147483647 : Int32)) % (14 : Int32))), .val (.ref w_VALUE), .unset] [(.int (1 : Int32)), (.int (((2076 : Int32).toUInt32 >>> (((p1 &&& (2147483647 : Int32)) % (14 : Int32)) &&& 31).toUInt32).toInt32))])) _
          refine XS.iand X5.here hx rfl (hb hby at_19) rfl ?_
          show Steps p.tables e below (T5.setTop (mkF m 20 #[.val (.int p1), .val (.int ((p1 &&& (2147483647 : Int32)) % (14 : Int32))), .val (.ref w_VALUE), .unset] [(.int ((((2076 : Int32).toUInt32 >>> (((p1 &&& (2147483647 : Int32)) % (14 : Int32)) &&& 31).toUInt32).toInt32) &&& (1 : Int32)))])) _
          refine XS.ifNo X5.here hx rfl (hb hby at_20) rfl ((if0 _ _).trans (feq (by rw [hc3]; decide : ¬ (((((2076 : Int32).toUInt32 >>> (((p1 &&& (2147483647 : Int32)) % (14 : Int32)) &&& 31).toUInt32).toInt32) &&& (1 : Int32)) = (0 : Int32)))).1) ?_
          show Steps p.tables e below (T5.setTop (mkF m 23 #[.val (.int p1), .val (.int ((p1 &&& (2147483647 : Int32)) % (14 : Int32))), .val (.ref w_VALUE), .unset] [])) _
          refine XS.iconst X5.here hx rfl (hb hby at_23) ?_
          show Steps p.tables e below (T5.setTop (mkF m 24 #[.val (.int p1), .val (.int ((p1 &&& (2147483647 : Int32)) % (14 : Int32))), .val (.ref w_VALUE), .unset] [(.int (1 : Int32))])) _
          refine XS.goto X5.here hx rfl (pc0 := 24) (pc' := 28) rfl (hb hby at_24) (by decide) (by decide) ?_
          show Steps p.tables e below (T5.setTop (mkF m 28 #[.val (.int p1), .val (.int ((p1 &&& (2147483647 : Int32)) % (14 : Int32))), .val (.ref w_VALUE), .unset] [(.int (1 : Int32))])) _
          refine XS.istoreN X5.here hx rfl (hb hby at_28) rfl (l' := #[.val (.int p1), .val (.int ((p1 &&& (2147483647 : Int32)) % (14 : Int32))), .val (.ref w_VALUE), .val (.int (1 : Int32))]) rfl ?_
          show Steps p.tables e below (T5.setTop (mkF m 29 #[.val (.int p1), .val (.int ((p1 &&& (2147483647 : Int32)) % (14 : Int32))), .val (.ref w_VALUE), .val (.int (1 : Int32))] [])) _
          refine XS.aloadN X5.here hx rfl (hb hby at_29) rfl rfl ?_
          show Steps p.tables e below (T5.setTop (mkF m 30 #[.val (.int p1), .val (.int ((p1 &&& (2147483647 : Int32)) % (14 : Int32))), .val (.ref w_VALUE), .val (.int (1 : Int32))] [(.ref w_VALUE)])) _
          refine st6.trans ?_
          show Steps p.tables e below (T6.setTop (mkF m 33 #[.val (.int p1), .val (.int ((p1 &&& (2147483647 : Int32)) % (14 : Int32))), .val (.ref w_VALUE), .val (.int (1 : Int32))] [(.int (1 : Int32))])) _
          refine XS.iloadN X6.here hx rfl (hb hby at_33) rfl ?_
          show Steps p.tables e below (T6.setTop (mkF m 34 #[.val (.int p1), .val (.int ((p1 &&& (2147483647 : Int32)) % (14 : Int32))), .val (.ref w_VALUE), .val (.int (1 : Int32))] [(.int (1 : Int32)), (.int (1 : Int32))])) _
          refine XS.icmpNo X6.here hx rfl (hb hby at_34) rfl (teq (by decide : (1 : Int32) = (1 : Int32))).2 ?_
          show Steps p.tables e below (T6.setTop (mkF m 37 #[.val (.int p1), .val (.int ((p1 &&& (2147483647 : Int32)) % (14 : Int32))), .val (.ref w_VALUE), .val (.int (1 : Int32))] [])) _
          refine XS.iconst X6.here hx rfl (hb hby at_37) ?_
          show Steps p.tables e below (T6.setTop (mkF m 38 #[.val (.int p1), .val (.int ((p1 &&& (2147483647 : Int32)) % (14 : Int32))), .val (.ref w_VALUE), .val (.int (1 : Int32))] [(.int (1 : Int32))])) _
          refine XS.goto X6.here hx rfl (pc0 := 38) (pc' := 42) rfl (hb hby at_38) (by decide) (by decide) ?_
          show Steps p.tables e below (T6.setTop (mkF m 42 #[.val (.int p1), .val (.int ((p1 &&& (2147483647 : Int32)) % (14 : Int32))), .val (.ref w_VALUE), .val (.int (1 : Int32))] [(.int (1 : Int32))])) _
          exact retN X6 hx (t := .boolean) Bd.returns (by simp) (hb hby at_42) hr
        · show Q_rm0 Z p1 w_TEXT w_OPTIONAL_TEXT w_VALUE w_REFERENCE w_LINK w_TIME w_OPTIONAL_TIME w_ARRAY w_OPTIONAL_ARRAY w_OBJECT w_BIRTH w_REPORT_NAME w_RESULT_TYPE w_VALUE_MOMENT h0 n0 _ T6.heap _
          exact ⟨rfl, N6⟩
      · by_cases hc4 : ((p1 &&& (2147483647 : Int32)) % (14 : Int32)) = (3 : Int32)
        · obtain ⟨_, _, ⟨T7, L7, k7, n7⟩, -, X7, ⟨Lc7, hQ7, l7, y7, z7⟩, st7⟩ := Jvm.LawKit.callS X0 hx (y := (⟨"com/example/indberet/indberet/KindKeepsTextPinLaw", "kind", "(I)Lcom/example/indberet/indberet/Lpr3Class$Kind;"⟩ : MethodName)) hown (mvT hZ (hw _ (List.mem_of_getElem? (i := 1) rfl))) (mvT hZ (hw _ (List.mem_of_getElem? (i := 2) rfl))) (mvT hZ (hw _ (List.mem_of_getElem? (i := 3) rfl))) (mvT hZ (hw _ (List.mem_of_getElem? (i := 4) rfl))) (by decide) (backOf (W := 0) (rm_pk3 l Z a0 hw [] ((p1 &&& (2147483647 : Int32)) % (14 : Int32)) w_REFERENCE h0 n0 Z0 pr3 pr14 hc1 hc2 hc3 hc4) hZ (hw _ (List.mem_of_getElem? (i := 4) rfl)) (hw _ (List.mem_of_getElem? (i := 3) rfl)) (by decide) (by decide)) (g := (mkF m 9 #[.val (.int p1), .val (.int ((p1 &&& (2147483647 : Int32)) % (14 : Int32))), .unset, .unset] [(.int ((p1 &&& (2147483647 : Int32)) % (14 : Int32)))])) rfl (by rw [hml]; rfl) (argsL := [(.int ((p1 &&& (2147483647 : Int32)) % (14 : Int32)))]) (rest := []) (lenOf pd__40I_41Lcom_47example_47indberet_47indberet_47Lpr3Class_36Kind_59 rfl) rfl (by show 2 * 0 + _ ≤ _; exact Nat.le_of_eq rfl) (hb hby at_9) (fun _ _ => ⟨rfl, e0, (by decide : 0 + 0 ≤ _), (by decide : 0 + 0 ≤ _)⟩)
          dsimp only [Pt.U, Pt.locs, Pt.cells, Pt.slots] at X7 l7 y7 z7 st7 hQ7
          subst l7 y7 z7
          obtain ⟨rfl, Nq7, e7⟩ := hQ7
          have N7 := Fr.app N0 Nq7
          obtain ⟨cq8, kq8, q8a, q8b, q8c⟩ := isOf hZ e7 pr18
          obtain ⟨_, _, ⟨T8, L8, k8, n8⟩, -, X8, ⟨Lc8, hQ8, l8, y8, z8⟩, st8⟩ := X7.virtualBack hx (y := (⟨"com/example/indberet/indberet/Lpr3Class$Kind", "keepsText", "()Z"⟩ : MethodName)) (z := (⟨"com/example/indberet/indberet/Lpr3Class$Kind", "keepsText", "()Z"⟩ : MethodName)) hown (mvT hZ (hw _ (List.mem_of_getElem? (i := 8) rfl))) (mvT hZ (hw _ (List.mem_of_getElem? (i := 9) rfl))) (notFace_of_selects (args := #[]) (mvT hZ (hw _ (List.mem_of_getElem? (i := 11) rfl)))) (mvT hZ (hw _ (List.mem_of_getElem? (i := 11) rfl))) (mvT hZ (hw _ (List.mem_of_getElem? (i := 10) rfl))) (by decide) (backOf (W := 0) (rm_t1 l Z a0 hw [] w_REFERENCE w_VALUE h0 n0 Z0 pr2 pr3 pr14 pr37) hZ (hw _ (List.mem_of_getElem? (i := 12) rfl)) (hw _ (List.mem_of_getElem? (i := 6) rfl)) (by decide) (by decide)) q8a q8c (g := (mkF m 30 #[.val (.int p1), .val (.int ((p1 &&& (2147483647 : Int32)) % (14 : Int32))), .val (.ref w_REFERENCE), .val (.int (1 : Int32))] [(.ref w_REFERENCE)])) rfl (by rw [hml]; rfl) (Steps.refl _) (argsL := []) (rest := []) (lenOf pd__40_41Z rfl) rfl (by show 2 * 0 + _ ≤ _; exact Nat.le_of_eq rfl) (hb hby at_30) (fun _ _ => ⟨rfl, e7, (by decide : 0 + 0 ≤ _), (by decide : 0 + 0 ≤ _)⟩)
          dsimp only [Pt.U, Pt.locs, Pt.cells, Pt.slots] at X8 l8 y8 z8 st8 hQ8
          subst l8 y8 z8
          obtain ⟨rfl, Nq8, e8⟩ := hQ8
          have N8 := Fr.app N7 Nq8
          obtain ⟨fs, hr, hrun, hended, hW, hsame⟩ := X8.leave (v := some (.int (1 : Int32))) (fun h => by rw [Bd.returns] at h; cases h)
          refine ⟨_, _, pre0 _ ?_, hrun, hended, _, _, rfl, ?_, ⟨_, rfl⟩, hW, hsame.mono (by decide) (by decide)⟩
          · show Steps p.tables e below (s₁.setTop (mkF m 0 #[.val (.int p1), .unset, .unset, .unset] [])) _
            refine XS.iloadN X0.here hx rfl (hb hby at_0) rfl ?_
            show Steps p.tables e below (s₁.setTop (mkF m 1 #[.val (.int p1), .unset, .unset, .unset] [(.int p1)])) _
            refine X0.ldcInt hx hown (mvT hZ (hw _ (List.mem_of_getElem? (i := 0) rfl))) (g := (mkF m 1 #[.val (.int p1), .unset, .unset, .unset] [(.int p1)])) rfl (hb hby at_1) _ ?_
            show Steps p.tables e below (s₁.setTop (mkF m 3 #[.val (.int p1), .unset, .unset, .unset] [(.int (2147483647 : Int32)), (.int p1)])) _
            refine XS.iand X0.here hx rfl (hb hby at_3) rfl ?_
            show Steps p.tables e below (s₁.setTop (mkF m 4 #[.val (.int p1), .unset, .unset, .unset] [(.int (p1 &&& (2147483647 : Int32)))])) _
            refine XS.bipush X0.here hx rfl (hb hby at_4) ?_
            show Steps p.tables e below (s₁.setTop (mkF m 6 #[.val (.int p1), .unset, .unset, .unset] [(.int (14 : Int32)), (.int (p1 &&& (2147483647 : Int32)))])) _
            refine iremM X0 hx rfl (hb hby at_6) rfl (by decide : ¬ ((14 : Int32) = (0 : Int32))) ?_
            show Steps p.tables e below (s₁.setTop (mkF m 7 #[.val (.int p1), .unset, .unset, .unset] [(.int ((p1 &&& (2147483647 : Int32)) % (14 : Int32)))])) _
            refine XS.istoreN X0.here hx rfl (hb hby at_7) rfl (l' := #[.val (.int p1), .val (.int ((p1 &&& (2147483647 : Int32)) % (14 : Int32))), .unset, .unset]) rfl ?_
            show Steps p.tables e below (s₁.setTop (mkF m 8 #[.val (.int p1), .val (.int ((p1 &&& (2147483647 : Int32)) % (14 : Int32))), .unset, .unset] [])) _
            refine XS.iloadN X0.here hx rfl (hb hby at_8) rfl ?_
            show Steps p.tables e below (s₁.setTop (mkF m 9 #[.val (.int p1), .val (.int ((p1 &&& (2147483647 : Int32)) % (14 : Int32))), .unset, .unset] [(.int ((p1 &&& (2147483647 : Int32)) % (14 : Int32)))])) _
            refine st7 _ ?_
            show Steps p.tables e below (T7.setTop (mkF m 12 #[.val (.int p1), .val (.int ((p1 &&& (2147483647 : Int32)) % (14 : Int32))), .unset, .unset] [(.ref w_REFERENCE)])) _
            refine XS.astoreN X7.here hx rfl (hb hby at_12) rfl rfl (l' := #[.val (.int p1), .val (.int ((p1 &&& (2147483647 : Int32)) % (14 : Int32))), .val (.ref w_REFERENCE), .unset]) rfl ?_
            show Steps p.tables e below (T7.setTop (mkF m 13 #[.val (.int p1), .val (.int ((p1 &&& (2147483647 : Int32)) % (14 : Int32))), .val (.ref w_REFERENCE), .unset] [])) _
            refine XS.sipush X7.here hx rfl (hb hby at_13) ?_
            show Steps p.tables e below (T7.setTop (mkF m 16 #[.val (.int p1), .val (.int ((p1 &&& (2147483647 : Int32)) % (14 : Int32))), .val (.ref w_REFERENCE), .unset] [(.int (2076 : Int32))])) _
            refine XS.iloadN X7.here hx rfl (hb hby at_16) rfl ?_
            show Steps p.tables e below (T7.setTop (mkF m 17 #[.val (.int p1), .val (.int ((p1 &&& (2147483647 : Int32)) % (14 : Int32))), .val (.ref w_REFERENCE), .unset] [(.int ((p1 &&& (2147483647 : Int32)) % (14 : Int32))), (.int (2076 : Int32))])) _
            refine XS.iushr X7.here hx rfl (hb hby at_17) rfl ?_
            show Steps p.tables e below (T7.setTop (mkF m 18 #[.val (.int p1), .val (.int ((p1 &&& (2147483647 : Int32)) % (14 : Int32))), .val (.ref w_REFERENCE), .unset] [(.int (((2076 : Int32).toUInt32 >>> (((p1 &&& (2147483647 : Int32)) % (14 : Int32)) &&& 31).toUInt32).toInt32))])) _
            refine XS.iconst X7.here hx rfl (hb hby at_18) ?_
            show Steps p.tables e below (T7.setTop (mkF m 19 #[.val (.int p1), .val (.int ((p1 &&& (2147483647 : Int32)) % (14 : Int32))), .val (.ref w_REFERENCE), .unset] [(.int (1 : Int32)), (.int (((2076 : Int32).toUInt32 >>> (((p1 &&& (2147483647 : Int32)) % (14 : Int32)) &&& 31).toUInt32).toInt32))])) _
            refine XS.iand X7.here hx rfl (hb hby at_19) rfl ?_
            show Steps p.tables e below (T7.setTop (mkF m 20 #[.val (.int p1), .val (.int ((p1 &&& (2147483647 : Int32)) % (14 : Int32))), .val (.ref w_REFERENCE), .unset] [(.int ((((2076 : Int32).toUInt32 >>> (((p1 &&& (2147483647 : Int32)) % (14 : Int32)) &&& 31).toUInt32).toInt32) &&& (1 : Int32)))])) _
            refine XS.ifNo X7.here hx rfl (hb hby at_20) rfl ((if0 _ _).trans (feq (by rw [hc4]; decide : ¬ (((((2076 : Int32).toUInt32 >>> (((p1 &&& (2147483647 : Int32)) % (14 : Int32)) &&& 31).toUInt32).toInt32) &&& (1 : Int32)) = (0 : Int32)))).1) ?_
            show Steps p.tables e below (T7.setTop (mkF m 23 #[.val (.int p1), .val (.int ((p1 &&& (2147483647 : Int32)) % (14 : Int32))), .val (.ref w_REFERENCE), .unset] [])) _
            refine XS.iconst X7.here hx rfl (hb hby at_23) ?_
            show Steps p.tables e below (T7.setTop (mkF m 24 #[.val (.int p1), .val (.int ((p1 &&& (2147483647 : Int32)) % (14 : Int32))), .val (.ref w_REFERENCE), .unset] [(.int (1 : Int32))])) _
            refine XS.goto X7.here hx rfl (pc0 := 24) (pc' := 28) rfl (hb hby at_24) (by decide) (by decide) ?_
            show Steps p.tables e below (T7.setTop (mkF m 28 #[.val (.int p1), .val (.int ((p1 &&& (2147483647 : Int32)) % (14 : Int32))), .val (.ref w_REFERENCE), .unset] [(.int (1 : Int32))])) _
            refine XS.istoreN X7.here hx rfl (hb hby at_28) rfl (l' := #[.val (.int p1), .val (.int ((p1 &&& (2147483647 : Int32)) % (14 : Int32))), .val (.ref w_REFERENCE), .val (.int (1 : Int32))]) rfl ?_
            show Steps p.tables e below (T7.setTop (mkF m 29 #[.val (.int p1), .val (.int ((p1 &&& (2147483647 : Int32)) % (14 : Int32))), .val (.ref w_REFERENCE), .val (.int (1 : Int32))] [])) _
            refine XS.aloadN X7.here hx rfl (hb hby at_29) rfl rfl ?_
            show Steps p.tables e below (T7.setTop (mkF m 30 #[.val (.int p1), .val (.int ((p1 &&& (2147483647 : Int32)) % (14 : Int32))), .val (.ref w_REFERENCE), .val (.int (1 : Int32))] [(.ref w_REFERENCE)])) _
            refine st8.trans ?_
            show Steps p.tables e below (T8.setTop (mkF m 33 #[.val (.int p1), .val (.int ((p1 &&& (2147483647 : Int32)) % (14 : Int32))), .val (.ref w_REFERENCE), .val (.int (1 : Int32))] [(.int (1 : Int32))])) _
            refine XS.iloadN X8.here hx rfl (hb hby at_33) rfl ?_
            show Steps p.tables e below (T8.setTop (mkF m 34 #[.val (.int p1), .val (.int ((p1 &&& (2147483647 : Int32)) % (14 : Int32))), .val (.ref w_REFERENCE), .val (.int (1 : Int32))] [(.int (1 : Int32)), (.int (1 : Int32))])) _
            refine XS.icmpNo X8.here hx rfl (hb hby at_34) rfl (teq (by decide : (1 : Int32) = (1 : Int32))).2 ?_
            show Steps p.tables e below (T8.setTop (mkF m 37 #[.val (.int p1), .val (.int ((p1 &&& (2147483647 : Int32)) % (14 : Int32))), .val (.ref w_REFERENCE), .val (.int (1 : Int32))] [])) _
            refine XS.iconst X8.here hx rfl (hb hby at_37) ?_
            show Steps p.tables e below (T8.setTop (mkF m 38 #[.val (.int p1), .val (.int ((p1 &&& (2147483647 : Int32)) % (14 : Int32))), .val (.ref w_REFERENCE), .val (.int (1 : Int32))] [(.int (1 : Int32))])) _
            refine XS.goto X8.here hx rfl (pc0 := 38) (pc' := 42) rfl (hb hby at_38) (by decide) (by decide) ?_
            show Steps p.tables e below (T8.setTop (mkF m 42 #[.val (.int p1), .val (.int ((p1 &&& (2147483647 : Int32)) % (14 : Int32))), .val (.ref w_REFERENCE), .val (.int (1 : Int32))] [(.int (1 : Int32))])) _
            exact retN X8 hx (t := .boolean) Bd.returns (by simp) (hb hby at_42) hr
          · show Q_rm0 Z p1 w_TEXT w_OPTIONAL_TEXT w_VALUE w_REFERENCE w_LINK w_TIME w_OPTIONAL_TIME w_ARRAY w_OPTIONAL_ARRAY w_OBJECT w_BIRTH w_REPORT_NAME w_RESULT_TYPE w_VALUE_MOMENT h0 n0 _ T8.heap _
            exact ⟨rfl, N8⟩
        · by_cases hc5 : ((p1 &&& (2147483647 : Int32)) % (14 : Int32)) = (4 : Int32)
          · obtain ⟨_, _, ⟨T9, L9, k9, n9⟩, -, X9, ⟨Lc9, hQ9, l9, y9, z9⟩, st9⟩ := Jvm.LawKit.callS X0 hx (y := (⟨"com/example/indberet/indberet/KindKeepsTextPinLaw", "kind", "(I)Lcom/example/indberet/indberet/Lpr3Class$Kind;"⟩ : MethodName)) hown (mvT hZ (hw _ (List.mem_of_getElem? (i := 1) rfl))) (mvT hZ (hw _ (List.mem_of_getElem? (i := 2) rfl))) (mvT hZ (hw _ (List.mem_of_getElem? (i := 3) rfl))) (mvT hZ (hw _ (List.mem_of_getElem? (i := 4) rfl))) (by decide) (backOf (W := 0) (rm_pk4 l Z a0 hw [] ((p1 &&& (2147483647 : Int32)) % (14 : Int32)) w_LINK h0 n0 Z0 pr4 pr14 hc1 hc2 hc3 hc4 hc5) hZ (hw _ (List.mem_of_getElem? (i := 4) rfl)) (hw _ (List.mem_of_getElem? (i := 3) rfl)) (by decide) (by decide)) (g := (mkF m 9 #[.val (.int p1), .val (.int ((p1 &&& (2147483647 : Int32)) % (14 : Int32))), .unset, .unset] [(.int ((p1 &&& (2147483647 : Int32)) % (14 : Int32)))])) rfl (by rw [hml]; rfl) (argsL := [(.int ((p1 &&& (2147483647 : Int32)) % (14 : Int32)))]) (rest := []) (lenOf pd__40I_41Lcom_47example_47indberet_47indberet_47Lpr3Class_36Kind_59 rfl) rfl (by show 2 * 0 + _ ≤ _; exact Nat.le_of_eq rfl) (hb hby at_9) (fun _ _ => ⟨rfl, e0, (by decide : 0 + 0 ≤ _), (by decide : 0 + 0 ≤ _)⟩)
            dsimp only [Pt.U, Pt.locs, Pt.cells, Pt.slots] at X9 l9 y9 z9 st9 hQ9
            subst l9 y9 z9
            obtain ⟨rfl, Nq9, e9⟩ := hQ9
            have N9 := Fr.app N0 Nq9
            obtain ⟨cq10, kq10, q10a, q10b, q10c⟩ := isOf hZ e9 pr19
            obtain ⟨_, _, ⟨T10, L10, k10, n10⟩, -, X10, ⟨Lc10, hQ10, l10, y10, z10⟩, st10⟩ := X9.virtualBack hx (y := (⟨"com/example/indberet/indberet/Lpr3Class$Kind", "keepsText", "()Z"⟩ : MethodName)) (z := (⟨"com/example/indberet/indberet/Lpr3Class$Kind", "keepsText", "()Z"⟩ : MethodName)) hown (mvT hZ (hw _ (List.mem_of_getElem? (i := 8) rfl))) (mvT hZ (hw _ (List.mem_of_getElem? (i := 9) rfl))) (notFace_of_selects (args := #[]) (mvT hZ (hw _ (List.mem_of_getElem? (i := 11) rfl)))) (mvT hZ (hw _ (List.mem_of_getElem? (i := 11) rfl))) (mvT hZ (hw _ (List.mem_of_getElem? (i := 10) rfl))) (by decide) (backOf (W := 0) (rm_t2 l Z a0 hw [] w_LINK w_VALUE w_REFERENCE h0 n0 Z0 pr2 pr3 pr4 pr14 pr38 pr39) hZ (hw _ (List.mem_of_getElem? (i := 12) rfl)) (hw _ (List.mem_of_getElem? (i := 6) rfl)) (by decide) (by decide)) q10a q10c (g := (mkF m 30 #[.val (.int p1), .val (.int ((p1 &&& (2147483647 : Int32)) % (14 : Int32))), .val (.ref w_LINK), .val (.int (1 : Int32))] [(.ref w_LINK)])) rfl (by rw [hml]; rfl) (Steps.refl _) (argsL := []) (rest := []) (lenOf pd__40_41Z rfl) rfl (by show 2 * 0 + _ ≤ _; exact Nat.le_of_eq rfl) (hb hby at_30) (fun _ _ => ⟨rfl, e9, (by decide : 0 + 0 ≤ _), (by decide : 0 + 0 ≤ _)⟩)
            dsimp only [Pt.U, Pt.locs, Pt.cells, Pt.slots] at X10 l10 y10 z10 st10 hQ10
            subst l10 y10 z10
            obtain ⟨rfl, Nq10, e10⟩ := hQ10
            have N10 := Fr.app N9 Nq10
            obtain ⟨fs, hr, hrun, hended, hW, hsame⟩ := X10.leave (v := some (.int (1 : Int32))) (fun h => by rw [Bd.returns] at h; cases h)
            refine ⟨_, _, pre0 _ ?_, hrun, hended, _, _, rfl, ?_, ⟨_, rfl⟩, hW, hsame.mono (by decide) (by decide)⟩
            · show Steps p.tables e below (s₁.setTop (mkF m 0 #[.val (.int p1), .unset, .unset, .unset] [])) _
              refine XS.iloadN X0.here hx rfl (hb hby at_0) rfl ?_
              show Steps p.tables e below (s₁.setTop (mkF m 1 #[.val (.int p1), .unset, .unset, .unset] [(.int p1)])) _
              refine X0.ldcInt hx hown (mvT hZ (hw _ (List.mem_of_getElem? (i := 0) rfl))) (g := (mkF m 1 #[.val (.int p1), .unset, .unset, .unset] [(.int p1)])) rfl (hb hby at_1) _ ?_
              show Steps p.tables e below (s₁.setTop (mkF m 3 #[.val (.int p1), .unset, .unset, .unset] [(.int (2147483647 : Int32)), (.int p1)])) _
              refine XS.iand X0.here hx rfl (hb hby at_3) rfl ?_
              show Steps p.tables e below (s₁.setTop (mkF m 4 #[.val (.int p1), .unset, .unset, .unset] [(.int (p1 &&& (2147483647 : Int32)))])) _
              refine XS.bipush X0.here hx rfl (hb hby at_4) ?_
              show Steps p.tables e below (s₁.setTop (mkF m 6 #[.val (.int p1), .unset, .unset, .unset] [(.int (14 : Int32)), (.int (p1 &&& (2147483647 : Int32)))])) _
              refine iremM X0 hx rfl (hb hby at_6) rfl (by decide : ¬ ((14 : Int32) = (0 : Int32))) ?_
              show Steps p.tables e below (s₁.setTop (mkF m 7 #[.val (.int p1), .unset, .unset, .unset] [(.int ((p1 &&& (2147483647 : Int32)) % (14 : Int32)))])) _
              refine XS.istoreN X0.here hx rfl (hb hby at_7) rfl (l' := #[.val (.int p1), .val (.int ((p1 &&& (2147483647 : Int32)) % (14 : Int32))), .unset, .unset]) rfl ?_
              show Steps p.tables e below (s₁.setTop (mkF m 8 #[.val (.int p1), .val (.int ((p1 &&& (2147483647 : Int32)) % (14 : Int32))), .unset, .unset] [])) _
              refine XS.iloadN X0.here hx rfl (hb hby at_8) rfl ?_
              show Steps p.tables e below (s₁.setTop (mkF m 9 #[.val (.int p1), .val (.int ((p1 &&& (2147483647 : Int32)) % (14 : Int32))), .unset, .unset] [(.int ((p1 &&& (2147483647 : Int32)) % (14 : Int32)))])) _
              refine st9 _ ?_
              show Steps p.tables e below (T9.setTop (mkF m 12 #[.val (.int p1), .val (.int ((p1 &&& (2147483647 : Int32)) % (14 : Int32))), .unset, .unset] [(.ref w_LINK)])) _
              refine XS.astoreN X9.here hx rfl (hb hby at_12) rfl rfl (l' := #[.val (.int p1), .val (.int ((p1 &&& (2147483647 : Int32)) % (14 : Int32))), .val (.ref w_LINK), .unset]) rfl ?_
              show Steps p.tables e below (T9.setTop (mkF m 13 #[.val (.int p1), .val (.int ((p1 &&& (2147483647 : Int32)) % (14 : Int32))), .val (.ref w_LINK), .unset] [])) _
              refine XS.sipush X9.here hx rfl (hb hby at_13) ?_
              show Steps p.tables e below (T9.setTop (mkF m 16 #[.val (.int p1), .val (.int ((p1 &&& (2147483647 : Int32)) % (14 : Int32))), .val (.ref w_LINK), .unset] [(.int (2076 : Int32))])) _
              refine XS.iloadN X9.here hx rfl (hb hby at_16) rfl ?_
              show Steps p.tables e below (T9.setTop (mkF m 17 #[.val (.int p1), .val (.int ((p1 &&& (2147483647 : Int32)) % (14 : Int32))), .val (.ref w_LINK), .unset] [(.int ((p1 &&& (2147483647 : Int32)) % (14 : Int32))), (.int (2076 : Int32))])) _
              refine XS.iushr X9.here hx rfl (hb hby at_17) rfl ?_
              show Steps p.tables e below (T9.setTop (mkF m 18 #[.val (.int p1), .val (.int ((p1 &&& (2147483647 : Int32)) % (14 : Int32))), .val (.ref w_LINK), .unset] [(.int (((2076 : Int32).toUInt32 >>> (((p1 &&& (2147483647 : Int32)) % (14 : Int32)) &&& 31).toUInt32).toInt32))])) _
              refine XS.iconst X9.here hx rfl (hb hby at_18) ?_
              show Steps p.tables e below (T9.setTop (mkF m 19 #[.val (.int p1), .val (.int ((p1 &&& (2147483647 : Int32)) % (14 : Int32))), .val (.ref w_LINK), .unset] [(.int (1 : Int32)), (.int (((2076 : Int32).toUInt32 >>> (((p1 &&& (2147483647 : Int32)) % (14 : Int32)) &&& 31).toUInt32).toInt32))])) _
              refine XS.iand X9.here hx rfl (hb hby at_19) rfl ?_
              show Steps p.tables e below (T9.setTop (mkF m 20 #[.val (.int p1), .val (.int ((p1 &&& (2147483647 : Int32)) % (14 : Int32))), .val (.ref w_LINK), .unset] [(.int ((((2076 : Int32).toUInt32 >>> (((p1 &&& (2147483647 : Int32)) % (14 : Int32)) &&& 31).toUInt32).toInt32) &&& (1 : Int32)))])) _
              refine XS.ifNo X9.here hx rfl (hb hby at_20) rfl ((if0 _ _).trans (feq (by rw [hc5]; decide : ¬ (((((2076 : Int32).toUInt32 >>> (((p1 &&& (2147483647 : Int32)) % (14 : Int32)) &&& 31).toUInt32).toInt32) &&& (1 : Int32)) = (0 : Int32)))).1) ?_
              show Steps p.tables e below (T9.setTop (mkF m 23 #[.val (.int p1), .val (.int ((p1 &&& (2147483647 : Int32)) % (14 : Int32))), .val (.ref w_LINK), .unset] [])) _
              refine XS.iconst X9.here hx rfl (hb hby at_23) ?_
              show Steps p.tables e below (T9.setTop (mkF m 24 #[.val (.int p1), .val (.int ((p1 &&& (2147483647 : Int32)) % (14 : Int32))), .val (.ref w_LINK), .unset] [(.int (1 : Int32))])) _
              refine XS.goto X9.here hx rfl (pc0 := 24) (pc' := 28) rfl (hb hby at_24) (by decide) (by decide) ?_
              show Steps p.tables e below (T9.setTop (mkF m 28 #[.val (.int p1), .val (.int ((p1 &&& (2147483647 : Int32)) % (14 : Int32))), .val (.ref w_LINK), .unset] [(.int (1 : Int32))])) _
              refine XS.istoreN X9.here hx rfl (hb hby at_28) rfl (l' := #[.val (.int p1), .val (.int ((p1 &&& (2147483647 : Int32)) % (14 : Int32))), .val (.ref w_LINK), .val (.int (1 : Int32))]) rfl ?_
              show Steps p.tables e below (T9.setTop (mkF m 29 #[.val (.int p1), .val (.int ((p1 &&& (2147483647 : Int32)) % (14 : Int32))), .val (.ref w_LINK), .val (.int (1 : Int32))] [])) _
              refine XS.aloadN X9.here hx rfl (hb hby at_29) rfl rfl ?_
              show Steps p.tables e below (T9.setTop (mkF m 30 #[.val (.int p1), .val (.int ((p1 &&& (2147483647 : Int32)) % (14 : Int32))), .val (.ref w_LINK), .val (.int (1 : Int32))] [(.ref w_LINK)])) _
              refine st10.trans ?_
              show Steps p.tables e below (T10.setTop (mkF m 33 #[.val (.int p1), .val (.int ((p1 &&& (2147483647 : Int32)) % (14 : Int32))), .val (.ref w_LINK), .val (.int (1 : Int32))] [(.int (1 : Int32))])) _
              refine XS.iloadN X10.here hx rfl (hb hby at_33) rfl ?_
              show Steps p.tables e below (T10.setTop (mkF m 34 #[.val (.int p1), .val (.int ((p1 &&& (2147483647 : Int32)) % (14 : Int32))), .val (.ref w_LINK), .val (.int (1 : Int32))] [(.int (1 : Int32)), (.int (1 : Int32))])) _
              refine XS.icmpNo X10.here hx rfl (hb hby at_34) rfl (teq (by decide : (1 : Int32) = (1 : Int32))).2 ?_
              show Steps p.tables e below (T10.setTop (mkF m 37 #[.val (.int p1), .val (.int ((p1 &&& (2147483647 : Int32)) % (14 : Int32))), .val (.ref w_LINK), .val (.int (1 : Int32))] [])) _
              refine XS.iconst X10.here hx rfl (hb hby at_37) ?_
              show Steps p.tables e below (T10.setTop (mkF m 38 #[.val (.int p1), .val (.int ((p1 &&& (2147483647 : Int32)) % (14 : Int32))), .val (.ref w_LINK), .val (.int (1 : Int32))] [(.int (1 : Int32))])) _
              refine XS.goto X10.here hx rfl (pc0 := 38) (pc' := 42) rfl (hb hby at_38) (by decide) (by decide) ?_
              show Steps p.tables e below (T10.setTop (mkF m 42 #[.val (.int p1), .val (.int ((p1 &&& (2147483647 : Int32)) % (14 : Int32))), .val (.ref w_LINK), .val (.int (1 : Int32))] [(.int (1 : Int32))])) _
              exact retN X10 hx (t := .boolean) Bd.returns (by simp) (hb hby at_42) hr
            · show Q_rm0 Z p1 w_TEXT w_OPTIONAL_TEXT w_VALUE w_REFERENCE w_LINK w_TIME w_OPTIONAL_TIME w_ARRAY w_OPTIONAL_ARRAY w_OBJECT w_BIRTH w_REPORT_NAME w_RESULT_TYPE w_VALUE_MOMENT h0 n0 _ T10.heap _
              exact ⟨rfl, N10⟩
          · by_cases hc6 : ((p1 &&& (2147483647 : Int32)) % (14 : Int32)) = (5 : Int32)
            · obtain ⟨_, _, ⟨T11, L11, k11, n11⟩, -, X11, ⟨Lc11, hQ11, l11, y11, z11⟩, st11⟩ := Jvm.LawKit.callS X0 hx (y := (⟨"com/example/indberet/indberet/KindKeepsTextPinLaw", "kind", "(I)Lcom/example/indberet/indberet/Lpr3Class$Kind;"⟩ : MethodName)) hown (mvT hZ (hw _ (List.mem_of_getElem? (i := 1) rfl))) (mvT hZ (hw _ (List.mem_of_getElem? (i := 2) rfl))) (mvT hZ (hw _ (List.mem_of_getElem? (i := 3) rfl))) (mvT hZ (hw _ (List.mem_of_getElem? (i := 4) rfl))) (by decide) (backOf (W := 0) (rm_pk5 l Z a0 hw [] ((p1 &&& (2147483647 : Int32)) % (14 : Int32)) w_TIME h0 n0 Z0 pr5 pr14 hc1 hc2 hc3 hc4 hc5 hc6) hZ (hw _ (List.mem_of_getElem? (i := 4) rfl)) (hw _ (List.mem_of_getElem? (i := 3) rfl)) (by decide) (by decide)) (g := (mkF m 9 #[.val (.int p1), .val (.int ((p1 &&& (2147483647 : Int32)) % (14 : Int32))), .unset, .unset] [(.int ((p1 &&& (2147483647 : Int32)) % (14 : Int32)))])) rfl (by rw [hml]; rfl) (argsL := [(.int ((p1 &&& (2147483647 : Int32)) % (14 : Int32)))]) (rest := []) (lenOf pd__40I_41Lcom_47example_47indberet_47indberet_47Lpr3Class_36Kind_59 rfl) rfl (by show 2 * 0 + _ ≤ _; exact Nat.le_of_eq rfl) (hb hby at_9) (fun _ _ => ⟨rfl, e0, (by decide : 0 + 0 ≤ _), (by decide : 0 + 0 ≤ _)⟩)
              dsimp only [Pt.U, Pt.locs, Pt.cells, Pt.slots] at X11 l11 y11 z11 st11 hQ11
              subst l11 y11 z11
              obtain ⟨rfl, Nq11, e11⟩ := hQ11
              have N11 := Fr.app N0 Nq11
              obtain ⟨cq12, kq12, q12a, q12b, q12c⟩ := isOf hZ e11 pr20
              obtain ⟨_, _, ⟨T12, L12, k12, n12⟩, -, X12, ⟨Lc12, hQ12, l12, y12, z12⟩, st12⟩ := X11.virtualBack hx (y := (⟨"com/example/indberet/indberet/Lpr3Class$Kind", "keepsText", "()Z"⟩ : MethodName)) (z := (⟨"com/example/indberet/indberet/Lpr3Class$Kind", "keepsText", "()Z"⟩ : MethodName)) hown (mvT hZ (hw _ (List.mem_of_getElem? (i := 8) rfl))) (mvT hZ (hw _ (List.mem_of_getElem? (i := 9) rfl))) (notFace_of_selects (args := #[]) (mvT hZ (hw _ (List.mem_of_getElem? (i := 11) rfl)))) (mvT hZ (hw _ (List.mem_of_getElem? (i := 11) rfl))) (mvT hZ (hw _ (List.mem_of_getElem? (i := 10) rfl))) (by decide) (backOf (W := 0) (rm_tn l Z a0 hw [] w_TIME w_VALUE w_REFERENCE w_LINK w_REPORT_NAME h0 n0 Z0 pr2 pr3 pr4 pr11 pr14 pr40 pr41 pr42 pr43) hZ (hw _ (List.mem_of_getElem? (i := 12) rfl)) (hw _ (List.mem_of_getElem? (i := 6) rfl)) (by decide) (by decide)) q12a q12c (g := (mkF m 30 #[.val (.int p1), .val (.int ((p1 &&& (2147483647 : Int32)) % (14 : Int32))), .val (.ref w_TIME), .val (.int (0 : Int32))] [(.ref w_TIME)])) rfl (by rw [hml]; rfl) (Steps.refl _) (argsL := []) (rest := []) (lenOf pd__40_41Z rfl) rfl (by show 2 * 0 + _ ≤ _; exact Nat.le_of_eq rfl) (hb hby at_30) (fun _ _ => ⟨rfl, e11, (by decide : 0 + 0 ≤ _), (by decide : 0 + 0 ≤ _)⟩)
              dsimp only [Pt.U, Pt.locs, Pt.cells, Pt.slots] at X12 l12 y12 z12 st12 hQ12
              subst l12 y12 z12
              obtain ⟨rfl, Nq12, e12⟩ := hQ12
              have N12 := Fr.app N11 Nq12
              obtain ⟨fs, hr, hrun, hended, hW, hsame⟩ := X12.leave (v := some (.int (1 : Int32))) (fun h => by rw [Bd.returns] at h; cases h)
              refine ⟨_, _, pre0 _ ?_, hrun, hended, _, _, rfl, ?_, ⟨_, rfl⟩, hW, hsame.mono (by decide) (by decide)⟩
              · show Steps p.tables e below (s₁.setTop (mkF m 0 #[.val (.int p1), .unset, .unset, .unset] [])) _
                refine XS.iloadN X0.here hx rfl (hb hby at_0) rfl ?_
                show Steps p.tables e below (s₁.setTop (mkF m 1 #[.val (.int p1), .unset, .unset, .unset] [(.int p1)])) _
                refine X0.ldcInt hx hown (mvT hZ (hw _ (List.mem_of_getElem? (i := 0) rfl))) (g := (mkF m 1 #[.val (.int p1), .unset, .unset, .unset] [(.int p1)])) rfl (hb hby at_1) _ ?_
                show Steps p.tables e below (s₁.setTop (mkF m 3 #[.val (.int p1), .unset, .unset, .unset] [(.int (2147483647 : Int32)), (.int p1)])) _
                refine XS.iand X0.here hx rfl (hb hby at_3) rfl ?_
                show Steps p.tables e below (s₁.setTop (mkF m 4 #[.val (.int p1), .unset, .unset, .unset] [(.int (p1 &&& (2147483647 : Int32)))])) _
                refine XS.bipush X0.here hx rfl (hb hby at_4) ?_
                show Steps p.tables e below (s₁.setTop (mkF m 6 #[.val (.int p1), .unset, .unset, .unset] [(.int (14 : Int32)), (.int (p1 &&& (2147483647 : Int32)))])) _
                refine iremM X0 hx rfl (hb hby at_6) rfl (by decide : ¬ ((14 : Int32) = (0 : Int32))) ?_
                show Steps p.tables e below (s₁.setTop (mkF m 7 #[.val (.int p1), .unset, .unset, .unset] [(.int ((p1 &&& (2147483647 : Int32)) % (14 : Int32)))])) _
                refine XS.istoreN X0.here hx rfl (hb hby at_7) rfl (l' := #[.val (.int p1), .val (.int ((p1 &&& (2147483647 : Int32)) % (14 : Int32))), .unset, .unset]) rfl ?_
                show Steps p.tables e below (s₁.setTop (mkF m 8 #[.val (.int p1), .val (.int ((p1 &&& (2147483647 : Int32)) % (14 : Int32))), .unset, .unset] [])) _
                refine XS.iloadN X0.here hx rfl (hb hby at_8) rfl ?_
                show Steps p.tables e below (s₁.setTop (mkF m 9 #[.val (.int p1), .val (.int ((p1 &&& (2147483647 : Int32)) % (14 : Int32))), .unset, .unset] [(.int ((p1 &&& (2147483647 : Int32)) % (14 : Int32)))])) _
                refine st11 _ ?_
                show Steps p.tables e below (T11.setTop (mkF m 12 #[.val (.int p1), .val (.int ((p1 &&& (2147483647 : Int32)) % (14 : Int32))), .unset, .unset] [(.ref w_TIME)])) _
                refine XS.astoreN X11.here hx rfl (hb hby at_12) rfl rfl (l' := #[.val (.int p1), .val (.int ((p1 &&& (2147483647 : Int32)) % (14 : Int32))), .val (.ref w_TIME), .unset]) rfl ?_
                show Steps p.tables e below (T11.setTop (mkF m 13 #[.val (.int p1), .val (.int ((p1 &&& (2147483647 : Int32)) % (14 : Int32))), .val (.ref w_TIME), .unset] [])) _
                refine XS.sipush X11.here hx rfl (hb hby at_13) ?_
                show Steps p.tables e below (T11.setTop (mkF m 16 #[.val (.int p1), .val (.int ((p1 &&& (2147483647 : Int32)) % (14 : Int32))), .val (.ref w_TIME), .unset] [(.int (2076 : Int32))])) _
                refine XS.iloadN X11.here hx rfl (hb hby at_16) rfl ?_
                show Steps p.tables e below (T11.setTop (mkF m 17 #[.val (.int p1), .val (.int ((p1 &&& (2147483647 : Int32)) % (14 : Int32))), .val (.ref w_TIME), .unset] [(.int ((p1 &&& (2147483647 : Int32)) % (14 : Int32))), (.int (2076 : Int32))])) _
                refine XS.iushr X11.here hx rfl (hb hby at_17) rfl ?_
                show Steps p.tables e below (T11.setTop (mkF m 18 #[.val (.int p1), .val (.int ((p1 &&& (2147483647 : Int32)) % (14 : Int32))), .val (.ref w_TIME), .unset] [(.int (((2076 : Int32).toUInt32 >>> (((p1 &&& (2147483647 : Int32)) % (14 : Int32)) &&& 31).toUInt32).toInt32))])) _
                refine XS.iconst X11.here hx rfl (hb hby at_18) ?_
                show Steps p.tables e below (T11.setTop (mkF m 19 #[.val (.int p1), .val (.int ((p1 &&& (2147483647 : Int32)) % (14 : Int32))), .val (.ref w_TIME), .unset] [(.int (1 : Int32)), (.int (((2076 : Int32).toUInt32 >>> (((p1 &&& (2147483647 : Int32)) % (14 : Int32)) &&& 31).toUInt32).toInt32))])) _
                refine XS.iand X11.here hx rfl (hb hby at_19) rfl ?_
                show Steps p.tables e below (T11.setTop (mkF m 20 #[.val (.int p1), .val (.int ((p1 &&& (2147483647 : Int32)) % (14 : Int32))), .val (.ref w_TIME), .unset] [(.int ((((2076 : Int32).toUInt32 >>> (((p1 &&& (2147483647 : Int32)) % (14 : Int32)) &&& 31).toUInt32).toInt32) &&& (1 : Int32)))])) _
                refine XS.ifYes X11.here hx rfl (pc0 := 20) (pc' := 27) rfl (hb hby at_20) rfl ((if0 _ _).trans (teq (by rw [hc6]; decide : ((((2076 : Int32).toUInt32 >>> (((p1 &&& (2147483647 : Int32)) % (14 : Int32)) &&& 31).toUInt32).toInt32) &&& (1 : Int32)) = (0 : Int32))).1) (by decide) (by decide) ?_
                show Steps p.tables e below (T11.setTop (mkF m 27 #[.val (.int p1), .val (.int ((p1 &&& (2147483647 : Int32)) % (14 : Int32))), .val (.ref w_TIME), .unset] [])) _
                refine XS.iconst X11.here hx rfl (hb hby at_27) ?_
                show Steps p.tables e below (T11.setTop (mkF m 28 #[.val (.int p1), .val (.int ((p1 &&& (2147483647 : Int32)) % (14 : Int32))), .val (.ref w_TIME), .unset] [(.int (0 : Int32))])) _
                refine XS.istoreN X11.here hx rfl (hb hby at_28) rfl (l' := #[.val (.int p1), .val (.int ((p1 &&& (2147483647 : Int32)) % (14 : Int32))), .val (.ref w_TIME), .val (.int (0 : Int32))]) rfl ?_
                show Steps p.tables e below (T11.setTop (mkF m 29 #[.val (.int p1), .val (.int ((p1 &&& (2147483647 : Int32)) % (14 : Int32))), .val (.ref w_TIME), .val (.int (0 : Int32))] [])) _
                refine XS.aloadN X11.here hx rfl (hb hby at_29) rfl rfl ?_
                show Steps p.tables e below (T11.setTop (mkF m 30 #[.val (.int p1), .val (.int ((p1 &&& (2147483647 : Int32)) % (14 : Int32))), .val (.ref w_TIME), .val (.int (0 : Int32))] [(.ref w_TIME)])) _
                refine st12.trans ?_
                show Steps p.tables e below (T12.setTop (mkF m 33 #[.val (.int p1), .val (.int ((p1 &&& (2147483647 : Int32)) % (14 : Int32))), .val (.ref w_TIME), .val (.int (0 : Int32))] [(.int (0 : Int32))])) _
                refine XS.iloadN X12.here hx rfl (hb hby at_33) rfl ?_
                show Steps p.tables e below (T12.setTop (mkF m 34 #[.val (.int p1), .val (.int ((p1 &&& (2147483647 : Int32)) % (14 : Int32))), .val (.ref w_TIME), .val (.int (0 : Int32))] [(.int (0 : Int32)), (.int (0 : Int32))])) _
                refine XS.icmpNo X12.here hx rfl (hb hby at_34) rfl (teq (by decide : (0 : Int32) = (0 : Int32))).2 ?_
                show Steps p.tables e below (T12.setTop (mkF m 37 #[.val (.int p1), .val (.int ((p1 &&& (2147483647 : Int32)) % (14 : Int32))), .val (.ref w_TIME), .val (.int (0 : Int32))] [])) _
                refine XS.iconst X12.here hx rfl (hb hby at_37) ?_
                show Steps p.tables e below (T12.setTop (mkF m 38 #[.val (.int p1), .val (.int ((p1 &&& (2147483647 : Int32)) % (14 : Int32))), .val (.ref w_TIME), .val (.int (0 : Int32))] [(.int (1 : Int32))])) _
                refine XS.goto X12.here hx rfl (pc0 := 38) (pc' := 42) rfl (hb hby at_38) (by decide) (by decide) ?_
                show Steps p.tables e below (T12.setTop (mkF m 42 #[.val (.int p1), .val (.int ((p1 &&& (2147483647 : Int32)) % (14 : Int32))), .val (.ref w_TIME), .val (.int (0 : Int32))] [(.int (1 : Int32))])) _
                exact retN X12 hx (t := .boolean) Bd.returns (by simp) (hb hby at_42) hr
              · show Q_rm0 Z p1 w_TEXT w_OPTIONAL_TEXT w_VALUE w_REFERENCE w_LINK w_TIME w_OPTIONAL_TIME w_ARRAY w_OPTIONAL_ARRAY w_OBJECT w_BIRTH w_REPORT_NAME w_RESULT_TYPE w_VALUE_MOMENT h0 n0 _ T12.heap _
                exact ⟨rfl, N12⟩
            · by_cases hc7 : ((p1 &&& (2147483647 : Int32)) % (14 : Int32)) = (6 : Int32)
              · obtain ⟨_, _, ⟨T13, L13, k13, n13⟩, -, X13, ⟨Lc13, hQ13, l13, y13, z13⟩, st13⟩ := Jvm.LawKit.callS X0 hx (y := (⟨"com/example/indberet/indberet/KindKeepsTextPinLaw", "kind", "(I)Lcom/example/indberet/indberet/Lpr3Class$Kind;"⟩ : MethodName)) hown (mvT hZ (hw _ (List.mem_of_getElem? (i := 1) rfl))) (mvT hZ (hw _ (List.mem_of_getElem? (i := 2) rfl))) (mvT hZ (hw _ (List.mem_of_getElem? (i := 3) rfl))) (mvT hZ (hw _ (List.mem_of_getElem? (i := 4) rfl))) (by decide) (backOf (W := 0) (rm_pk6 l Z a0 hw [] ((p1 &&& (2147483647 : Int32)) % (14 : Int32)) w_OPTIONAL_TIME h0 n0 Z0 pr6 pr14 hc1 hc2 hc3 hc4 hc5 hc6 hc7) hZ (hw _ (List.mem_of_getElem? (i := 4) rfl)) (hw _ (List.mem_of_getElem? (i := 3) rfl)) (by decide) (by decide)) (g := (mkF m 9 #[.val (.int p1), .val (.int ((p1 &&& (2147483647 : Int32)) % (14 : Int32))), .unset, .unset] [(.int ((p1 &&& (2147483647 : Int32)) % (14 : Int32)))])) rfl (by rw [hml]; rfl) (argsL := [(.int ((p1 &&& (2147483647 : Int32)) % (14 : Int32)))]) (rest := []) (lenOf pd__40I_41Lcom_47example_47indberet_47indberet_47Lpr3Class_36Kind_59 rfl) rfl (by show 2 * 0 + _ ≤ _; exact Nat.le_of_eq rfl) (hb hby at_9) (fun _ _ => ⟨rfl, e0, (by decide : 0 + 0 ≤ _), (by decide : 0 + 0 ≤ _)⟩)
                dsimp only [Pt.U, Pt.locs, Pt.cells, Pt.slots] at X13 l13 y13 z13 st13 hQ13
                subst l13 y13 z13
                obtain ⟨rfl, Nq13, e13⟩ := hQ13
                have N13 := Fr.app N0 Nq13
                obtain ⟨cq14, kq14, q14a, q14b, q14c⟩ := isOf hZ e13 pr21
                obtain ⟨_, _, ⟨T14, L14, k14, n14⟩, -, X14, ⟨Lc14, hQ14, l14, y14, z14⟩, st14⟩ := X13.virtualBack hx (y := (⟨"com/example/indberet/indberet/Lpr3Class$Kind", "keepsText", "()Z"⟩ : MethodName)) (z := (⟨"com/example/indberet/indberet/Lpr3Class$Kind", "keepsText", "()Z"⟩ : MethodName)) hown (mvT hZ (hw _ (List.mem_of_getElem? (i := 8) rfl))) (mvT hZ (hw _ (List.mem_of_getElem? (i := 9) rfl))) (notFace_of_selects (args := #[]) (mvT hZ (hw _ (List.mem_of_getElem? (i := 11) rfl)))) (mvT hZ (hw _ (List.mem_of_getElem? (i := 11) rfl))) (mvT hZ (hw _ (List.mem_of_getElem? (i := 10) rfl))) (by decide) (backOf (W := 0) (rm_tn l Z a0 hw [] w_OPTIONAL_TIME w_VALUE w_REFERENCE w_LINK w_REPORT_NAME h0 n0 Z0 pr2 pr3 pr4 pr11 pr14 pr44 pr45 pr46 pr47) hZ (hw _ (List.mem_of_getElem? (i := 12) rfl)) (hw _ (List.mem_of_getElem? (i := 6) rfl)) (by decide) (by decide)) q14a q14c (g := (mkF m 30 #[.val (.int p1), .val (.int ((p1 &&& (2147483647 : Int32)) % (14 : Int32))), .val (.ref w_OPTIONAL_TIME), .val (.int (0 : Int32))] [(.ref w_OPTIONAL_TIME)])) rfl (by rw [hml]; rfl) (Steps.refl _) (argsL := []) (rest := []) (lenOf pd__40_41Z rfl) rfl (by show 2 * 0 + _ ≤ _; exact Nat.le_of_eq rfl) (hb hby at_30) (fun _ _ => ⟨rfl, e13, (by decide : 0 + 0 ≤ _), (by decide : 0 + 0 ≤ _)⟩)
                dsimp only [Pt.U, Pt.locs, Pt.cells, Pt.slots] at X14 l14 y14 z14 st14 hQ14
                subst l14 y14 z14
                obtain ⟨rfl, Nq14, e14⟩ := hQ14
                have N14 := Fr.app N13 Nq14
                obtain ⟨fs, hr, hrun, hended, hW, hsame⟩ := X14.leave (v := some (.int (1 : Int32))) (fun h => by rw [Bd.returns] at h; cases h)
                refine ⟨_, _, pre0 _ ?_, hrun, hended, _, _, rfl, ?_, ⟨_, rfl⟩, hW, hsame.mono (by decide) (by decide)⟩
                · show Steps p.tables e below (s₁.setTop (mkF m 0 #[.val (.int p1), .unset, .unset, .unset] [])) _
                  refine XS.iloadN X0.here hx rfl (hb hby at_0) rfl ?_
                  show Steps p.tables e below (s₁.setTop (mkF m 1 #[.val (.int p1), .unset, .unset, .unset] [(.int p1)])) _
                  refine X0.ldcInt hx hown (mvT hZ (hw _ (List.mem_of_getElem? (i := 0) rfl))) (g := (mkF m 1 #[.val (.int p1), .unset, .unset, .unset] [(.int p1)])) rfl (hb hby at_1) _ ?_
                  show Steps p.tables e below (s₁.setTop (mkF m 3 #[.val (.int p1), .unset, .unset, .unset] [(.int (2147483647 : Int32)), (.int p1)])) _
                  refine XS.iand X0.here hx rfl (hb hby at_3) rfl ?_
                  show Steps p.tables e below (s₁.setTop (mkF m 4 #[.val (.int p1), .unset, .unset, .unset] [(.int (p1 &&& (2147483647 : Int32)))])) _
                  refine XS.bipush X0.here hx rfl (hb hby at_4) ?_
                  show Steps p.tables e below (s₁.setTop (mkF m 6 #[.val (.int p1), .unset, .unset, .unset] [(.int (14 : Int32)), (.int (p1 &&& (2147483647 : Int32)))])) _
                  refine iremM X0 hx rfl (hb hby at_6) rfl (by decide : ¬ ((14 : Int32) = (0 : Int32))) ?_
                  show Steps p.tables e below (s₁.setTop (mkF m 7 #[.val (.int p1), .unset, .unset, .unset] [(.int ((p1 &&& (2147483647 : Int32)) % (14 : Int32)))])) _
                  refine XS.istoreN X0.here hx rfl (hb hby at_7) rfl (l' := #[.val (.int p1), .val (.int ((p1 &&& (2147483647 : Int32)) % (14 : Int32))), .unset, .unset]) rfl ?_
                  show Steps p.tables e below (s₁.setTop (mkF m 8 #[.val (.int p1), .val (.int ((p1 &&& (2147483647 : Int32)) % (14 : Int32))), .unset, .unset] [])) _
                  refine XS.iloadN X0.here hx rfl (hb hby at_8) rfl ?_
                  show Steps p.tables e below (s₁.setTop (mkF m 9 #[.val (.int p1), .val (.int ((p1 &&& (2147483647 : Int32)) % (14 : Int32))), .unset, .unset] [(.int ((p1 &&& (2147483647 : Int32)) % (14 : Int32)))])) _
                  refine st13 _ ?_
                  show Steps p.tables e below (T13.setTop (mkF m 12 #[.val (.int p1), .val (.int ((p1 &&& (2147483647 : Int32)) % (14 : Int32))), .unset, .unset] [(.ref w_OPTIONAL_TIME)])) _
                  refine XS.astoreN X13.here hx rfl (hb hby at_12) rfl rfl (l' := #[.val (.int p1), .val (.int ((p1 &&& (2147483647 : Int32)) % (14 : Int32))), .val (.ref w_OPTIONAL_TIME), .unset]) rfl ?_
                  show Steps p.tables e below (T13.setTop (mkF m 13 #[.val (.int p1), .val (.int ((p1 &&& (2147483647 : Int32)) % (14 : Int32))), .val (.ref w_OPTIONAL_TIME), .unset] [])) _
                  refine XS.sipush X13.here hx rfl (hb hby at_13) ?_
                  show Steps p.tables e below (T13.setTop (mkF m 16 #[.val (.int p1), .val (.int ((p1 &&& (2147483647 : Int32)) % (14 : Int32))), .val (.ref w_OPTIONAL_TIME), .unset] [(.int (2076 : Int32))])) _
                  refine XS.iloadN X13.here hx rfl (hb hby at_16) rfl ?_
                  show Steps p.tables e below (T13.setTop (mkF m 17 #[.val (.int p1), .val (.int ((p1 &&& (2147483647 : Int32)) % (14 : Int32))), .val (.ref w_OPTIONAL_TIME), .unset] [(.int ((p1 &&& (2147483647 : Int32)) % (14 : Int32))), (.int (2076 : Int32))])) _
                  refine XS.iushr X13.here hx rfl (hb hby at_17) rfl ?_
                  show Steps p.tables e below (T13.setTop (mkF m 18 #[.val (.int p1), .val (.int ((p1 &&& (2147483647 : Int32)) % (14 : Int32))), .val (.ref w_OPTIONAL_TIME), .unset] [(.int (((2076 : Int32).toUInt32 >>> (((p1 &&& (2147483647 : Int32)) % (14 : Int32)) &&& 31).toUInt32).toInt32))])) _
                  refine XS.iconst X13.here hx rfl (hb hby at_18) ?_
                  show Steps p.tables e below (T13.setTop (mkF m 19 #[.val (.int p1), .val (.int ((p1 &&& (2147483647 : Int32)) % (14 : Int32))), .val (.ref w_OPTIONAL_TIME), .unset] [(.int (1 : Int32)), (.int (((2076 : Int32).toUInt32 >>> (((p1 &&& (2147483647 : Int32)) % (14 : Int32)) &&& 31).toUInt32).toInt32))])) _
                  refine XS.iand X13.here hx rfl (hb hby at_19) rfl ?_
                  show Steps p.tables e below (T13.setTop (mkF m 20 #[.val (.int p1), .val (.int ((p1 &&& (2147483647 : Int32)) % (14 : Int32))), .val (.ref w_OPTIONAL_TIME), .unset] [(.int ((((2076 : Int32).toUInt32 >>> (((p1 &&& (2147483647 : Int32)) % (14 : Int32)) &&& 31).toUInt32).toInt32) &&& (1 : Int32)))])) _
                  refine XS.ifYes X13.here hx rfl (pc0 := 20) (pc' := 27) rfl (hb hby at_20) rfl ((if0 _ _).trans (teq (by rw [hc7]; decide : ((((2076 : Int32).toUInt32 >>> (((p1 &&& (2147483647 : Int32)) % (14 : Int32)) &&& 31).toUInt32).toInt32) &&& (1 : Int32)) = (0 : Int32))).1) (by decide) (by decide) ?_
                  show Steps p.tables e below (T13.setTop (mkF m 27 #[.val (.int p1), .val (.int ((p1 &&& (2147483647 : Int32)) % (14 : Int32))), .val (.ref w_OPTIONAL_TIME), .unset] [])) _
                  refine XS.iconst X13.here hx rfl (hb hby at_27) ?_
                  show Steps p.tables e below (T13.setTop (mkF m 28 #[.val (.int p1), .val (.int ((p1 &&& (2147483647 : Int32)) % (14 : Int32))), .val (.ref w_OPTIONAL_TIME), .unset] [(.int (0 : Int32))])) _
                  refine XS.istoreN X13.here hx rfl (hb hby at_28) rfl (l' := #[.val (.int p1), .val (.int ((p1 &&& (2147483647 : Int32)) % (14 : Int32))), .val (.ref w_OPTIONAL_TIME), .val (.int (0 : Int32))]) rfl ?_
                  show Steps p.tables e below (T13.setTop (mkF m 29 #[.val (.int p1), .val (.int ((p1 &&& (2147483647 : Int32)) % (14 : Int32))), .val (.ref w_OPTIONAL_TIME), .val (.int (0 : Int32))] [])) _
                  refine XS.aloadN X13.here hx rfl (hb hby at_29) rfl rfl ?_
                  show Steps p.tables e below (T13.setTop (mkF m 30 #[.val (.int p1), .val (.int ((p1 &&& (2147483647 : Int32)) % (14 : Int32))), .val (.ref w_OPTIONAL_TIME), .val (.int (0 : Int32))] [(.ref w_OPTIONAL_TIME)])) _
                  refine st14.trans ?_
                  show Steps p.tables e below (T14.setTop (mkF m 33 #[.val (.int p1), .val (.int ((p1 &&& (2147483647 : Int32)) % (14 : Int32))), .val (.ref w_OPTIONAL_TIME), .val (.int (0 : Int32))] [(.int (0 : Int32))])) _
                  refine XS.iloadN X14.here hx rfl (hb hby at_33) rfl ?_
                  show Steps p.tables e below (T14.setTop (mkF m 34 #[.val (.int p1), .val (.int ((p1 &&& (2147483647 : Int32)) % (14 : Int32))), .val (.ref w_OPTIONAL_TIME), .val (.int (0 : Int32))] [(.int (0 : Int32)), (.int (0 : Int32))])) _
                  refine XS.icmpNo X14.here hx rfl (hb hby at_34) rfl (teq (by decide : (0 : Int32) = (0 : Int32))).2 ?_
                  show Steps p.tables e below (T14.setTop (mkF m 37 #[.val (.int p1), .val (.int ((p1 &&& (2147483647 : Int32)) % (14 : Int32))), .val (.ref w_OPTIONAL_TIME), .val (.int (0 : Int32))] [])) _
                  refine XS.iconst X14.here hx rfl (hb hby at_37) ?_
                  show Steps p.tables e below (T14.setTop (mkF m 38 #[.val (.int p1), .val (.int ((p1 &&& (2147483647 : Int32)) % (14 : Int32))), .val (.ref w_OPTIONAL_TIME), .val (.int (0 : Int32))] [(.int (1 : Int32))])) _
                  refine XS.goto X14.here hx rfl (pc0 := 38) (pc' := 42) rfl (hb hby at_38) (by decide) (by decide) ?_
                  show Steps p.tables e below (T14.setTop (mkF m 42 #[.val (.int p1), .val (.int ((p1 &&& (2147483647 : Int32)) % (14 : Int32))), .val (.ref w_OPTIONAL_TIME), .val (.int (0 : Int32))] [(.int (1 : Int32))])) _
                  exact retN X14 hx (t := .boolean) Bd.returns (by simp) (hb hby at_42) hr
                · show Q_rm0 Z p1 w_TEXT w_OPTIONAL_TEXT w_VALUE w_REFERENCE w_LINK w_TIME w_OPTIONAL_TIME w_ARRAY w_OPTIONAL_ARRAY w_OBJECT w_BIRTH w_REPORT_NAME w_RESULT_TYPE w_VALUE_MOMENT h0 n0 _ T14.heap _
                  exact ⟨rfl, N14⟩
              · by_cases hc8 : ((p1 &&& (2147483647 : Int32)) % (14 : Int32)) = (7 : Int32)
                · obtain ⟨_, _, ⟨T15, L15, k15, n15⟩, -, X15, ⟨Lc15, hQ15, l15, y15, z15⟩, st15⟩ := Jvm.LawKit.callS X0 hx (y := (⟨"com/example/indberet/indberet/KindKeepsTextPinLaw", "kind", "(I)Lcom/example/indberet/indberet/Lpr3Class$Kind;"⟩ : MethodName)) hown (mvT hZ (hw _ (List.mem_of_getElem? (i := 1) rfl))) (mvT hZ (hw _ (List.mem_of_getElem? (i := 2) rfl))) (mvT hZ (hw _ (List.mem_of_getElem? (i := 3) rfl))) (mvT hZ (hw _ (List.mem_of_getElem? (i := 4) rfl))) (by decide) (backOf (W := 0) (rm_pk7 l Z a0 hw [] ((p1 &&& (2147483647 : Int32)) % (14 : Int32)) w_ARRAY h0 n0 Z0 pr7 pr14 hc1 hc2 hc3 hc4 hc5 hc6 hc7 hc8) hZ (hw _ (List.mem_of_getElem? (i := 4) rfl)) (hw _ (List.mem_of_getElem? (i := 3) rfl)) (by decide) (by decide)) (g := (mkF m 9 #[.val (.int p1), .val (.int ((p1 &&& (2147483647 : Int32)) % (14 : Int32))), .unset, .unset] [(.int ((p1 &&& (2147483647 : Int32)) % (14 : Int32)))])) rfl (by rw [hml]; rfl) (argsL := [(.int ((p1 &&& (2147483647 : Int32)) % (14 : Int32)))]) (rest := []) (lenOf pd__40I_41Lcom_47example_47indberet_47indberet_47Lpr3Class_36Kind_59 rfl) rfl (by show 2 * 0 + _ ≤ _; exact Nat.le_of_eq rfl) (hb hby at_9) (fun _ _ => ⟨rfl, e0, (by decide : 0 + 0 ≤ _), (by decide : 0 + 0 ≤ _)⟩)
                  dsimp only [Pt.U, Pt.locs, Pt.cells, Pt.slots] at X15 l15 y15 z15 st15 hQ15
                  subst l15 y15 z15
                  obtain ⟨rfl, Nq15, e15⟩ := hQ15
                  have N15 := Fr.app N0 Nq15
                  obtain ⟨cq16, kq16, q16a, q16b, q16c⟩ := isOf hZ e15 pr22
                  obtain ⟨_, _, ⟨T16, L16, k16, n16⟩, -, X16, ⟨Lc16, hQ16, l16, y16, z16⟩, st16⟩ := X15.virtualBack hx (y := (⟨"com/example/indberet/indberet/Lpr3Class$Kind", "keepsText", "()Z"⟩ : MethodName)) (z := (⟨"com/example/indberet/indberet/Lpr3Class$Kind", "keepsText", "()Z"⟩ : MethodName)) hown (mvT hZ (hw _ (List.mem_of_getElem? (i := 8) rfl))) (mvT hZ (hw _ (List.mem_of_getElem? (i := 9) rfl))) (notFace_of_selects (args := #[]) (mvT hZ (hw _ (List.mem_of_getElem? (i := 11) rfl)))) (mvT hZ (hw _ (List.mem_of_getElem? (i := 11) rfl))) (mvT hZ (hw _ (List.mem_of_getElem? (i := 10) rfl))) (by decide) (backOf (W := 0) (rm_tn l Z a0 hw [] w_ARRAY w_VALUE w_REFERENCE w_LINK w_REPORT_NAME h0 n0 Z0 pr2 pr3 pr4 pr11 pr14 pr48 pr49 pr50 pr51) hZ (hw _ (List.mem_of_getElem? (i := 12) rfl)) (hw _ (List.mem_of_getElem? (i := 6) rfl)) (by decide) (by decide)) q16a q16c (g := (mkF m 30 #[.val (.int p1), .val (.int ((p1 &&& (2147483647 : Int32)) % (14 : Int32))), .val (.ref w_ARRAY), .val (.int (0 : Int32))] [(.ref w_ARRAY)])) rfl (by rw [hml]; rfl) (Steps.refl _) (argsL := []) (rest := []) (lenOf pd__40_41Z rfl) rfl (by show 2 * 0 + _ ≤ _; exact Nat.le_of_eq rfl) (hb hby at_30) (fun _ _ => ⟨rfl, e15, (by decide : 0 + 0 ≤ _), (by decide : 0 + 0 ≤ _)⟩)
                  dsimp only [Pt.U, Pt.locs, Pt.cells, Pt.slots] at X16 l16 y16 z16 st16 hQ16
                  subst l16 y16 z16
                  obtain ⟨rfl, Nq16, e16⟩ := hQ16
                  have N16 := Fr.app N15 Nq16
                  obtain ⟨fs, hr, hrun, hended, hW, hsame⟩ := X16.leave (v := some (.int (1 : Int32))) (fun h => by rw [Bd.returns] at h; cases h)
                  refine ⟨_, _, pre0 _ ?_, hrun, hended, _, _, rfl, ?_, ⟨_, rfl⟩, hW, hsame.mono (by decide) (by decide)⟩
                  · show Steps p.tables e below (s₁.setTop (mkF m 0 #[.val (.int p1), .unset, .unset, .unset] [])) _
                    refine XS.iloadN X0.here hx rfl (hb hby at_0) rfl ?_
                    show Steps p.tables e below (s₁.setTop (mkF m 1 #[.val (.int p1), .unset, .unset, .unset] [(.int p1)])) _
                    refine X0.ldcInt hx hown (mvT hZ (hw _ (List.mem_of_getElem? (i := 0) rfl))) (g := (mkF m 1 #[.val (.int p1), .unset, .unset, .unset] [(.int p1)])) rfl (hb hby at_1) _ ?_
                    show Steps p.tables e below (s₁.setTop (mkF m 3 #[.val (.int p1), .unset, .unset, .unset] [(.int (2147483647 : Int32)), (.int p1)])) _
                    refine XS.iand X0.here hx rfl (hb hby at_3) rfl ?_
                    show Steps p.tables e below (s₁.setTop (mkF m 4 #[.val (.int p1), .unset, .unset, .unset] [(.int (p1 &&& (2147483647 : Int32)))])) _
                    refine XS.bipush X0.here hx rfl (hb hby at_4) ?_
                    show Steps p.tables e below (s₁.setTop (mkF m 6 #[.val (.int p1), .unset, .unset, .unset] [(.int (14 : Int32)), (.int (p1 &&& (2147483647 : Int32)))])) _
                    refine iremM X0 hx rfl (hb hby at_6) rfl (by decide : ¬ ((14 : Int32) = (0 : Int32))) ?_
                    show Steps p.tables e below (s₁.setTop (mkF m 7 #[.val (.int p1), .unset, .unset, .unset] [(.int ((p1 &&& (2147483647 : Int32)) % (14 : Int32)))])) _
                    refine XS.istoreN X0.here hx rfl (hb hby at_7) rfl (l' := #[.val (.int p1), .val (.int ((p1 &&& (2147483647 : Int32)) % (14 : Int32))), .unset, .unset]) rfl ?_
                    show Steps p.tables e below (s₁.setTop (mkF m 8 #[.val (.int p1), .val (.int ((p1 &&& (2147483647 : Int32)) % (14 : Int32))), .unset, .unset] [])) _
                    refine XS.iloadN X0.here hx rfl (hb hby at_8) rfl ?_
                    show Steps p.tables e below (s₁.setTop (mkF m 9 #[.val (.int p1), .val (.int ((p1 &&& (2147483647 : Int32)) % (14 : Int32))), .unset, .unset] [(.int ((p1 &&& (2147483647 : Int32)) % (14 : Int32)))])) _
                    refine st15 _ ?_
                    show Steps p.tables e below (T15.setTop (mkF m 12 #[.val (.int p1), .val (.int ((p1 &&& (2147483647 : Int32)) % (14 : Int32))), .unset, .unset] [(.ref w_ARRAY)])) _
                    refine XS.astoreN X15.here hx rfl (hb hby at_12) rfl rfl (l' := #[.val (.int p1), .val (.int ((p1 &&& (2147483647 : Int32)) % (14 : Int32))), .val (.ref w_ARRAY), .unset]) rfl ?_
                    show Steps p.tables e below (T15.setTop (mkF m 13 #[.val (.int p1), .val (.int ((p1 &&& (2147483647 : Int32)) % (14 : Int32))), .val (.ref w_ARRAY), .unset] [])) _
                    refine XS.sipush X15.here hx rfl (hb hby at_13) ?_
                    show Steps p.tables e below (T15.setTop (mkF m 16 #[.val (.int p1), .val (.int ((p1 &&& (2147483647 : Int32)) % (14 : Int32))), .val (.ref w_ARRAY), .unset] [(.int (2076 : Int32))])) _
                    refine XS.iloadN X15.here hx rfl (hb hby at_16) rfl ?_
                    show Steps p.tables e below (T15.setTop (mkF m 17 #[.val (.int p1), .val (.int ((p1 &&& (2147483647 : Int32)) % (14 : Int32))), .val (.ref w_ARRAY), .unset] [(.int ((p1 &&& (2147483647 : Int32)) % (14 : Int32))), (.int (2076 : Int32))])) _
                    refine XS.iushr X15.here hx rfl (hb hby at_17) rfl ?_
                    show Steps p.tables e below (T15.setTop (mkF m 18 #[.val (.int p1), .val (.int ((p1 &&& (2147483647 : Int32)) % (14 : Int32))), .val (.ref w_ARRAY), .unset] [(.int (((2076 : Int32).toUInt32 >>> (((p1 &&& (2147483647 : Int32)) % (14 : Int32)) &&& 31).toUInt32).toInt32))])) _
                    refine XS.iconst X15.here hx rfl (hb hby at_18) ?_
                    show Steps p.tables e below (T15.setTop (mkF m 19 #[.val (.int p1), .val (.int ((p1 &&& (2147483647 : Int32)) % (14 : Int32))), .val (.ref w_ARRAY), .unset] [(.int (1 : Int32)), (.int (((2076 : Int32).toUInt32 >>> (((p1 &&& (2147483647 : Int32)) % (14 : Int32)) &&& 31).toUInt32).toInt32))])) _
                    refine XS.iand X15.here hx rfl (hb hby at_19) rfl ?_
                    show Steps p.tables e below (T15.setTop (mkF m 20 #[.val (.int p1), .val (.int ((p1 &&& (2147483647 : Int32)) % (14 : Int32))), .val (.ref w_ARRAY), .unset] [(.int ((((2076 : Int32).toUInt32 >>> (((p1 &&& (2147483647 : Int32)) % (14 : Int32)) &&& 31).toUInt32).toInt32) &&& (1 : Int32)))])) _
                    refine XS.ifYes X15.here hx rfl (pc0 := 20) (pc' := 27) rfl (hb hby at_20) rfl ((if0 _ _).trans (teq (by rw [hc8]; decide : ((((2076 : Int32).toUInt32 >>> (((p1 &&& (2147483647 : Int32)) % (14 : Int32)) &&& 31).toUInt32).toInt32) &&& (1 : Int32)) = (0 : Int32))).1) (by decide) (by decide) ?_
                    show Steps p.tables e below (T15.setTop (mkF m 27 #[.val (.int p1), .val (.int ((p1 &&& (2147483647 : Int32)) % (14 : Int32))), .val (.ref w_ARRAY), .unset] [])) _
                    refine XS.iconst X15.here hx rfl (hb hby at_27) ?_
                    show Steps p.tables e below (T15.setTop (mkF m 28 #[.val (.int p1), .val (.int ((p1 &&& (2147483647 : Int32)) % (14 : Int32))), .val (.ref w_ARRAY), .unset] [(.int (0 : Int32))])) _
                    refine XS.istoreN X15.here hx rfl (hb hby at_28) rfl (l' := #[.val (.int p1), .val (.int ((p1 &&& (2147483647 : Int32)) % (14 : Int32))), .val (.ref w_ARRAY), .val (.int (0 : Int32))]) rfl ?_
                    show Steps p.tables e below (T15.setTop (mkF m 29 #[.val (.int p1), .val (.int ((p1 &&& (2147483647 : Int32)) % (14 : Int32))), .val (.ref w_ARRAY), .val (.int (0 : Int32))] [])) _
                    refine XS.aloadN X15.here hx rfl (hb hby at_29) rfl rfl ?_
                    show Steps p.tables e below (T15.setTop (mkF m 30 #[.val (.int p1), .val (.int ((p1 &&& (2147483647 : Int32)) % (14 : Int32))), .val (.ref w_ARRAY), .val (.int (0 : Int32))] [(.ref w_ARRAY)])) _
                    refine st16.trans ?_
                    show Steps p.tables e below (T16.setTop (mkF m 33 #[.val (.int p1), .val (.int ((p1 &&& (2147483647 : Int32)) % (14 : Int32))), .val (.ref w_ARRAY), .val (.int (0 : Int32))] [(.int (0 : Int32))])) _
                    refine XS.iloadN X16.here hx rfl (hb hby at_33) rfl ?_
                    show Steps p.tables e below (T16.setTop (mkF m 34 #[.val (.int p1), .val (.int ((p1 &&& (2147483647 : Int32)) % (14 : Int32))), .val (.ref w_ARRAY), .val (.int (0 : Int32))] [(.int (0 : Int32)), (.int (0 : Int32))])) _
                    refine XS.icmpNo X16.here hx rfl (hb hby at_34) rfl (teq (by decide : (0 : Int32) = (0 : Int32))).2 ?_
                    show Steps p.tables e below (T16.setTop (mkF m 37 #[.val (.int p1), .val (.int ((p1 &&& (2147483647 : Int32)) % (14 : Int32))), .val (.ref w_ARRAY), .val (.int (0 : Int32))] [])) _
                    refine XS.iconst X16.here hx rfl (hb hby at_37) ?_
                    show Steps p.tables e below (T16.setTop (mkF m 38 #[.val (.int p1), .val (.int ((p1 &&& (2147483647 : Int32)) % (14 : Int32))), .val (.ref w_ARRAY), .val (.int (0 : Int32))] [(.int (1 : Int32))])) _
                    refine XS.goto X16.here hx rfl (pc0 := 38) (pc' := 42) rfl (hb hby at_38) (by decide) (by decide) ?_
                    show Steps p.tables e below (T16.setTop (mkF m 42 #[.val (.int p1), .val (.int ((p1 &&& (2147483647 : Int32)) % (14 : Int32))), .val (.ref w_ARRAY), .val (.int (0 : Int32))] [(.int (1 : Int32))])) _
                    exact retN X16 hx (t := .boolean) Bd.returns (by simp) (hb hby at_42) hr
                  · show Q_rm0 Z p1 w_TEXT w_OPTIONAL_TEXT w_VALUE w_REFERENCE w_LINK w_TIME w_OPTIONAL_TIME w_ARRAY w_OPTIONAL_ARRAY w_OBJECT w_BIRTH w_REPORT_NAME w_RESULT_TYPE w_VALUE_MOMENT h0 n0 _ T16.heap _
                    exact ⟨rfl, N16⟩
                · by_cases hc9 : ((p1 &&& (2147483647 : Int32)) % (14 : Int32)) = (8 : Int32)
                  · obtain ⟨_, _, ⟨T17, L17, k17, n17⟩, -, X17, ⟨Lc17, hQ17, l17, y17, z17⟩, st17⟩ := Jvm.LawKit.callS X0 hx (y := (⟨"com/example/indberet/indberet/KindKeepsTextPinLaw", "kind", "(I)Lcom/example/indberet/indberet/Lpr3Class$Kind;"⟩ : MethodName)) hown (mvT hZ (hw _ (List.mem_of_getElem? (i := 1) rfl))) (mvT hZ (hw _ (List.mem_of_getElem? (i := 2) rfl))) (mvT hZ (hw _ (List.mem_of_getElem? (i := 3) rfl))) (mvT hZ (hw _ (List.mem_of_getElem? (i := 4) rfl))) (by decide) (backOf (W := 0) (rm_pk8 l Z a0 hw [] ((p1 &&& (2147483647 : Int32)) % (14 : Int32)) w_OPTIONAL_ARRAY h0 n0 Z0 pr8 pr14 hc1 hc2 hc3 hc4 hc5 hc6 hc7 hc8 hc9) hZ (hw _ (List.mem_of_getElem? (i := 4) rfl)) (hw _ (List.mem_of_getElem? (i := 3) rfl)) (by decide) (by decide)) (g := (mkF m 9 #[.val (.int p1), .val (.int ((p1 &&& (2147483647 : Int32)) % (14 : Int32))), .unset, .unset] [(.int ((p1 &&& (2147483647 : Int32)) % (14 : Int32)))])) rfl (by rw [hml]; rfl) (argsL := [(.int ((p1 &&& (2147483647 : Int32)) % (14 : Int32)))]) (rest := []) (lenOf pd__40I_41Lcom_47example_47indberet_47indberet_47Lpr3Class_36Kind_59 rfl) rfl (by show 2 * 0 + _ ≤ _; exact Nat.le_of_eq rfl) (hb hby at_9) (fun _ _ => ⟨rfl, e0, (by decide : 0 + 0 ≤ _), (by decide : 0 + 0 ≤ _)⟩)
                    dsimp only [Pt.U, Pt.locs, Pt.cells, Pt.slots] at X17 l17 y17 z17 st17 hQ17
                    subst l17 y17 z17
                    obtain ⟨rfl, Nq17, e17⟩ := hQ17
                    have N17 := Fr.app N0 Nq17
                    obtain ⟨cq18, kq18, q18a, q18b, q18c⟩ := isOf hZ e17 pr23
                    obtain ⟨_, _, ⟨T18, L18, k18, n18⟩, -, X18, ⟨Lc18, hQ18, l18, y18, z18⟩, st18⟩ := X17.virtualBack hx (y := (⟨"com/example/indberet/indberet/Lpr3Class$Kind", "keepsText", "()Z"⟩ : MethodName)) (z := (⟨"com/example/indberet/indberet/Lpr3Class$Kind", "keepsText", "()Z"⟩ : MethodName)) hown (mvT hZ (hw _ (List.mem_of_getElem? (i := 8) rfl))) (mvT hZ (hw _ (List.mem_of_getElem? (i := 9) rfl))) (notFace_of_selects (args := #[]) (mvT hZ (hw _ (List.mem_of_getElem? (i := 11) rfl)))) (mvT hZ (hw _ (List.mem_of_getElem? (i := 11) rfl))) (mvT hZ (hw _ (List.mem_of_getElem? (i := 10) rfl))) (by decide) (backOf (W := 0) (rm_tn l Z a0 hw [] w_OPTIONAL_ARRAY w_VALUE w_REFERENCE w_LINK w_REPORT_NAME h0 n0 Z0 pr2 pr3 pr4 pr11 pr14 pr52 pr53 pr54 pr55) hZ (hw _ (List.mem_of_getElem? (i := 12) rfl)) (hw _ (List.mem_of_getElem? (i := 6) rfl)) (by decide) (by decide)) q18a q18c (g := (mkF m 30 #[.val (.int p1), .val (.int ((p1 &&& (2147483647 : Int32)) % (14 : Int32))), .val (.ref w_OPTIONAL_ARRAY), .val (.int (0 : Int32))] [(.ref w_OPTIONAL_ARRAY)])) rfl (by rw [hml]; rfl) (Steps.refl _) (argsL := []) (rest := []) (lenOf pd__40_41Z rfl) rfl (by show 2 * 0 + _ ≤ _; exact Nat.le_of_eq rfl) (hb hby at_30) (fun _ _ => ⟨rfl, e17, (by decide : 0 + 0 ≤ _), (by decide : 0 + 0 ≤ _)⟩)
                    dsimp only [Pt.U, Pt.locs, Pt.cells, Pt.slots] at X18 l18 y18 z18 st18 hQ18
                    subst l18 y18 z18
                    obtain ⟨rfl, Nq18, e18⟩ := hQ18
                    have N18 := Fr.app N17 Nq18
                    obtain ⟨fs, hr, hrun, hended, hW, hsame⟩ := X18.leave (v := some (.int (1 : Int32))) (fun h => by rw [Bd.returns] at h; cases h)
                    refine ⟨_, _, pre0 _ ?_, hrun, hended, _, _, rfl, ?_, ⟨_, rfl⟩, hW, hsame.mono (by decide) (by decide)⟩
                    · show Steps p.tables e below (s₁.setTop (mkF m 0 #[.val (.int p1), .unset, .unset, .unset] [])) _
                      refine XS.iloadN X0.here hx rfl (hb hby at_0) rfl ?_
                      show Steps p.tables e below (s₁.setTop (mkF m 1 #[.val (.int p1), .unset, .unset, .unset] [(.int p1)])) _
                      refine X0.ldcInt hx hown (mvT hZ (hw _ (List.mem_of_getElem? (i := 0) rfl))) (g := (mkF m 1 #[.val (.int p1), .unset, .unset, .unset] [(.int p1)])) rfl (hb hby at_1) _ ?_
                      show Steps p.tables e below (s₁.setTop (mkF m 3 #[.val (.int p1), .unset, .unset, .unset] [(.int (2147483647 : Int32)), (.int p1)])) _
                      refine XS.iand X0.here hx rfl (hb hby at_3) rfl ?_
                      show Steps p.tables e below (s₁.setTop (mkF m 4 #[.val (.int p1), .unset, .unset, .unset] [(.int (p1 &&& (2147483647 : Int32)))])) _
                      refine XS.bipush X0.here hx rfl (hb hby at_4) ?_
                      show Steps p.tables e below (s₁.setTop (mkF m 6 #[.val (.int p1), .unset, .unset, .unset] [(.int (14 : Int32)), (.int (p1 &&& (2147483647 : Int32)))])) _
                      refine iremM X0 hx rfl (hb hby at_6) rfl (by decide : ¬ ((14 : Int32) = (0 : Int32))) ?_
                      show Steps p.tables e below (s₁.setTop (mkF m 7 #[.val (.int p1), .unset, .unset, .unset] [(.int ((p1 &&& (2147483647 : Int32)) % (14 : Int32)))])) _
                      refine XS.istoreN X0.here hx rfl (hb hby at_7) rfl (l' := #[.val (.int p1), .val (.int ((p1 &&& (2147483647 : Int32)) % (14 : Int32))), .unset, .unset]) rfl ?_
                      show Steps p.tables e below (s₁.setTop (mkF m 8 #[.val (.int p1), .val (.int ((p1 &&& (2147483647 : Int32)) % (14 : Int32))), .unset, .unset] [])) _
                      refine XS.iloadN X0.here hx rfl (hb hby at_8) rfl ?_
                      show Steps p.tables e below (s₁.setTop (mkF m 9 #[.val (.int p1), .val (.int ((p1 &&& (2147483647 : Int32)) % (14 : Int32))), .unset, .unset] [(.int ((p1 &&& (2147483647 : Int32)) % (14 : Int32)))])) _
                      refine st17 _ ?_
                      show Steps p.tables e below (T17.setTop (mkF m 12 #[.val (.int p1), .val (.int ((p1 &&& (2147483647 : Int32)) % (14 : Int32))), .unset, .unset] [(.ref w_OPTIONAL_ARRAY)])) _
                      refine XS.astoreN X17.here hx rfl (hb hby at_12) rfl rfl (l' := #[.val (.int p1), .val (.int ((p1 &&& (2147483647 : Int32)) % (14 : Int32))), .val (.ref w_OPTIONAL_ARRAY), .unset]) rfl ?_
                      show Steps p.tables e below (T17.setTop (mkF m 13 #[.val (.int p1), .val (.int ((p1 &&& (2147483647 : Int32)) % (14 : Int32))), .val (.ref w_OPTIONAL_ARRAY), .unset] [])) _
                      refine XS.sipush X17.here hx rfl (hb hby at_13) ?_
                      show Steps p.tables e below (T17.setTop (mkF m 16 #[.val (.int p1), .val (.int ((p1 &&& (2147483647 : Int32)) % (14 : Int32))), .val (.ref w_OPTIONAL_ARRAY), .unset] [(.int (2076 : Int32))])) _
                      refine XS.iloadN X17.here hx rfl (hb hby at_16) rfl ?_
                      show Steps p.tables e below (T17.setTop (mkF m 17 #[.val (.int p1), .val (.int ((p1 &&& (2147483647 : Int32)) % (14 : Int32))), .val (.ref w_OPTIONAL_ARRAY), .unset] [(.int ((p1 &&& (2147483647 : Int32)) % (14 : Int32))), (.int (2076 : Int32))])) _
                      refine XS.iushr X17.here hx rfl (hb hby at_17) rfl ?_
                      show Steps p.tables e below (T17.setTop (mkF m 18 #[.val (.int p1), .val (.int ((p1 &&& (2147483647 : Int32)) % (14 : Int32))), .val (.ref w_OPTIONAL_ARRAY), .unset] [(.int (((2076 : Int32).toUInt32 >>> (((p1 &&& (2147483647 : Int32)) % (14 : Int32)) &&& 31).toUInt32).toInt32))])) _
                      refine XS.iconst X17.here hx rfl (hb hby at_18) ?_
                      show Steps p.tables e below (T17.setTop (mkF m 19 #[.val (.int p1), .val (.int ((p1 &&& (2147483647 : Int32)) % (14 : Int32))), .val (.ref w_OPTIONAL_ARRAY), .unset] [(.int (1 : Int32)), (.int (((2076 : Int32).toUInt32 >>> (((p1 &&& (2147483647 : Int32)) % (14 : Int32)) &&& 31).toUInt32).toInt32))])) _
                      refine XS.iand X17.here hx rfl (hb hby at_19) rfl ?_
                      show Steps p.tables e below (T17.setTop (mkF m 20 #[.val (.int p1), .val (.int ((p1 &&& (2147483647 : Int32)) % (14 : Int32))), .val (.ref w_OPTIONAL_ARRAY), .unset] [(.int ((((2076 : Int32).toUInt32 >>> (((p1 &&& (2147483647 : Int32)) % (14 : Int32)) &&& 31).toUInt32).toInt32) &&& (1 : Int32)))])) _
                      refine XS.ifYes X17.here hx rfl (pc0 := 20) (pc' := 27) rfl (hb hby at_20) rfl ((if0 _ _).trans (teq (by rw [hc9]; decide : ((((2076 : Int32).toUInt32 >>> (((p1 &&& (2147483647 : Int32)) % (14 : Int32)) &&& 31).toUInt32).toInt32) &&& (1 : Int32)) = (0 : Int32))).1) (by decide) (by decide) ?_
                      show Steps p.tables e below (T17.setTop (mkF m 27 #[.val (.int p1), .val (.int ((p1 &&& (2147483647 : Int32)) % (14 : Int32))), .val (.ref w_OPTIONAL_ARRAY), .unset] [])) _
                      refine XS.iconst X17.here hx rfl (hb hby at_27) ?_
                      show Steps p.tables e below (T17.setTop (mkF m 28 #[.val (.int p1), .val (.int ((p1 &&& (2147483647 : Int32)) % (14 : Int32))), .val (.ref w_OPTIONAL_ARRAY), .unset] [(.int (0 : Int32))])) _
                      refine XS.istoreN X17.here hx rfl (hb hby at_28) rfl (l' := #[.val (.int p1), .val (.int ((p1 &&& (2147483647 : Int32)) % (14 : Int32))), .val (.ref w_OPTIONAL_ARRAY), .val (.int (0 : Int32))]) rfl ?_
                      show Steps p.tables e below (T17.setTop (mkF m 29 #[.val (.int p1), .val (.int ((p1 &&& (2147483647 : Int32)) % (14 : Int32))), .val (.ref w_OPTIONAL_ARRAY), .val (.int (0 : Int32))] [])) _
                      refine XS.aloadN X17.here hx rfl (hb hby at_29) rfl rfl ?_
                      show Steps p.tables e below (T17.setTop (mkF m 30 #[.val (.int p1), .val (.int ((p1 &&& (2147483647 : Int32)) % (14 : Int32))), .val (.ref w_OPTIONAL_ARRAY), .val (.int (0 : Int32))] [(.ref w_OPTIONAL_ARRAY)])) _
                      refine st18.trans ?_
                      show Steps p.tables e below (T18.setTop (mkF m 33 #[.val (.int p1), .val (.int ((p1 &&& (2147483647 : Int32)) % (14 : Int32))), .val (.ref w_OPTIONAL_ARRAY), .val (.int (0 : Int32))] [(.int (0 : Int32))])) _
                      refine XS.iloadN X18.here hx rfl (hb hby at_33) rfl ?_
                      show Steps p.tables e below (T18.setTop (mkF m 34 #[.val (.int p1), .val (.int ((p1 &&& (2147483647 : Int32)) % (14 : Int32))), .val (.ref w_OPTIONAL_ARRAY), .val (.int (0 : Int32))] [(.int (0 : Int32)), (.int (0 : Int32))])) _
                      refine XS.icmpNo X18.here hx rfl (hb hby at_34) rfl (teq (by decide : (0 : Int32) = (0 : Int32))).2 ?_
                      show Steps p.tables e below (T18.setTop (mkF m 37 #[.val (.int p1), .val (.int ((p1 &&& (2147483647 : Int32)) % (14 : Int32))), .val (.ref w_OPTIONAL_ARRAY), .val (.int (0 : Int32))] [])) _
                      refine XS.iconst X18.here hx rfl (hb hby at_37) ?_
                      show Steps p.tables e below (T18.setTop (mkF m 38 #[.val (.int p1), .val (.int ((p1 &&& (2147483647 : Int32)) % (14 : Int32))), .val (.ref w_OPTIONAL_ARRAY), .val (.int (0 : Int32))] [(.int (1 : Int32))])) _
                      refine XS.goto X18.here hx rfl (pc0 := 38) (pc' := 42) rfl (hb hby at_38) (by decide) (by decide) ?_
                      show Steps p.tables e below (T18.setTop (mkF m 42 #[.val (.int p1), .val (.int ((p1 &&& (2147483647 : Int32)) % (14 : Int32))), .val (.ref w_OPTIONAL_ARRAY), .val (.int (0 : Int32))] [(.int (1 : Int32))])) _
                      exact retN X18 hx (t := .boolean) Bd.returns (by simp) (hb hby at_42) hr
                    · show Q_rm0 Z p1 w_TEXT w_OPTIONAL_TEXT w_VALUE w_REFERENCE w_LINK w_TIME w_OPTIONAL_TIME w_ARRAY w_OPTIONAL_ARRAY w_OBJECT w_BIRTH w_REPORT_NAME w_RESULT_TYPE w_VALUE_MOMENT h0 n0 _ T18.heap _
                      exact ⟨rfl, N18⟩
                  · by_cases hc10 : ((p1 &&& (2147483647 : Int32)) % (14 : Int32)) = (9 : Int32)
                    · obtain ⟨_, _, ⟨T19, L19, k19, n19⟩, -, X19, ⟨Lc19, hQ19, l19, y19, z19⟩, st19⟩ := Jvm.LawKit.callS X0 hx (y := (⟨"com/example/indberet/indberet/KindKeepsTextPinLaw", "kind", "(I)Lcom/example/indberet/indberet/Lpr3Class$Kind;"⟩ : MethodName)) hown (mvT hZ (hw _ (List.mem_of_getElem? (i := 1) rfl))) (mvT hZ (hw _ (List.mem_of_getElem? (i := 2) rfl))) (mvT hZ (hw _ (List.mem_of_getElem? (i := 3) rfl))) (mvT hZ (hw _ (List.mem_of_getElem? (i := 4) rfl))) (by decide) (backOf (W := 0) (rm_pk9 l Z a0 hw [] ((p1 &&& (2147483647 : Int32)) % (14 : Int32)) w_OBJECT h0 n0 Z0 pr9 pr14 hc1 hc2 hc3 hc4 hc5 hc6 hc7 hc8 hc9 hc10) hZ (hw _ (List.mem_of_getElem? (i := 4) rfl)) (hw _ (List.mem_of_getElem? (i := 3) rfl)) (by decide) (by decide)) (g := (mkF m 9 #[.val (.int p1), .val (.int ((p1 &&& (2147483647 : Int32)) % (14 : Int32))), .unset, .unset] [(.int ((p1 &&& (2147483647 : Int32)) % (14 : Int32)))])) rfl (by rw [hml]; rfl) (argsL := [(.int ((p1 &&& (2147483647 : Int32)) % (14 : Int32)))]) (rest := []) (lenOf pd__40I_41Lcom_47example_47indberet_47indberet_47Lpr3Class_36Kind_59 rfl) rfl (by show 2 * 0 + _ ≤ _; exact Nat.le_of_eq rfl) (hb hby at_9) (fun _ _ => ⟨rfl, e0, (by decide : 0 + 0 ≤ _), (by decide : 0 + 0 ≤ _)⟩)
                      dsimp only [Pt.U, Pt.locs, Pt.cells, Pt.slots] at X19 l19 y19 z19 st19 hQ19
                      subst l19 y19 z19
                      obtain ⟨rfl, Nq19, e19⟩ := hQ19
                      have N19 := Fr.app N0 Nq19
                      obtain ⟨cq20, kq20, q20a, q20b, q20c⟩ := isOf hZ e19 pr24
                      obtain ⟨_, _, ⟨T20, L20, k20, n20⟩, -, X20, ⟨Lc20, hQ20, l20, y20, z20⟩, st20⟩ := X19.virtualBack hx (y := (⟨"com/example/indberet/indberet/Lpr3Class$Kind", "keepsText", "()Z"⟩ : MethodName)) (z := (⟨"com/example/indberet/indberet/Lpr3Class$Kind", "keepsText", "()Z"⟩ : MethodName)) hown (mvT hZ (hw _ (List.mem_of_getElem? (i := 8) rfl))) (mvT hZ (hw _ (List.mem_of_getElem? (i := 9) rfl))) (notFace_of_selects (args := #[]) (mvT hZ (hw _ (List.mem_of_getElem? (i := 11) rfl)))) (mvT hZ (hw _ (List.mem_of_getElem? (i := 11) rfl))) (mvT hZ (hw _ (List.mem_of_getElem? (i := 10) rfl))) (by decide) (backOf (W := 0) (rm_tn l Z a0 hw [] w_OBJECT w_VALUE w_REFERENCE w_LINK w_REPORT_NAME h0 n0 Z0 pr2 pr3 pr4 pr11 pr14 pr56 pr57 pr58 pr59) hZ (hw _ (List.mem_of_getElem? (i := 12) rfl)) (hw _ (List.mem_of_getElem? (i := 6) rfl)) (by decide) (by decide)) q20a q20c (g := (mkF m 30 #[.val (.int p1), .val (.int ((p1 &&& (2147483647 : Int32)) % (14 : Int32))), .val (.ref w_OBJECT), .val (.int (0 : Int32))] [(.ref w_OBJECT)])) rfl (by rw [hml]; rfl) (Steps.refl _) (argsL := []) (rest := []) (lenOf pd__40_41Z rfl) rfl (by show 2 * 0 + _ ≤ _; exact Nat.le_of_eq rfl) (hb hby at_30) (fun _ _ => ⟨rfl, e19, (by decide : 0 + 0 ≤ _), (by decide : 0 + 0 ≤ _)⟩)
                      dsimp only [Pt.U, Pt.locs, Pt.cells, Pt.slots] at X20 l20 y20 z20 st20 hQ20
                      subst l20 y20 z20
                      obtain ⟨rfl, Nq20, e20⟩ := hQ20
                      have N20 := Fr.app N19 Nq20
                      obtain ⟨fs, hr, hrun, hended, hW, hsame⟩ := X20.leave (v := some (.int (1 : Int32))) (fun h => by rw [Bd.returns] at h; cases h)
                      refine ⟨_, _, pre0 _ ?_, hrun, hended, _, _, rfl, ?_, ⟨_, rfl⟩, hW, hsame.mono (by decide) (by decide)⟩
                      · show Steps p.tables e below (s₁.setTop (mkF m 0 #[.val (.int p1), .unset, .unset, .unset] [])) _
                        refine XS.iloadN X0.here hx rfl (hb hby at_0) rfl ?_
                        show Steps p.tables e below (s₁.setTop (mkF m 1 #[.val (.int p1), .unset, .unset, .unset] [(.int p1)])) _
                        refine X0.ldcInt hx hown (mvT hZ (hw _ (List.mem_of_getElem? (i := 0) rfl))) (g := (mkF m 1 #[.val (.int p1), .unset, .unset, .unset] [(.int p1)])) rfl (hb hby at_1) _ ?_
                        show Steps p.tables e below (s₁.setTop (mkF m 3 #[.val (.int p1), .unset, .unset, .unset] [(.int (2147483647 : Int32)), (.int p1)])) _
                        refine XS.iand X0.here hx rfl (hb hby at_3) rfl ?_
                        show Steps p.tables e below (s₁.setTop (mkF m 4 #[.val (.int p1), .unset, .unset, .unset] [(.int (p1 &&& (2147483647 : Int32)))])) _
                        refine XS.bipush X0.here hx rfl (hb hby at_4) ?_
                        show Steps p.tables e below (s₁.setTop (mkF m 6 #[.val (.int p1), .unset, .unset, .unset] [(.int (14 : Int32)), (.int (p1 &&& (2147483647 : Int32)))])) _
                        refine iremM X0 hx rfl (hb hby at_6) rfl (by decide : ¬ ((14 : Int32) = (0 : Int32))) ?_
                        show Steps p.tables e below (s₁.setTop (mkF m 7 #[.val (.int p1), .unset, .unset, .unset] [(.int ((p1 &&& (2147483647 : Int32)) % (14 : Int32)))])) _
                        refine XS.istoreN X0.here hx rfl (hb hby at_7) rfl (l' := #[.val (.int p1), .val (.int ((p1 &&& (2147483647 : Int32)) % (14 : Int32))), .unset, .unset]) rfl ?_
                        show Steps p.tables e below (s₁.setTop (mkF m 8 #[.val (.int p1), .val (.int ((p1 &&& (2147483647 : Int32)) % (14 : Int32))), .unset, .unset] [])) _
                        refine XS.iloadN X0.here hx rfl (hb hby at_8) rfl ?_
                        show Steps p.tables e below (s₁.setTop (mkF m 9 #[.val (.int p1), .val (.int ((p1 &&& (2147483647 : Int32)) % (14 : Int32))), .unset, .unset] [(.int ((p1 &&& (2147483647 : Int32)) % (14 : Int32)))])) _
                        refine st19 _ ?_
                        show Steps p.tables e below (T19.setTop (mkF m 12 #[.val (.int p1), .val (.int ((p1 &&& (2147483647 : Int32)) % (14 : Int32))), .unset, .unset] [(.ref w_OBJECT)])) _
                        refine XS.astoreN X19.here hx rfl (hb hby at_12) rfl rfl (l' := #[.val (.int p1), .val (.int ((p1 &&& (2147483647 : Int32)) % (14 : Int32))), .val (.ref w_OBJECT), .unset]) rfl ?_
                        show Steps p.tables e below (T19.setTop (mkF m 13 #[.val (.int p1), .val (.int ((p1 &&& (2147483647 : Int32)) % (14 : Int32))), .val (.ref w_OBJECT), .unset] [])) _
                        refine XS.sipush X19.here hx rfl (hb hby at_13) ?_
                        show Steps p.tables e below (T19.setTop (mkF m 16 #[.val (.int p1), .val (.int ((p1 &&& (2147483647 : Int32)) % (14 : Int32))), .val (.ref w_OBJECT), .unset] [(.int (2076 : Int32))])) _
                        refine XS.iloadN X19.here hx rfl (hb hby at_16) rfl ?_
                        show Steps p.tables e below (T19.setTop (mkF m 17 #[.val (.int p1), .val (.int ((p1 &&& (2147483647 : Int32)) % (14 : Int32))), .val (.ref w_OBJECT), .unset] [(.int ((p1 &&& (2147483647 : Int32)) % (14 : Int32))), (.int (2076 : Int32))])) _
                        refine XS.iushr X19.here hx rfl (hb hby at_17) rfl ?_
                        show Steps p.tables e below (T19.setTop (mkF m 18 #[.val (.int p1), .val (.int ((p1 &&& (2147483647 : Int32)) % (14 : Int32))), .val (.ref w_OBJECT), .unset] [(.int (((2076 : Int32).toUInt32 >>> (((p1 &&& (2147483647 : Int32)) % (14 : Int32)) &&& 31).toUInt32).toInt32))])) _
                        refine XS.iconst X19.here hx rfl (hb hby at_18) ?_
                        show Steps p.tables e below (T19.setTop (mkF m 19 #[.val (.int p1), .val (.int ((p1 &&& (2147483647 : Int32)) % (14 : Int32))), .val (.ref w_OBJECT), .unset] [(.int (1 : Int32)), (.int (((2076 : Int32).toUInt32 >>> (((p1 &&& (2147483647 : Int32)) % (14 : Int32)) &&& 31).toUInt32).toInt32))])) _
                        refine XS.iand X19.here hx rfl (hb hby at_19) rfl ?_
                        show Steps p.tables e below (T19.setTop (mkF m 20 #[.val (.int p1), .val (.int ((p1 &&& (2147483647 : Int32)) % (14 : Int32))), .val (.ref w_OBJECT), .unset] [(.int ((((2076 : Int32).toUInt32 >>> (((p1 &&& (2147483647 : Int32)) % (14 : Int32)) &&& 31).toUInt32).toInt32) &&& (1 : Int32)))])) _
                        refine XS.ifYes X19.here hx rfl (pc0 := 20) (pc' := 27) rfl (hb hby at_20) rfl ((if0 _ _).trans (teq (by rw [hc10]; decide : ((((2076 : Int32).toUInt32 >>> (((p1 &&& (2147483647 : Int32)) % (14 : Int32)) &&& 31).toUInt32).toInt32) &&& (1 : Int32)) = (0 : Int32))).1) (by decide) (by decide) ?_
                        show Steps p.tables e below (T19.setTop (mkF m 27 #[.val (.int p1), .val (.int ((p1 &&& (2147483647 : Int32)) % (14 : Int32))), .val (.ref w_OBJECT), .unset] [])) _
                        refine XS.iconst X19.here hx rfl (hb hby at_27) ?_
                        show Steps p.tables e below (T19.setTop (mkF m 28 #[.val (.int p1), .val (.int ((p1 &&& (2147483647 : Int32)) % (14 : Int32))), .val (.ref w_OBJECT), .unset] [(.int (0 : Int32))])) _
                        refine XS.istoreN X19.here hx rfl (hb hby at_28) rfl (l' := #[.val (.int p1), .val (.int ((p1 &&& (2147483647 : Int32)) % (14 : Int32))), .val (.ref w_OBJECT), .val (.int (0 : Int32))]) rfl ?_
                        show Steps p.tables e below (T19.setTop (mkF m 29 #[.val (.int p1), .val (.int ((p1 &&& (2147483647 : Int32)) % (14 : Int32))), .val (.ref w_OBJECT), .val (.int (0 : Int32))] [])) _
                        refine XS.aloadN X19.here hx rfl (hb hby at_29) rfl rfl ?_
                        show Steps p.tables e below (T19.setTop (mkF m 30 #[.val (.int p1), .val (.int ((p1 &&& (2147483647 : Int32)) % (14 : Int32))), .val (.ref w_OBJECT), .val (.int (0 : Int32))] [(.ref w_OBJECT)])) _
                        refine st20.trans ?_
                        show Steps p.tables e below (T20.setTop (mkF m 33 #[.val (.int p1), .val (.int ((p1 &&& (2147483647 : Int32)) % (14 : Int32))), .val (.ref w_OBJECT), .val (.int (0 : Int32))] [(.int (0 : Int32))])) _
                        refine XS.iloadN X20.here hx rfl (hb hby at_33) rfl ?_
                        show Steps p.tables e below (T20.setTop (mkF m 34 #[.val (.int p1), .val (.int ((p1 &&& (2147483647 : Int32)) % (14 : Int32))), .val (.ref w_OBJECT), .val (.int (0 : Int32))] [(.int (0 : Int32)), (.int (0 : Int32))])) _
                        refine XS.icmpNo X20.here hx rfl (hb hby at_34) rfl (teq (by decide : (0 : Int32) = (0 : Int32))).2 ?_
                        show Steps p.tables e below (T20.setTop (mkF m 37 #[.val (.int p1), .val (.int ((p1 &&& (2147483647 : Int32)) % (14 : Int32))), .val (.ref w_OBJECT), .val (.int (0 : Int32))] [])) _
                        refine XS.iconst X20.here hx rfl (hb hby at_37) ?_
                        show Steps p.tables e below (T20.setTop (mkF m 38 #[.val (.int p1), .val (.int ((p1 &&& (2147483647 : Int32)) % (14 : Int32))), .val (.ref w_OBJECT), .val (.int (0 : Int32))] [(.int (1 : Int32))])) _
                        refine XS.goto X20.here hx rfl (pc0 := 38) (pc' := 42) rfl (hb hby at_38) (by decide) (by decide) ?_
                        show Steps p.tables e below (T20.setTop (mkF m 42 #[.val (.int p1), .val (.int ((p1 &&& (2147483647 : Int32)) % (14 : Int32))), .val (.ref w_OBJECT), .val (.int (0 : Int32))] [(.int (1 : Int32))])) _
                        exact retN X20 hx (t := .boolean) Bd.returns (by simp) (hb hby at_42) hr
                      · show Q_rm0 Z p1 w_TEXT w_OPTIONAL_TEXT w_VALUE w_REFERENCE w_LINK w_TIME w_OPTIONAL_TIME w_ARRAY w_OPTIONAL_ARRAY w_OBJECT w_BIRTH w_REPORT_NAME w_RESULT_TYPE w_VALUE_MOMENT h0 n0 _ T20.heap _
                        exact ⟨rfl, N20⟩
                    · by_cases hc11 : ((p1 &&& (2147483647 : Int32)) % (14 : Int32)) = (10 : Int32)
                      · obtain ⟨_, _, ⟨T21, L21, k21, n21⟩, -, X21, ⟨Lc21, hQ21, l21, y21, z21⟩, st21⟩ := Jvm.LawKit.callS X0 hx (y := (⟨"com/example/indberet/indberet/KindKeepsTextPinLaw", "kind", "(I)Lcom/example/indberet/indberet/Lpr3Class$Kind;"⟩ : MethodName)) hown (mvT hZ (hw _ (List.mem_of_getElem? (i := 1) rfl))) (mvT hZ (hw _ (List.mem_of_getElem? (i := 2) rfl))) (mvT hZ (hw _ (List.mem_of_getElem? (i := 3) rfl))) (mvT hZ (hw _ (List.mem_of_getElem? (i := 4) rfl))) (by decide) (backOf (W := 0) (rm_pk10 l Z a0 hw [] ((p1 &&& (2147483647 : Int32)) % (14 : Int32)) w_BIRTH h0 n0 Z0 pr10 pr14 hc1 hc2 hc3 hc4 hc5 hc6 hc7 hc8 hc9 hc10 hc11) hZ (hw _ (List.mem_of_getElem? (i := 4) rfl)) (hw _ (List.mem_of_getElem? (i := 3) rfl)) (by decide) (by decide)) (g := (mkF m 9 #[.val (.int p1), .val (.int ((p1 &&& (2147483647 : Int32)) % (14 : Int32))), .unset, .unset] [(.int ((p1 &&& (2147483647 : Int32)) % (14 : Int32)))])) rfl (by rw [hml]; rfl) (argsL := [(.int ((p1 &&& (2147483647 : Int32)) % (14 : Int32)))]) (rest := []) (lenOf pd__40I_41Lcom_47example_47indberet_47indberet_47Lpr3Class_36Kind_59 rfl) rfl (by show 2 * 0 + _ ≤ _; exact Nat.le_of_eq rfl) (hb hby at_9) (fun _ _ => ⟨rfl, e0, (by decide : 0 + 0 ≤ _), (by decide : 0 + 0 ≤ _)⟩)
                        dsimp only [Pt.U, Pt.locs, Pt.cells, Pt.slots] at X21 l21 y21 z21 st21 hQ21
                        subst l21 y21 z21
                        obtain ⟨rfl, Nq21, e21⟩ := hQ21
                        have N21 := Fr.app N0 Nq21
                        obtain ⟨cq22, kq22, q22a, q22b, q22c⟩ := isOf hZ e21 pr25
                        obtain ⟨_, _, ⟨T22, L22, k22, n22⟩, -, X22, ⟨Lc22, hQ22, l22, y22, z22⟩, st22⟩ := X21.virtualBack hx (y := (⟨"com/example/indberet/indberet/Lpr3Class$Kind", "keepsText", "()Z"⟩ : MethodName)) (z := (⟨"com/example/indberet/indberet/Lpr3Class$Kind", "keepsText", "()Z"⟩ : MethodName)) hown (mvT hZ (hw _ (List.mem_of_getElem? (i := 8) rfl))) (mvT hZ (hw _ (List.mem_of_getElem? (i := 9) rfl))) (notFace_of_selects (args := #[]) (mvT hZ (hw _ (List.mem_of_getElem? (i := 11) rfl)))) (mvT hZ (hw _ (List.mem_of_getElem? (i := 11) rfl))) (mvT hZ (hw _ (List.mem_of_getElem? (i := 10) rfl))) (by decide) (backOf (W := 0) (rm_tn l Z a0 hw [] w_BIRTH w_VALUE w_REFERENCE w_LINK w_REPORT_NAME h0 n0 Z0 pr2 pr3 pr4 pr11 pr14 pr60 pr61 pr62 pr63) hZ (hw _ (List.mem_of_getElem? (i := 12) rfl)) (hw _ (List.mem_of_getElem? (i := 6) rfl)) (by decide) (by decide)) q22a q22c (g := (mkF m 30 #[.val (.int p1), .val (.int ((p1 &&& (2147483647 : Int32)) % (14 : Int32))), .val (.ref w_BIRTH), .val (.int (0 : Int32))] [(.ref w_BIRTH)])) rfl (by rw [hml]; rfl) (Steps.refl _) (argsL := []) (rest := []) (lenOf pd__40_41Z rfl) rfl (by show 2 * 0 + _ ≤ _; exact Nat.le_of_eq rfl) (hb hby at_30) (fun _ _ => ⟨rfl, e21, (by decide : 0 + 0 ≤ _), (by decide : 0 + 0 ≤ _)⟩)
                        dsimp only [Pt.U, Pt.locs, Pt.cells, Pt.slots] at X22 l22 y22 z22 st22 hQ22
                        subst l22 y22 z22
                        obtain ⟨rfl, Nq22, e22⟩ := hQ22
                        have N22 := Fr.app N21 Nq22
                        obtain ⟨fs, hr, hrun, hended, hW, hsame⟩ := X22.leave (v := some (.int (1 : Int32))) (fun h => by rw [Bd.returns] at h; cases h)
                        refine ⟨_, _, pre0 _ ?_, hrun, hended, _, _, rfl, ?_, ⟨_, rfl⟩, hW, hsame.mono (by decide) (by decide)⟩
                        · show Steps p.tables e below (s₁.setTop (mkF m 0 #[.val (.int p1), .unset, .unset, .unset] [])) _
                          refine XS.iloadN X0.here hx rfl (hb hby at_0) rfl ?_
                          show Steps p.tables e below (s₁.setTop (mkF m 1 #[.val (.int p1), .unset, .unset, .unset] [(.int p1)])) _
                          refine X0.ldcInt hx hown (mvT hZ (hw _ (List.mem_of_getElem? (i := 0) rfl))) (g := (mkF m 1 #[.val (.int p1), .unset, .unset, .unset] [(.int p1)])) rfl (hb hby at_1) _ ?_
                          show Steps p.tables e below (s₁.setTop (mkF m 3 #[.val (.int p1), .unset, .unset, .unset] [(.int (2147483647 : Int32)), (.int p1)])) _
                          refine XS.iand X0.here hx rfl (hb hby at_3) rfl ?_
                          show Steps p.tables e below (s₁.setTop (mkF m 4 #[.val (.int p1), .unset, .unset, .unset] [(.int (p1 &&& (2147483647 : Int32)))])) _
                          refine XS.bipush X0.here hx rfl (hb hby at_4) ?_
                          show Steps p.tables e below (s₁.setTop (mkF m 6 #[.val (.int p1), .unset, .unset, .unset] [(.int (14 : Int32)), (.int (p1 &&& (2147483647 : Int32)))])) _
                          refine iremM X0 hx rfl (hb hby at_6) rfl (by decide : ¬ ((14 : Int32) = (0 : Int32))) ?_
                          show Steps p.tables e below (s₁.setTop (mkF m 7 #[.val (.int p1), .unset, .unset, .unset] [(.int ((p1 &&& (2147483647 : Int32)) % (14 : Int32)))])) _
                          refine XS.istoreN X0.here hx rfl (hb hby at_7) rfl (l' := #[.val (.int p1), .val (.int ((p1 &&& (2147483647 : Int32)) % (14 : Int32))), .unset, .unset]) rfl ?_
                          show Steps p.tables e below (s₁.setTop (mkF m 8 #[.val (.int p1), .val (.int ((p1 &&& (2147483647 : Int32)) % (14 : Int32))), .unset, .unset] [])) _
                          refine XS.iloadN X0.here hx rfl (hb hby at_8) rfl ?_
                          show Steps p.tables e below (s₁.setTop (mkF m 9 #[.val (.int p1), .val (.int ((p1 &&& (2147483647 : Int32)) % (14 : Int32))), .unset, .unset] [(.int ((p1 &&& (2147483647 : Int32)) % (14 : Int32)))])) _
                          refine st21 _ ?_
                          show Steps p.tables e below (T21.setTop (mkF m 12 #[.val (.int p1), .val (.int ((p1 &&& (2147483647 : Int32)) % (14 : Int32))), .unset, .unset] [(.ref w_BIRTH)])) _
                          refine XS.astoreN X21.here hx rfl (hb hby at_12) rfl rfl (l' := #[.val (.int p1), .val (.int ((p1 &&& (2147483647 : Int32)) % (14 : Int32))), .val (.ref w_BIRTH), .unset]) rfl ?_
                          show Steps p.tables e below (T21.setTop (mkF m 13 #[.val (.int p1), .val (.int ((p1 &&& (2147483647 : Int32)) % (14 : Int32))), .val (.ref w_BIRTH), .unset] [])) _
                          refine XS.sipush X21.here hx rfl (hb hby at_13) ?_
                          show Steps p.tables e below (T21.setTop (mkF m 16 #[.val (.int p1), .val (.int ((p1 &&& (2147483647 : Int32)) % (14 : Int32))), .val (.ref w_BIRTH), .unset] [(.int (2076 : Int32))])) _
                          refine XS.iloadN X21.here hx rfl (hb hby at_16) rfl ?_
                          show Steps p.tables e below (T21.setTop (mkF m 17 #[.val (.int p1), .val (.int ((p1 &&& (2147483647 : Int32)) % (14 : Int32))), .val (.ref w_BIRTH), .unset] [(.int ((p1 &&& (2147483647 : Int32)) % (14 : Int32))), (.int (2076 : Int32))])) _
                          refine XS.iushr X21.here hx rfl (hb hby at_17) rfl ?_
                          show Steps p.tables e below (T21.setTop (mkF m 18 #[.val (.int p1), .val (.int ((p1 &&& (2147483647 : Int32)) % (14 : Int32))), .val (.ref w_BIRTH), .unset] [(.int (((2076 : Int32).toUInt32 >>> (((p1 &&& (2147483647 : Int32)) % (14 : Int32)) &&& 31).toUInt32).toInt32))])) _
                          refine XS.iconst X21.here hx rfl (hb hby at_18) ?_
                          show Steps p.tables e below (T21.setTop (mkF m 19 #[.val (.int p1), .val (.int ((p1 &&& (2147483647 : Int32)) % (14 : Int32))), .val (.ref w_BIRTH), .unset] [(.int (1 : Int32)), (.int (((2076 : Int32).toUInt32 >>> (((p1 &&& (2147483647 : Int32)) % (14 : Int32)) &&& 31).toUInt32).toInt32))])) _
                          refine XS.iand X21.here hx rfl (hb hby at_19) rfl ?_
                          show Steps p.tables e below (T21.setTop (mkF m 20 #[.val (.int p1), .val (.int ((p1 &&& (2147483647 : Int32)) % (14 : Int32))), .val (.ref w_BIRTH), .unset] [(.int ((((2076 : Int32).toUInt32 >>> (((p1 &&& (2147483647 : Int32)) % (14 : Int32)) &&& 31).toUInt32).toInt32) &&& (1 : Int32)))])) _
                          refine XS.ifYes X21.here hx rfl (pc0 := 20) (pc' := 27) rfl (hb hby at_20) rfl ((if0 _ _).trans (teq (by rw [hc11]; decide : ((((2076 : Int32).toUInt32 >>> (((p1 &&& (2147483647 : Int32)) % (14 : Int32)) &&& 31).toUInt32).toInt32) &&& (1 : Int32)) = (0 : Int32))).1) (by decide) (by decide) ?_
                          show Steps p.tables e below (T21.setTop (mkF m 27 #[.val (.int p1), .val (.int ((p1 &&& (2147483647 : Int32)) % (14 : Int32))), .val (.ref w_BIRTH), .unset] [])) _
                          refine XS.iconst X21.here hx rfl (hb hby at_27) ?_
                          show Steps p.tables e below (T21.setTop (mkF m 28 #[.val (.int p1), .val (.int ((p1 &&& (2147483647 : Int32)) % (14 : Int32))), .val (.ref w_BIRTH), .unset] [(.int (0 : Int32))])) _
                          refine XS.istoreN X21.here hx rfl (hb hby at_28) rfl (l' := #[.val (.int p1), .val (.int ((p1 &&& (2147483647 : Int32)) % (14 : Int32))), .val (.ref w_BIRTH), .val (.int (0 : Int32))]) rfl ?_
                          show Steps p.tables e below (T21.setTop (mkF m 29 #[.val (.int p1), .val (.int ((p1 &&& (2147483647 : Int32)) % (14 : Int32))), .val (.ref w_BIRTH), .val (.int (0 : Int32))] [])) _
                          refine XS.aloadN X21.here hx rfl (hb hby at_29) rfl rfl ?_
                          show Steps p.tables e below (T21.setTop (mkF m 30 #[.val (.int p1), .val (.int ((p1 &&& (2147483647 : Int32)) % (14 : Int32))), .val (.ref w_BIRTH), .val (.int (0 : Int32))] [(.ref w_BIRTH)])) _
                          refine st22.trans ?_
                          show Steps p.tables e below (T22.setTop (mkF m 33 #[.val (.int p1), .val (.int ((p1 &&& (2147483647 : Int32)) % (14 : Int32))), .val (.ref w_BIRTH), .val (.int (0 : Int32))] [(.int (0 : Int32))])) _
                          refine XS.iloadN X22.here hx rfl (hb hby at_33) rfl ?_
                          show Steps p.tables e below (T22.setTop (mkF m 34 #[.val (.int p1), .val (.int ((p1 &&& (2147483647 : Int32)) % (14 : Int32))), .val (.ref w_BIRTH), .val (.int (0 : Int32))] [(.int (0 : Int32)), (.int (0 : Int32))])) _
                          refine XS.icmpNo X22.here hx rfl (hb hby at_34) rfl (teq (by decide : (0 : Int32) = (0 : Int32))).2 ?_
                          show Steps p.tables e below (T22.setTop (mkF m 37 #[.val (.int p1), .val (.int ((p1 &&& (2147483647 : Int32)) % (14 : Int32))), .val (.ref w_BIRTH), .val (.int (0 : Int32))] [])) _
                          refine XS.iconst X22.here hx rfl (hb hby at_37) ?_
                          show Steps p.tables e below (T22.setTop (mkF m 38 #[.val (.int p1), .val (.int ((p1 &&& (2147483647 : Int32)) % (14 : Int32))), .val (.ref w_BIRTH), .val (.int (0 : Int32))] [(.int (1 : Int32))])) _
                          refine XS.goto X22.here hx rfl (pc0 := 38) (pc' := 42) rfl (hb hby at_38) (by decide) (by decide) ?_
                          show Steps p.tables e below (T22.setTop (mkF m 42 #[.val (.int p1), .val (.int ((p1 &&& (2147483647 : Int32)) % (14 : Int32))), .val (.ref w_BIRTH), .val (.int (0 : Int32))] [(.int (1 : Int32))])) _
                          exact retN X22 hx (t := .boolean) Bd.returns (by simp) (hb hby at_42) hr
                        · show Q_rm0 Z p1 w_TEXT w_OPTIONAL_TEXT w_VALUE w_REFERENCE w_LINK w_TIME w_OPTIONAL_TIME w_ARRAY w_OPTIONAL_ARRAY w_OBJECT w_BIRTH w_REPORT_NAME w_RESULT_TYPE w_VALUE_MOMENT h0 n0 _ T22.heap _
                          exact ⟨rfl, N22⟩
                      · by_cases hc12 : ((p1 &&& (2147483647 : Int32)) % (14 : Int32)) = (11 : Int32)
                        · obtain ⟨_, _, ⟨T23, L23, k23, n23⟩, -, X23, ⟨Lc23, hQ23, l23, y23, z23⟩, st23⟩ := Jvm.LawKit.callS X0 hx (y := (⟨"com/example/indberet/indberet/KindKeepsTextPinLaw", "kind", "(I)Lcom/example/indberet/indberet/Lpr3Class$Kind;"⟩ : MethodName)) hown (mvT hZ (hw _ (List.mem_of_getElem? (i := 1) rfl))) (mvT hZ (hw _ (List.mem_of_getElem? (i := 2) rfl))) (mvT hZ (hw _ (List.mem_of_getElem? (i := 3) rfl))) (mvT hZ (hw _ (List.mem_of_getElem? (i := 4) rfl))) (by decide) (backOf (W := 0) (rm_pk11 l Z a0 hw [] ((p1 &&& (2147483647 : Int32)) % (14 : Int32)) w_REPORT_NAME h0 n0 Z0 pr11 pr14 hc1 hc2 hc3 hc4 hc5 hc6 hc7 hc8 hc9 hc10 hc11 hc12) hZ (hw _ (List.mem_of_getElem? (i := 4) rfl)) (hw _ (List.mem_of_getElem? (i := 3) rfl)) (by decide) (by decide)) (g := (mkF m 9 #[.val (.int p1), .val (.int ((p1 &&& (2147483647 : Int32)) % (14 : Int32))), .unset, .unset] [(.int ((p1 &&& (2147483647 : Int32)) % (14 : Int32)))])) rfl (by rw [hml]; rfl) (argsL := [(.int ((p1 &&& (2147483647 : Int32)) % (14 : Int32)))]) (rest := []) (lenOf pd__40I_41Lcom_47example_47indberet_47indberet_47Lpr3Class_36Kind_59 rfl) rfl (by show 2 * 0 + _ ≤ _; exact Nat.le_of_eq rfl) (hb hby at_9) (fun _ _ => ⟨rfl, e0, (by decide : 0 + 0 ≤ _), (by decide : 0 + 0 ≤ _)⟩)
                          dsimp only [Pt.U, Pt.locs, Pt.cells, Pt.slots] at X23 l23 y23 z23 st23 hQ23
                          subst l23 y23 z23
                          obtain ⟨rfl, Nq23, e23⟩ := hQ23
                          have N23 := Fr.app N0 Nq23
                          obtain ⟨cq24, kq24, q24a, q24b, q24c⟩ := isOf hZ e23 pr26
                          obtain ⟨_, _, ⟨T24, L24, k24, n24⟩, -, X24, ⟨Lc24, hQ24, l24, y24, z24⟩, st24⟩ := X23.virtualBack hx (y := (⟨"com/example/indberet/indberet/Lpr3Class$Kind", "keepsText", "()Z"⟩ : MethodName)) (z := (⟨"com/example/indberet/indberet/Lpr3Class$Kind", "keepsText", "()Z"⟩ : MethodName)) hown (mvT hZ (hw _ (List.mem_of_getElem? (i := 8) rfl))) (mvT hZ (hw _ (List.mem_of_getElem? (i := 9) rfl))) (notFace_of_selects (args := #[]) (mvT hZ (hw _ (List.mem_of_getElem? (i := 11) rfl)))) (mvT hZ (hw _ (List.mem_of_getElem? (i := 11) rfl))) (mvT hZ (hw _ (List.mem_of_getElem? (i := 10) rfl))) (by decide) (backOf (W := 0) (rm_t3 l Z a0 hw [] w_REPORT_NAME w_VALUE w_REFERENCE w_LINK h0 n0 Z0 pr2 pr3 pr4 pr11 pr14 pr64 pr65 pr66) hZ (hw _ (List.mem_of_getElem? (i := 12) rfl)) (hw _ (List.mem_of_getElem? (i := 6) rfl)) (by decide) (by decide)) q24a q24c (g := (mkF m 30 #[.val (.int p1), .val (.int ((p1 &&& (2147483647 : Int32)) % (14 : Int32))), .val (.ref w_REPORT_NAME), .val (.int (1 : Int32))] [(.ref w_REPORT_NAME)])) rfl (by rw [hml]; rfl) (Steps.refl _) (argsL := []) (rest := []) (lenOf pd__40_41Z rfl) rfl (by show 2 * 0 + _ ≤ _; exact Nat.le_of_eq rfl) (hb hby at_30) (fun _ _ => ⟨rfl, e23, (by decide : 0 + 0 ≤ _), (by decide : 0 + 0 ≤ _)⟩)
                          dsimp only [Pt.U, Pt.locs, Pt.cells, Pt.slots] at X24 l24 y24 z24 st24 hQ24
                          subst l24 y24 z24
                          obtain ⟨rfl, Nq24, e24⟩ := hQ24
                          have N24 := Fr.app N23 Nq24
                          obtain ⟨fs, hr, hrun, hended, hW, hsame⟩ := X24.leave (v := some (.int (1 : Int32))) (fun h => by rw [Bd.returns] at h; cases h)
                          refine ⟨_, _, pre0 _ ?_, hrun, hended, _, _, rfl, ?_, ⟨_, rfl⟩, hW, hsame.mono (by decide) (by decide)⟩
                          · show Steps p.tables e below (s₁.setTop (mkF m 0 #[.val (.int p1), .unset, .unset, .unset] [])) _
                            refine XS.iloadN X0.here hx rfl (hb hby at_0) rfl ?_
                            show Steps p.tables e below (s₁.setTop (mkF m 1 #[.val (.int p1), .unset, .unset, .unset] [(.int p1)])) _
                            refine X0.ldcInt hx hown (mvT hZ (hw _ (List.mem_of_getElem? (i := 0) rfl))) (g := (mkF m 1 #[.val (.int p1), .unset, .unset, .unset] [(.int p1)])) rfl (hb hby at_1) _ ?_
                            show Steps p.tables e below (s₁.setTop (mkF m 3 #[.val (.int p1), .unset, .unset, .unset] [(.int (2147483647 : Int32)), (.int p1)])) _
                            refine XS.iand X0.here hx rfl (hb hby at_3) rfl ?_
                            show Steps p.tables e below (s₁.setTop (mkF m 4 #[.val (.int p1), .unset, .unset, .unset] [(.int (p1 &&& (2147483647 : Int32)))])) _
                            refine XS.bipush X0.here hx rfl (hb hby at_4) ?_
                            show Steps p.tables e below (s₁.setTop (mkF m 6 #[.val (.int p1), .unset, .unset, .unset] [(.int (14 : Int32)), (.int (p1 &&& (2147483647 : Int32)))])) _
                            refine iremM X0 hx rfl (hb hby at_6) rfl (by decide : ¬ ((14 : Int32) = (0 : Int32))) ?_
                            show Steps p.tables e below (s₁.setTop (mkF m 7 #[.val (.int p1), .unset, .unset, .unset] [(.int ((p1 &&& (2147483647 : Int32)) % (14 : Int32)))])) _
                            refine XS.istoreN X0.here hx rfl (hb hby at_7) rfl (l' := #[.val (.int p1), .val (.int ((p1 &&& (2147483647 : Int32)) % (14 : Int32))), .unset, .unset]) rfl ?_
                            show Steps p.tables e below (s₁.setTop (mkF m 8 #[.val (.int p1), .val (.int ((p1 &&& (2147483647 : Int32)) % (14 : Int32))), .unset, .unset] [])) _
                            refine XS.iloadN X0.here hx rfl (hb hby at_8) rfl ?_
                            show Steps p.tables e below (s₁.setTop (mkF m 9 #[.val (.int p1), .val (.int ((p1 &&& (2147483647 : Int32)) % (14 : Int32))), .unset, .unset] [(.int ((p1 &&& (2147483647 : Int32)) % (14 : Int32)))])) _
                            refine st23 _ ?_
                            show Steps p.tables e below (T23.setTop (mkF m 12 #[.val (.int p1), .val (.int ((p1 &&& (2147483647 : Int32)) % (14 : Int32))), .unset, .unset] [(.ref w_REPORT_NAME)])) _
                            refine XS.astoreN X23.here hx rfl (hb hby at_12) rfl rfl (l' := #[.val (.int p1), .val (.int ((p1 &&& (2147483647 : Int32)) % (14 : Int32))), .val (.ref w_REPORT_NAME), .unset]) rfl ?_
                            show Steps p.tables e below (T23.setTop (mkF m 13 #[.val (.int p1), .val (.int ((p1 &&& (2147483647 : Int32)) % (14 : Int32))), .val (.ref w_REPORT_NAME), .unset] [])) _
                            refine XS.sipush X23.here hx rfl (hb hby at_13) ?_
                            show Steps p.tables e below (T23.setTop (mkF m 16 #[.val (.int p1), .val (.int ((p1 &&& (2147483647 : Int32)) % (14 : Int32))), .val (.ref w_REPORT_NAME), .unset] [(.int (2076 : Int32))])) _
                            refine XS.iloadN X23.here hx rfl (hb hby at_16) rfl ?_
                            show Steps p.tables e below (T23.setTop (mkF m 17 #[.val (.int p1), .val (.int ((p1 &&& (2147483647 : Int32)) % (14 : Int32))), .val (.ref w_REPORT_NAME), .unset] [(.int ((p1 &&& (2147483647 : Int32)) % (14 : Int32))), (.int (2076 : Int32))])) _
                            refine XS.iushr X23.here hx rfl (hb hby at_17) rfl ?_
                            show Steps p.tables e below (T23.setTop (mkF m 18 #[.val (.int p1), .val (.int ((p1 &&& (2147483647 : Int32)) % (14 : Int32))), .val (.ref w_REPORT_NAME), .unset] [(.int (((2076 : Int32).toUInt32 >>> (((p1 &&& (2147483647 : Int32)) % (14 : Int32)) &&& 31).toUInt32).toInt32))])) _
                            refine XS.iconst X23.here hx rfl (hb hby at_18) ?_
                            show Steps p.tables e below (T23.setTop (mkF m 19 #[.val (.int p1), .val (.int ((p1 &&& (2147483647 : Int32)) % (14 : Int32))), .val (.ref w_REPORT_NAME), .unset] [(.int (1 : Int32)), (.int (((2076 : Int32).toUInt32 >>> (((p1 &&& (2147483647 : Int32)) % (14 : Int32)) &&& 31).toUInt32).toInt32))])) _
                            refine XS.iand X23.here hx rfl (hb hby at_19) rfl ?_
                            show Steps p.tables e below (T23.setTop (mkF m 20 #[.val (.int p1), .val (.int ((p1 &&& (2147483647 : Int32)) % (14 : Int32))), .val (.ref w_REPORT_NAME), .unset] [(.int ((((2076 : Int32).toUInt32 >>> (((p1 &&& (2147483647 : Int32)) % (14 : Int32)) &&& 31).toUInt32).toInt32) &&& (1 : Int32)))])) _
                            refine XS.ifNo X23.here hx rfl (hb hby at_20) rfl ((if0 _ _).trans (feq (by rw [hc12]; decide : ¬ (((((2076 : Int32).toUInt32 >>> (((p1 &&& (2147483647 : Int32)) % (14 : Int32)) &&& 31).toUInt32).toInt32) &&& (1 : Int32)) = (0 : Int32)))).1) ?_
                            show Steps p.tables e below (T23.setTop (mkF m 23 #[.val (.int p1), .val (.int ((p1 &&& (2147483647 : Int32)) % (14 : Int32))), .val (.ref w_REPORT_NAME), .unset] [])) _
                            refine XS.iconst X23.here hx rfl (hb hby at_23) ?_
                            show Steps p.tables e below (T23.setTop (mkF m 24 #[.val (.int p1), .val (.int ((p1 &&& (2147483647 : Int32)) % (14 : Int32))), .val (.ref w_REPORT_NAME), .unset] [(.int (1 : Int32))])) _
                            refine XS.goto X23.here hx rfl (pc0 := 24) (pc' := 28) rfl (hb hby at_24) (by decide) (by decide) ?_
                            show Steps p.tables e below (T23.setTop (mkF m 28 #[.val (.int p1), .val (.int ((p1 &&& (2147483647 : Int32)) % (14 : Int32))), .val (.ref w_REPORT_NAME), .unset] [(.int (1 : Int32))])) _
                            refine XS.istoreN X23.here hx rfl (hb hby at_28) rfl (l' := #[.val (.int p1), .val (.int ((p1 &&& (2147483647 : Int32)) % (14 : Int32))), .val (.ref w_REPORT_NAME), .val (.int (1 : Int32))]) rfl ?_
                            show Steps p.tables e below (T23.setTop (mkF m 29 #[.val (.int p1), .val (.int ((p1 &&& (2147483647 : Int32)) % (14 : Int32))), .val (.ref w_REPORT_NAME), .val (.int (1 : Int32))] [])) _
                            refine XS.aloadN X23.here hx rfl (hb hby at_29) rfl rfl ?_
                            show Steps p.tables e below (T23.setTop (mkF m 30 #[.val (.int p1), .val (.int ((p1 &&& (2147483647 : Int32)) % (14 : Int32))), .val (.ref w_REPORT_NAME), .val (.int (1 : Int32))] [(.ref w_REPORT_NAME)])) _
                            refine st24.trans ?_
                            show Steps p.tables e below (T24.setTop (mkF m 33 #[.val (.int p1), .val (.int ((p1 &&& (2147483647 : Int32)) % (14 : Int32))), .val (.ref w_REPORT_NAME), .val (.int (1 : Int32))] [(.int (1 : Int32))])) _
                            refine XS.iloadN X24.here hx rfl (hb hby at_33) rfl ?_
                            show Steps p.tables e below (T24.setTop (mkF m 34 #[.val (.int p1), .val (.int ((p1 &&& (2147483647 : Int32)) % (14 : Int32))), .val (.ref w_REPORT_NAME), .val (.int (1 : Int32))] [(.int (1 : Int32)), (.int (1 : Int32))])) _
                            refine XS.icmpNo X24.here hx rfl (hb hby at_34) rfl (teq (by decide : (1 : Int32) = (1 : Int32))).2 ?_
                            show Steps p.tables e below (T24.setTop (mkF m 37 #[.val (.int p1), .val (.int ((p1 &&& (2147483647 : Int32)) % (14 : Int32))), .val (.ref w_REPORT_NAME), .val (.int (1 : Int32))] [])) _
                            refine XS.iconst X24.here hx rfl (hb hby at_37) ?_
                            show Steps p.tables e below (T24.setTop (mkF m 38 #[.val (.int p1), .val (.int ((p1 &&& (2147483647 : Int32)) % (14 : Int32))), .val (.ref w_REPORT_NAME), .val (.int (1 : Int32))] [(.int (1 : Int32))])) _
                            refine XS.goto X24.here hx rfl (pc0 := 38) (pc' := 42) rfl (hb hby at_38) (by decide) (by decide) ?_
                            show Steps p.tables e below (T24.setTop (mkF m 42 #[.val (.int p1), .val (.int ((p1 &&& (2147483647 : Int32)) % (14 : Int32))), .val (.ref w_REPORT_NAME), .val (.int (1 : Int32))] [(.int (1 : Int32))])) _
                            exact retN X24 hx (t := .boolean) Bd.returns (by simp) (hb hby at_42) hr
                          · show Q_rm0 Z p1 w_TEXT w_OPTIONAL_TEXT w_VALUE w_REFERENCE w_LINK w_TIME w_OPTIONAL_TIME w_ARRAY w_OPTIONAL_ARRAY w_OBJECT w_BIRTH w_REPORT_NAME w_RESULT_TYPE w_VALUE_MOMENT h0 n0 _ T24.heap _
                            exact ⟨rfl, N24⟩
                        · by_cases hc13 : ((p1 &&& (2147483647 : Int32)) % (14 : Int32)) = (12 : Int32)
                          · obtain ⟨_, _, ⟨T25, L25, k25, n25⟩, -, X25, ⟨Lc25, hQ25, l25, y25, z25⟩, st25⟩ := Jvm.LawKit.callS X0 hx (y := (⟨"com/example/indberet/indberet/KindKeepsTextPinLaw", "kind", "(I)Lcom/example/indberet/indberet/Lpr3Class$Kind;"⟩ : MethodName)) hown (mvT hZ (hw _ (List.mem_of_getElem? (i := 1) rfl))) (mvT hZ (hw _ (List.mem_of_getElem? (i := 2) rfl))) (mvT hZ (hw _ (List.mem_of_getElem? (i := 3) rfl))) (mvT hZ (hw _ (List.mem_of_getElem? (i := 4) rfl))) (by decide) (backOf (W := 0) (rm_pk12 l Z a0 hw [] ((p1 &&& (2147483647 : Int32)) % (14 : Int32)) w_RESULT_TYPE h0 n0 Z0 pr12 pr14 hc1 hc2 hc3 hc4 hc5 hc6 hc7 hc8 hc9 hc10 hc11 hc12 hc13) hZ (hw _ (List.mem_of_getElem? (i := 4) rfl)) (hw _ (List.mem_of_getElem? (i := 3) rfl)) (by decide) (by decide)) (g := (mkF m 9 #[.val (.int p1), .val (.int ((p1 &&& (2147483647 : Int32)) % (14 : Int32))), .unset, .unset] [(.int ((p1 &&& (2147483647 : Int32)) % (14 : Int32)))])) rfl (by rw [hml]; rfl) (argsL := [(.int ((p1 &&& (2147483647 : Int32)) % (14 : Int32)))]) (rest := []) (lenOf pd__40I_41Lcom_47example_47indberet_47indberet_47Lpr3Class_36Kind_59 rfl) rfl (by show 2 * 0 + _ ≤ _; exact Nat.le_of_eq rfl) (hb hby at_9) (fun _ _ => ⟨rfl, e0, (by decide : 0 + 0 ≤ _), (by decide : 0 + 0 ≤ _)⟩)
                            dsimp only [Pt.U, Pt.locs, Pt.cells, Pt.slots] at X25 l25 y25 z25 st25 hQ25
                            subst l25 y25 z25
                            obtain ⟨rfl, Nq25, e25⟩ := hQ25
                            have N25 := Fr.app N0 Nq25
                            obtain ⟨cq26, kq26, q26a, q26b, q26c⟩ := isOf hZ e25 pr27
                            obtain ⟨_, _, ⟨T26, L26, k26, n26⟩, -, X26, ⟨Lc26, hQ26, l26, y26, z26⟩, st26⟩ := X25.virtualBack hx (y := (⟨"com/example/indberet/indberet/Lpr3Class$Kind", "keepsText", "()Z"⟩ : MethodName)) (z := (⟨"com/example/indberet/indberet/Lpr3Class$Kind", "keepsText", "()Z"⟩ : MethodName)) hown (mvT hZ (hw _ (List.mem_of_getElem? (i := 8) rfl))) (mvT hZ (hw _ (List.mem_of_getElem? (i := 9) rfl))) (notFace_of_selects (args := #[]) (mvT hZ (hw _ (List.mem_of_getElem? (i := 11) rfl)))) (mvT hZ (hw _ (List.mem_of_getElem? (i := 11) rfl))) (mvT hZ (hw _ (List.mem_of_getElem? (i := 10) rfl))) (by decide) (backOf (W := 0) (rm_tn l Z a0 hw [] w_RESULT_TYPE w_VALUE w_REFERENCE w_LINK w_REPORT_NAME h0 n0 Z0 pr2 pr3 pr4 pr11 pr14 pr67 pr68 pr69 pr70) hZ (hw _ (List.mem_of_getElem? (i := 12) rfl)) (hw _ (List.mem_of_getElem? (i := 6) rfl)) (by decide) (by decide)) q26a q26c (g := (mkF m 30 #[.val (.int p1), .val (.int ((p1 &&& (2147483647 : Int32)) % (14 : Int32))), .val (.ref w_RESULT_TYPE), .val (.int (0 : Int32))] [(.ref w_RESULT_TYPE)])) rfl (by rw [hml]; rfl) (Steps.refl _) (argsL := []) (rest := []) (lenOf pd__40_41Z rfl) rfl (by show 2 * 0 + _ ≤ _; exact Nat.le_of_eq rfl) (hb hby at_30) (fun _ _ => ⟨rfl, e25, (by decide : 0 + 0 ≤ _), (by decide : 0 + 0 ≤ _)⟩)
                            dsimp only [Pt.U, Pt.locs, Pt.cells, Pt.slots] at X26 l26 y26 z26 st26 hQ26
                            subst l26 y26 z26
                            obtain ⟨rfl, Nq26, e26⟩ := hQ26
                            have N26 := Fr.app N25 Nq26
                            obtain ⟨fs, hr, hrun, hended, hW, hsame⟩ := X26.leave (v := some (.int (1 : Int32))) (fun h => by rw [Bd.returns] at h; cases h)
                            refine ⟨_, _, pre0 _ ?_, hrun, hended, _, _, rfl, ?_, ⟨_, rfl⟩, hW, hsame.mono (by decide) (by decide)⟩
                            · show Steps p.tables e below (s₁.setTop (mkF m 0 #[.val (.int p1), .unset, .unset, .unset] [])) _
                              refine XS.iloadN X0.here hx rfl (hb hby at_0) rfl ?_
                              show Steps p.tables e below (s₁.setTop (mkF m 1 #[.val (.int p1), .unset, .unset, .unset] [(.int p1)])) _
                              refine X0.ldcInt hx hown (mvT hZ (hw _ (List.mem_of_getElem? (i := 0) rfl))) (g := (mkF m 1 #[.val (.int p1), .unset, .unset, .unset] [(.int p1)])) rfl (hb hby at_1) _ ?_
                              show Steps p.tables e below (s₁.setTop (mkF m 3 #[.val (.int p1), .unset, .unset, .unset] [(.int (2147483647 : Int32)), (.int p1)])) _
                              refine XS.iand X0.here hx rfl (hb hby at_3) rfl ?_
                              show Steps p.tables e below (s₁.setTop (mkF m 4 #[.val (.int p1), .unset, .unset, .unset] [(.int (p1 &&& (2147483647 : Int32)))])) _
                              refine XS.bipush X0.here hx rfl (hb hby at_4) ?_
                              show Steps p.tables e below (s₁.setTop (mkF m 6 #[.val (.int p1), .unset, .unset, .unset] [(.int (14 : Int32)), (.int (p1 &&& (2147483647 : Int32)))])) _
                              refine iremM X0 hx rfl (hb hby at_6) rfl (by decide : ¬ ((14 : Int32) = (0 : Int32))) ?_
                              show Steps p.tables e below (s₁.setTop (mkF m 7 #[.val (.int p1), .unset, .unset, .unset] [(.int ((p1 &&& (2147483647 : Int32)) % (14 : Int32)))])) _
                              refine XS.istoreN X0.here hx rfl (hb hby at_7) rfl (l' := #[.val (.int p1), .val (.int ((p1 &&& (2147483647 : Int32)) % (14 : Int32))), .unset, .unset]) rfl ?_
                              show Steps p.tables e below (s₁.setTop (mkF m 8 #[.val (.int p1), .val (.int ((p1 &&& (2147483647 : Int32)) % (14 : Int32))), .unset, .unset] [])) _
                              refine XS.iloadN X0.here hx rfl (hb hby at_8) rfl ?_
                              show Steps p.tables e below (s₁.setTop (mkF m 9 #[.val (.int p1), .val (.int ((p1 &&& (2147483647 : Int32)) % (14 : Int32))), .unset, .unset] [(.int ((p1 &&& (2147483647 : Int32)) % (14 : Int32)))])) _
                              refine st25 _ ?_
                              show Steps p.tables e below (T25.setTop (mkF m 12 #[.val (.int p1), .val (.int ((p1 &&& (2147483647 : Int32)) % (14 : Int32))), .unset, .unset] [(.ref w_RESULT_TYPE)])) _
                              refine XS.astoreN X25.here hx rfl (hb hby at_12) rfl rfl (l' := #[.val (.int p1), .val (.int ((p1 &&& (2147483647 : Int32)) % (14 : Int32))), .val (.ref w_RESULT_TYPE), .unset]) rfl ?_
                              show Steps p.tables e below (T25.setTop (mkF m 13 #[.val (.int p1), .val (.int ((p1 &&& (2147483647 : Int32)) % (14 : Int32))), .val (.ref w_RESULT_TYPE), .unset] [])) _
                              refine XS.sipush X25.here hx rfl (hb hby at_13) ?_
                              show Steps p.tables e below (T25.setTop (mkF m 16 #[.val (.int p1), .val (.int ((p1 &&& (2147483647 : Int32)) % (14 : Int32))), .val (.ref w_RESULT_TYPE), .unset] [(.int (2076 : Int32))])) _
                              refine XS.iloadN X25.here hx rfl (hb hby at_16) rfl ?_
                              show Steps p.tables e below (T25.setTop (mkF m 17 #[.val (.int p1), .val (.int ((p1 &&& (2147483647 : Int32)) % (14 : Int32))), .val (.ref w_RESULT_TYPE), .unset] [(.int ((p1 &&& (2147483647 : Int32)) % (14 : Int32))), (.int (2076 : Int32))])) _
                              refine XS.iushr X25.here hx rfl (hb hby at_17) rfl ?_
                              show Steps p.tables e below (T25.setTop (mkF m 18 #[.val (.int p1), .val (.int ((p1 &&& (2147483647 : Int32)) % (14 : Int32))), .val (.ref w_RESULT_TYPE), .unset] [(.int (((2076 : Int32).toUInt32 >>> (((p1 &&& (2147483647 : Int32)) % (14 : Int32)) &&& 31).toUInt32).toInt32))])) _
                              refine XS.iconst X25.here hx rfl (hb hby at_18) ?_
                              show Steps p.tables e below (T25.setTop (mkF m 19 #[.val (.int p1), .val (.int ((p1 &&& (2147483647 : Int32)) % (14 : Int32))), .val (.ref w_RESULT_TYPE), .unset] [(.int (1 : Int32)), (.int (((2076 : Int32).toUInt32 >>> (((p1 &&& (2147483647 : Int32)) % (14 : Int32)) &&& 31).toUInt32).toInt32))])) _
                              refine XS.iand X25.here hx rfl (hb hby at_19) rfl ?_
                              show Steps p.tables e below (T25.setTop (mkF m 20 #[.val (.int p1), .val (.int ((p1 &&& (2147483647 : Int32)) % (14 : Int32))), .val (.ref w_RESULT_TYPE), .unset] [(.int ((((2076 : Int32).toUInt32 >>> (((p1 &&& (2147483647 : Int32)) % (14 : Int32)) &&& 31).toUInt32).toInt32) &&& (1 : Int32)))])) _
                              refine XS.ifYes X25.here hx rfl (pc0 := 20) (pc' := 27) rfl (hb hby at_20) rfl ((if0 _ _).trans (teq (by rw [hc13]; decide : ((((2076 : Int32).toUInt32 >>> (((p1 &&& (2147483647 : Int32)) % (14 : Int32)) &&& 31).toUInt32).toInt32) &&& (1 : Int32)) = (0 : Int32))).1) (by decide) (by decide) ?_
                              show Steps p.tables e below (T25.setTop (mkF m 27 #[.val (.int p1), .val (.int ((p1 &&& (2147483647 : Int32)) % (14 : Int32))), .val (.ref w_RESULT_TYPE), .unset] [])) _
                              refine XS.iconst X25.here hx rfl (hb hby at_27) ?_
                              show Steps p.tables e below (T25.setTop (mkF m 28 #[.val (.int p1), .val (.int ((p1 &&& (2147483647 : Int32)) % (14 : Int32))), .val (.ref w_RESULT_TYPE), .unset] [(.int (0 : Int32))])) _
                              refine XS.istoreN X25.here hx rfl (hb hby at_28) rfl (l' := #[.val (.int p1), .val (.int ((p1 &&& (2147483647 : Int32)) % (14 : Int32))), .val (.ref w_RESULT_TYPE), .val (.int (0 : Int32))]) rfl ?_
                              show Steps p.tables e below (T25.setTop (mkF m 29 #[.val (.int p1), .val (.int ((p1 &&& (2147483647 : Int32)) % (14 : Int32))), .val (.ref w_RESULT_TYPE), .val (.int (0 : Int32))] [])) _
                              refine XS.aloadN X25.here hx rfl (hb hby at_29) rfl rfl ?_
                              show Steps p.tables e below (T25.setTop (mkF m 30 #[.val (.int p1), .val (.int ((p1 &&& (2147483647 : Int32)) % (14 : Int32))), .val (.ref w_RESULT_TYPE), .val (.int (0 : Int32))] [(.ref w_RESULT_TYPE)])) _
                              refine st26.trans ?_
                              show Steps p.tables e below (T26.setTop (mkF m 33 #[.val (.int p1), .val (.int ((p1 &&& (2147483647 : Int32)) % (14 : Int32))), .val (.ref w_RESULT_TYPE), .val (.int (0 : Int32))] [(.int (0 : Int32))])) _
                              refine XS.iloadN X26.here hx rfl (hb hby at_33) rfl ?_
                              show Steps p.tables e below (T26.setTop (mkF m 34 #[.val (.int p1), .val (.int ((p1 &&& (2147483647 : Int32)) % (14 : Int32))), .val (.ref w_RESULT_TYPE), .val (.int (0 : Int32))] [(.int (0 : Int32)), (.int (0 : Int32))])) _
                              refine XS.icmpNo X26.here hx rfl (hb hby at_34) rfl (teq (by decide : (0 : Int32) = (0 : Int32))).2 ?_
                              show Steps p.tables e below (T26.setTop (mkF m 37 #[.val (.int p1), .val (.int ((p1 &&& (2147483647 : Int32)) % (14 : Int32))), .val (.ref w_RESULT_TYPE), .val (.int (0 : Int32))] [])) _
                              refine XS.iconst X26.here hx rfl (hb hby at_37) ?_
                              show Steps p.tables e below (T26.setTop (mkF m 38 #[.val (.int p1), .val (.int ((p1 &&& (2147483647 : Int32)) % (14 : Int32))), .val (.ref w_RESULT_TYPE), .val (.int (0 : Int32))] [(.int (1 : Int32))])) _
                              refine XS.goto X26.here hx rfl (pc0 := 38) (pc' := 42) rfl (hb hby at_38) (by decide) (by decide) ?_
                              show Steps p.tables e below (T26.setTop (mkF m 42 #[.val (.int p1), .val (.int ((p1 &&& (2147483647 : Int32)) % (14 : Int32))), .val (.ref w_RESULT_TYPE), .val (.int (0 : Int32))] [(.int (1 : Int32))])) _
                              exact retN X26 hx (t := .boolean) Bd.returns (by simp) (hb hby at_42) hr
                            · show Q_rm0 Z p1 w_TEXT w_OPTIONAL_TEXT w_VALUE w_REFERENCE w_LINK w_TIME w_OPTIONAL_TIME w_ARRAY w_OPTIONAL_ARRAY w_OBJECT w_BIRTH w_REPORT_NAME w_RESULT_TYPE w_VALUE_MOMENT h0 n0 _ T26.heap _
                              exact ⟨rfl, N26⟩
                          · obtain ⟨_, _, ⟨T27, L27, k27, n27⟩, -, X27, ⟨Lc27, hQ27, l27, y27, z27⟩, st27⟩ := Jvm.LawKit.callS X0 hx (y := (⟨"com/example/indberet/indberet/KindKeepsTextPinLaw", "kind", "(I)Lcom/example/indberet/indberet/Lpr3Class$Kind;"⟩ : MethodName)) hown (mvT hZ (hw _ (List.mem_of_getElem? (i := 1) rfl))) (mvT hZ (hw _ (List.mem_of_getElem? (i := 2) rfl))) (mvT hZ (hw _ (List.mem_of_getElem? (i := 3) rfl))) (mvT hZ (hw _ (List.mem_of_getElem? (i := 4) rfl))) (by decide) (backOf (W := 0) (rm_pk13 l Z a0 hw [] ((p1 &&& (2147483647 : Int32)) % (14 : Int32)) w_VALUE_MOMENT h0 n0 Z0 pr13 pr14 hc1 hc2 hc3 hc4 hc5 hc6 hc7 hc8 hc9 hc10 hc11 hc12 hc13) hZ (hw _ (List.mem_of_getElem? (i := 4) rfl)) (hw _ (List.mem_of_getElem? (i := 3) rfl)) (by decide) (by decide)) (g := (mkF m 9 #[.val (.int p1), .val (.int ((p1 &&& (2147483647 : Int32)) % (14 : Int32))), .unset, .unset] [(.int ((p1 &&& (2147483647 : Int32)) % (14 : Int32)))])) rfl (by rw [hml]; rfl) (argsL := [(.int ((p1 &&& (2147483647 : Int32)) % (14 : Int32)))]) (rest := []) (lenOf pd__40I_41Lcom_47example_47indberet_47indberet_47Lpr3Class_36Kind_59 rfl) rfl (by show 2 * 0 + _ ≤ _; exact Nat.le_of_eq rfl) (hb hby at_9) (fun _ _ => ⟨rfl, e0, (by decide : 0 + 0 ≤ _), (by decide : 0 + 0 ≤ _)⟩)
                            dsimp only [Pt.U, Pt.locs, Pt.cells, Pt.slots] at X27 l27 y27 z27 st27 hQ27
                            subst l27 y27 z27
                            obtain ⟨rfl, Nq27, e27⟩ := hQ27
                            have N27 := Fr.app N0 Nq27
                            have hk13 : ((p1 &&& (2147483647 : Int32)) % (14 : Int32)) = (13 : Int32) := own_13 hc1 hc2 hc3 hc4 hc5 hc6 hc7 hc8 hc9 hc10 hc11 hc12 hc13
                            obtain ⟨cq28, kq28, q28a, q28b, q28c⟩ := isOf hZ e27 pr28
                            obtain ⟨_, _, ⟨T28, L28, k28, n28⟩, -, X28, ⟨Lc28, hQ28, l28, y28, z28⟩, st28⟩ := X27.virtualBack hx (y := (⟨"com/example/indberet/indberet/Lpr3Class$Kind", "keepsText", "()Z"⟩ : MethodName)) (z := (⟨"com/example/indberet/indberet/Lpr3Class$Kind", "keepsText", "()Z"⟩ : MethodName)) hown (mvT hZ (hw _ (List.mem_of_getElem? (i := 8) rfl))) (mvT hZ (hw _ (List.mem_of_getElem? (i := 9) rfl))) (notFace_of_selects (args := #[]) (mvT hZ (hw _ (List.mem_of_getElem? (i := 11) rfl)))) (mvT hZ (hw _ (List.mem_of_getElem? (i := 11) rfl))) (mvT hZ (hw _ (List.mem_of_getElem? (i := 10) rfl))) (by decide) (backOf (W := 0) (rm_tn l Z a0 hw [] w_VALUE_MOMENT w_VALUE w_REFERENCE w_LINK w_REPORT_NAME h0 n0 Z0 pr2 pr3 pr4 pr11 pr14 pr71 pr72 pr73 pr74) hZ (hw _ (List.mem_of_getElem? (i := 12) rfl)) (hw _ (List.mem_of_getElem? (i := 6) rfl)) (by decide) (by decide)) q28a q28c (g := (mkF m 30 #[.val (.int p1), .val (.int ((p1 &&& (2147483647 : Int32)) % (14 : Int32))), .val (.ref w_VALUE_MOMENT), .val (.int (0 : Int32))] [(.ref w_VALUE_MOMENT)])) rfl (by rw [hml]; rfl) (Steps.refl _) (argsL := []) (rest := []) (lenOf pd__40_41Z rfl) rfl (by show 2 * 0 + _ ≤ _; exact Nat.le_of_eq rfl) (hb hby at_30) (fun _ _ => ⟨rfl, e27, (by decide : 0 + 0 ≤ _), (by decide : 0 + 0 ≤ _)⟩)
                            dsimp only [Pt.U, Pt.locs, Pt.cells, Pt.slots] at X28 l28 y28 z28 st28 hQ28
                            subst l28 y28 z28
                            obtain ⟨rfl, Nq28, e28⟩ := hQ28
                            have N28 := Fr.app N27 Nq28
                            obtain ⟨fs, hr, hrun, hended, hW, hsame⟩ := X28.leave (v := some (.int (1 : Int32))) (fun h => by rw [Bd.returns] at h; cases h)
                            refine ⟨_, _, pre0 _ ?_, hrun, hended, _, _, rfl, ?_, ⟨_, rfl⟩, hW, hsame.mono (by decide) (by decide)⟩
                            · show Steps p.tables e below (s₁.setTop (mkF m 0 #[.val (.int p1), .unset, .unset, .unset] [])) _
                              refine XS.iloadN X0.here hx rfl (hb hby at_0) rfl ?_
                              show Steps p.tables e below (s₁.setTop (mkF m 1 #[.val (.int p1), .unset, .unset, .unset] [(.int p1)])) _
                              refine X0.ldcInt hx hown (mvT hZ (hw _ (List.mem_of_getElem? (i := 0) rfl))) (g := (mkF m 1 #[.val (.int p1), .unset, .unset, .unset] [(.int p1)])) rfl (hb hby at_1) _ ?_
                              show Steps p.tables e below (s₁.setTop (mkF m 3 #[.val (.int p1), .unset, .unset, .unset] [(.int (2147483647 : Int32)), (.int p1)])) _
                              refine XS.iand X0.here hx rfl (hb hby at_3) rfl ?_
                              show Steps p.tables e below (s₁.setTop (mkF m 4 #[.val (.int p1), .unset, .unset, .unset] [(.int (p1 &&& (2147483647 : Int32)))])) _
                              refine XS.bipush X0.here hx rfl (hb hby at_4) ?_
                              show Steps p.tables e below (s₁.setTop (mkF m 6 #[.val (.int p1), .unset, .unset, .unset] [(.int (14 : Int32)), (.int (p1 &&& (2147483647 : Int32)))])) _
                              refine iremM X0 hx rfl (hb hby at_6) rfl (by decide : ¬ ((14 : Int32) = (0 : Int32))) ?_
                              show Steps p.tables e below (s₁.setTop (mkF m 7 #[.val (.int p1), .unset, .unset, .unset] [(.int ((p1 &&& (2147483647 : Int32)) % (14 : Int32)))])) _
                              refine XS.istoreN X0.here hx rfl (hb hby at_7) rfl (l' := #[.val (.int p1), .val (.int ((p1 &&& (2147483647 : Int32)) % (14 : Int32))), .unset, .unset]) rfl ?_
                              show Steps p.tables e below (s₁.setTop (mkF m 8 #[.val (.int p1), .val (.int ((p1 &&& (2147483647 : Int32)) % (14 : Int32))), .unset, .unset] [])) _
                              refine XS.iloadN X0.here hx rfl (hb hby at_8) rfl ?_
                              show Steps p.tables e below (s₁.setTop (mkF m 9 #[.val (.int p1), .val (.int ((p1 &&& (2147483647 : Int32)) % (14 : Int32))), .unset, .unset] [(.int ((p1 &&& (2147483647 : Int32)) % (14 : Int32)))])) _
                              refine st27 _ ?_
                              show Steps p.tables e below (T27.setTop (mkF m 12 #[.val (.int p1), .val (.int ((p1 &&& (2147483647 : Int32)) % (14 : Int32))), .unset, .unset] [(.ref w_VALUE_MOMENT)])) _
                              refine XS.astoreN X27.here hx rfl (hb hby at_12) rfl rfl (l' := #[.val (.int p1), .val (.int ((p1 &&& (2147483647 : Int32)) % (14 : Int32))), .val (.ref w_VALUE_MOMENT), .unset]) rfl ?_
                              show Steps p.tables e below (T27.setTop (mkF m 13 #[.val (.int p1), .val (.int ((p1 &&& (2147483647 : Int32)) % (14 : Int32))), .val (.ref w_VALUE_MOMENT), .unset] [])) _
                              refine XS.sipush X27.here hx rfl (hb hby at_13) ?_
                              show Steps p.tables e below (T27.setTop (mkF m 16 #[.val (.int p1), .val (.int ((p1 &&& (2147483647 : Int32)) % (14 : Int32))), .val (.ref w_VALUE_MOMENT), .unset] [(.int (2076 : Int32))])) _
                              refine XS.iloadN X27.here hx rfl (hb hby at_16) rfl ?_
                              show Steps p.tables e below (T27.setTop (mkF m 17 #[.val (.int p1), .val (.int ((p1 &&& (2147483647 : Int32)) % (14 : Int32))), .val (.ref w_VALUE_MOMENT), .unset] [(.int ((p1 &&& (2147483647 : Int32)) % (14 : Int32))), (.int (2076 : Int32))])) _
                              refine XS.iushr X27.here hx rfl (hb hby at_17) rfl ?_
                              show Steps p.tables e below (T27.setTop (mkF m 18 #[.val (.int p1), .val (.int ((p1 &&& (2147483647 : Int32)) % (14 : Int32))), .val (.ref w_VALUE_MOMENT), .unset] [(.int (((2076 : Int32).toUInt32 >>> (((p1 &&& (2147483647 : Int32)) % (14 : Int32)) &&& 31).toUInt32).toInt32))])) _
                              refine XS.iconst X27.here hx rfl (hb hby at_18) ?_
                              show Steps p.tables e below (T27.setTop (mkF m 19 #[.val (.int p1), .val (.int ((p1 &&& (2147483647 : Int32)) % (14 : Int32))), .val (.ref w_VALUE_MOMENT), .unset] [(.int (1 : Int32)), (.int (((2076 : Int32).toUInt32 >>> (((p1 &&& (2147483647 : Int32)) % (14 : Int32)) &&& 31).toUInt32).toInt32))])) _
                              refine XS.iand X27.here hx rfl (hb hby at_19) rfl ?_
                              show Steps p.tables e below (T27.setTop (mkF m 20 #[.val (.int p1), .val (.int ((p1 &&& (2147483647 : Int32)) % (14 : Int32))), .val (.ref w_VALUE_MOMENT), .unset] [(.int ((((2076 : Int32).toUInt32 >>> (((p1 &&& (2147483647 : Int32)) % (14 : Int32)) &&& 31).toUInt32).toInt32) &&& (1 : Int32)))])) _
                              refine XS.ifYes X27.here hx rfl (pc0 := 20) (pc' := 27) rfl (hb hby at_20) rfl ((if0 _ _).trans (teq (by rw [hk13]; decide : ((((2076 : Int32).toUInt32 >>> (((p1 &&& (2147483647 : Int32)) % (14 : Int32)) &&& 31).toUInt32).toInt32) &&& (1 : Int32)) = (0 : Int32))).1) (by decide) (by decide) ?_
                              show Steps p.tables e below (T27.setTop (mkF m 27 #[.val (.int p1), .val (.int ((p1 &&& (2147483647 : Int32)) % (14 : Int32))), .val (.ref w_VALUE_MOMENT), .unset] [])) _
                              refine XS.iconst X27.here hx rfl (hb hby at_27) ?_
                              show Steps p.tables e below (T27.setTop (mkF m 28 #[.val (.int p1), .val (.int ((p1 &&& (2147483647 : Int32)) % (14 : Int32))), .val (.ref w_VALUE_MOMENT), .unset] [(.int (0 : Int32))])) _
                              refine XS.istoreN X27.here hx rfl (hb hby at_28) rfl (l' := #[.val (.int p1), .val (.int ((p1 &&& (2147483647 : Int32)) % (14 : Int32))), .val (.ref w_VALUE_MOMENT), .val (.int (0 : Int32))]) rfl ?_
                              show Steps p.tables e below (T27.setTop (mkF m 29 #[.val (.int p1), .val (.int ((p1 &&& (2147483647 : Int32)) % (14 : Int32))), .val (.ref w_VALUE_MOMENT), .val (.int (0 : Int32))] [])) _
                              refine XS.aloadN X27.here hx rfl (hb hby at_29) rfl rfl ?_
                              show Steps p.tables e below (T27.setTop (mkF m 30 #[.val (.int p1), .val (.int ((p1 &&& (2147483647 : Int32)) % (14 : Int32))), .val (.ref w_VALUE_MOMENT), .val (.int (0 : Int32))] [(.ref w_VALUE_MOMENT)])) _
                              refine st28.trans ?_
                              show Steps p.tables e below (T28.setTop (mkF m 33 #[.val (.int p1), .val (.int ((p1 &&& (2147483647 : Int32)) % (14 : Int32))), .val (.ref w_VALUE_MOMENT), .val (.int (0 : Int32))] [(.int (0 : Int32))])) _
                              refine XS.iloadN X28.here hx rfl (hb hby at_33) rfl ?_
                              show Steps p.tables e below (T28.setTop (mkF m 34 #[.val (.int p1), .val (.int ((p1 &&& (2147483647 : Int32)) % (14 : Int32))), .val (.ref w_VALUE_MOMENT), .val (.int (0 : Int32))] [(.int (0 : Int32)), (.int (0 : Int32))])) _
                              refine XS.icmpNo X28.here hx rfl (hb hby at_34) rfl (teq (by decide : (0 : Int32) = (0 : Int32))).2 ?_
                              show Steps p.tables e below (T28.setTop (mkF m 37 #[.val (.int p1), .val (.int ((p1 &&& (2147483647 : Int32)) % (14 : Int32))), .val (.ref w_VALUE_MOMENT), .val (.int (0 : Int32))] [])) _
                              refine XS.iconst X28.here hx rfl (hb hby at_37) ?_
                              show Steps p.tables e below (T28.setTop (mkF m 38 #[.val (.int p1), .val (.int ((p1 &&& (2147483647 : Int32)) % (14 : Int32))), .val (.ref w_VALUE_MOMENT), .val (.int (0 : Int32))] [(.int (1 : Int32))])) _
                              refine XS.goto X28.here hx rfl (pc0 := 38) (pc' := 42) rfl (hb hby at_38) (by decide) (by decide) ?_
                              show Steps p.tables e below (T28.setTop (mkF m 42 #[.val (.int p1), .val (.int ((p1 &&& (2147483647 : Int32)) % (14 : Int32))), .val (.ref w_VALUE_MOMENT), .val (.int (0 : Int32))] [(.int (1 : Int32))])) _
                              exact retN X28 hx (t := .boolean) Bd.returns (by simp) (hb hby at_42) hr
                            · show Q_rm0 Z p1 w_TEXT w_OPTIONAL_TEXT w_VALUE w_REFERENCE w_LINK w_TIME w_OPTIONAL_TIME w_ARRAY w_OPTIONAL_ARRAY w_OBJECT w_BIRTH w_REPORT_NAME w_RESULT_TYPE w_VALUE_MOMENT h0 n0 _ T28.heap _
                              exact ⟨rfl, N28⟩
set_option maxRecDepth 65536 in
set_option maxHeartbeats 40000000 in
theorem comes_1 {Post : Tables → Env → Array Value → State → Outcome → State → Prop} (hpost : ∀ tb e args s v u, (limb_1_1.after args s (.returned v) u = true ∧ limb_1_2.after args s (.returned v) u = true ∧ True) → FrameEnd s (.returned v) u (Jvm.fieldLocs frame_1_writes args s ++ Jvm.arrayLocs frame_1_arrays args s ++ Jvm.staticLocs frame_1_statics s) 0 0 → Post tb e args s (.returned v) u) :
    ArmFor flags0 classFile x code maxLocals ret World_1 tables_1 room_1 Calls_1 rest_1 Pre_1 Post := by
  intro l hfl _ _ p e ha hc hk s m args below hf hA hF happ hP
  obtain ⟨hcalls, hrest, hpre⟩ := hP
  obtain ⟨-, -, -, hnamed, -, -, -, hat⟩ := (Spec.applies_iff hf).mp happ
  obtain ⟨hg, hn⟩ := and_e (Cond.before_iff.mp (show (Jvm.Cond.and given_1 narrow_1).before args s = true from hpre))
  obtain ⟨gg1, gg2⟩ := and_e hg
  obtain ⟨w0, rfl⟩ : ∃ w0 : Value, args = #[w0] := by
    have hs : args.size = 1 := by simpa [Cond.value, given_1] using gg1
    obtain ⟨L⟩ := args
    match L, hs with
    | [w0], _ => exact ⟨w0, rfl⟩
  have hw := fun d (hd : d ∈ tables_1) => atoms_spec (ws := Jvm.Cond.code x code maxLocals ret :: tables_1) hat d (List.mem_cons_of_mem _ hd)
  have hfit : Fit s := fun {y c} hc i hi => by
    obtain ⟨ha, rfl⟩ := Array.getElem?_eq_some_iff.mp hc
    have q := List.all_eq_true.mp ((Array.all_eq_true_iff_forall_mem.mp hF) _ (Array.getElem_mem ha)) i (List.mem_range.mpr hi)
    simpa [Array.getElem?_eq_getElem hi] using q
  obtain ⟨i0, ei0⟩ := is_v gg2
  obtain rfl : w0 = (.int i0) := Option.some.inj ei0
  obtain ⟨nn1, nn2⟩ := and_e hn
  obtain ⟨nn3, nn4⟩ := and_e nn2
  obtain ⟨nn5, nn6⟩ := and_e nn4
  obtain ⟨nn7, nn8⟩ := and_e nn6
  obtain ⟨nn9, nn10⟩ := and_e nn8
  obtain ⟨nn11, nn12⟩ := and_e nn10
  obtain ⟨nn13, nn14⟩ := and_e nn12
  obtain ⟨nn15, nn16⟩ := and_e nn14
  obtain ⟨nn17, nn18⟩ := and_e nn16
  obtain ⟨nn19, nn20⟩ := and_e nn18
  obtain ⟨nn21, nn22⟩ := and_e nn20
  obtain ⟨nn23, nn24⟩ := and_e nn22
  obtain ⟨nn25, nn26⟩ := and_e nn24
  obtain ⟨nn27, nn28⟩ := and_e nn26
  obtain ⟨nn29, nn30⟩ := and_e nn28
  obtain ⟨nn31, nn32⟩ := and_e nn30
  obtain ⟨nn33, nn34⟩ := and_e nn32
  obtain ⟨nn35, nn36⟩ := and_e nn34
  obtain ⟨nn37, nn38⟩ := and_e nn36
  obtain ⟨nn39, nn40⟩ := and_e nn38
  obtain ⟨nn41, nn42⟩ := and_e nn40
  obtain ⟨nn43, nn44⟩ := and_e nn42
  obtain ⟨nn45, nn46⟩ := and_e nn44
  obtain ⟨nn47, nn48⟩ := and_e nn46
  obtain ⟨nn49, nn50⟩ := and_e nn48
  obtain ⟨nn51, nn52⟩ := and_e nn50
  obtain ⟨nn53, nn54⟩ := and_e nn52
  obtain ⟨w_TEXT, ev_TEXT⟩ := exa_v nn1
  have S_TEXT := Sta.start ev_TEXT (Or.inr ⟨(hw _ (List.mem_of_getElem? (i := 6) rfl)), (hw _ (List.mem_of_getElem? (i := 7) rfl))⟩)
  have E_TEXT := Exa.start ev_TEXT nn1
  obtain ⟨w_VALUE, ev_VALUE⟩ := exa_v nn3
  have S_VALUE := Sta.start ev_VALUE (Or.inr ⟨(hw _ (List.mem_of_getElem? (i := 6) rfl)), (hw _ (List.mem_of_getElem? (i := 14) rfl))⟩)
  have E_VALUE := Exa.start ev_VALUE nn3
  obtain ⟨w_REFERENCE, ev_REFERENCE⟩ := exa_v nn9
  have S_REFERENCE := Sta.start ev_REFERENCE (Or.inr ⟨(hw _ (List.mem_of_getElem? (i := 6) rfl)), (hw _ (List.mem_of_getElem? (i := 16) rfl))⟩)
  have E_REFERENCE := Exa.start ev_REFERENCE nn9
  obtain ⟨w_LINK, ev_LINK⟩ := exa_v nn13
  have S_LINK := Sta.start ev_LINK (Or.inr ⟨(hw _ (List.mem_of_getElem? (i := 6) rfl)), (hw _ (List.mem_of_getElem? (i := 18) rfl))⟩)
  have E_LINK := Exa.start ev_LINK nn13
  obtain ⟨w_REPORT_NAME, ev_REPORT_NAME⟩ := exa_v nn17
  have S_REPORT_NAME := Sta.start ev_REPORT_NAME (Or.inr ⟨(hw _ (List.mem_of_getElem? (i := 6) rfl)), (hw _ (List.mem_of_getElem? (i := 20) rfl))⟩)
  have E_REPORT_NAME := Exa.start ev_REPORT_NAME nn17
  obtain ⟨w_RESULT_TYPE, ev_RESULT_TYPE⟩ := exa_v nn21
  have S_RESULT_TYPE := Sta.start ev_RESULT_TYPE (Or.inr ⟨(hw _ (List.mem_of_getElem? (i := 6) rfl)), (hw _ (List.mem_of_getElem? (i := 23) rfl))⟩)
  have E_RESULT_TYPE := Exa.start ev_RESULT_TYPE nn21
  obtain ⟨w_VALUE_MOMENT, ev_VALUE_MOMENT⟩ := exa_v nn25
  have S_VALUE_MOMENT := Sta.start ev_VALUE_MOMENT (Or.inr ⟨(hw _ (List.mem_of_getElem? (i := 6) rfl)), (hw _ (List.mem_of_getElem? (i := 25) rfl))⟩)
  have E_VALUE_MOMENT := Exa.start ev_VALUE_MOMENT nn25
  obtain ⟨w_ARRAY, ev_ARRAY⟩ := exa_v nn29
  have S_ARRAY := Sta.start ev_ARRAY (Or.inr ⟨(hw _ (List.mem_of_getElem? (i := 6) rfl)), (hw _ (List.mem_of_getElem? (i := 28) rfl))⟩)
  have E_ARRAY := Exa.start ev_ARRAY nn29
  obtain ⟨w_BIRTH, ev_BIRTH⟩ := exa_v nn33
  have S_BIRTH := Sta.start ev_BIRTH (Or.inr ⟨(hw _ (List.mem_of_getElem? (i := 6) rfl)), (hw _ (List.mem_of_getElem? (i := 32) rfl))⟩)
  have E_BIRTH := Exa.start ev_BIRTH nn33
  obtain ⟨w_OPTIONAL_ARRAY, ev_OPTIONAL_ARRAY⟩ := exa_v nn37
  have S_OPTIONAL_ARRAY := Sta.start ev_OPTIONAL_ARRAY (Or.inr ⟨(hw _ (List.mem_of_getElem? (i := 6) rfl)), (hw _ (List.mem_of_getElem? (i := 34) rfl))⟩)
  have E_OPTIONAL_ARRAY := Exa.start ev_OPTIONAL_ARRAY nn37
  obtain ⟨w_OPTIONAL_TEXT, ev_OPTIONAL_TEXT⟩ := exa_v nn41
  have S_OPTIONAL_TEXT := Sta.start ev_OPTIONAL_TEXT (Or.inr ⟨(hw _ (List.mem_of_getElem? (i := 6) rfl)), (hw _ (List.mem_of_getElem? (i := 36) rfl))⟩)
  have E_OPTIONAL_TEXT := Exa.start ev_OPTIONAL_TEXT nn41
  obtain ⟨w_OBJECT, ev_OBJECT⟩ := exa_v nn45
  have S_OBJECT := Sta.start ev_OBJECT (Or.inr ⟨(hw _ (List.mem_of_getElem? (i := 6) rfl)), (hw _ (List.mem_of_getElem? (i := 38) rfl))⟩)
  have E_OBJECT := Exa.start ev_OBJECT nn45
  obtain ⟨w_TIME, ev_TIME⟩ := exa_v nn49
  have S_TIME := Sta.start ev_TIME (Or.inr ⟨(hw _ (List.mem_of_getElem? (i := 6) rfl)), (hw _ (List.mem_of_getElem? (i := 40) rfl))⟩)
  have E_TIME := Exa.start ev_TIME nn49
  obtain ⟨w_OPTIONAL_TIME, ev_OPTIONAL_TIME⟩ := exa_v nn53
  have S_OPTIONAL_TIME := Sta.start ev_OPTIONAL_TIME (Or.inr ⟨(hw _ (List.mem_of_getElem? (i := 6) rfl)), (hw _ (List.mem_of_getElem? (i := 42) rfl))⟩)
  have E_OPTIONAL_TIME := Exa.start ev_OPTIONAL_TIME nn53
  have O_TEXT := own_ord ev_TEXT nn5
  have O_VALUE := own_ord ev_VALUE nn7
  have O_REFERENCE := own_ord ev_REFERENCE nn11
  have O_LINK := own_ord ev_LINK nn15
  have O_REPORT_NAME := own_ord ev_REPORT_NAME nn19
  have O_RESULT_TYPE := own_ord ev_RESULT_TYPE nn23
  have O_VALUE_MOMENT := own_ord ev_VALUE_MOMENT nn27
  have O_ARRAY := own_ord ev_ARRAY nn31
  have O_BIRTH := own_ord ev_BIRTH nn35
  have O_OPTIONAL_ARRAY := own_ord ev_OPTIONAL_ARRAY nn39
  have O_OPTIONAL_TEXT := own_ord ev_OPTIONAL_TEXT nn43
  have O_OBJECT := own_ord ev_OBJECT nn47
  have O_TIME := own_ord ev_TIME nn51
  have O_OPTIONAL_TIME := own_ord ev_OPTIONAL_TIME nn54
  obtain ⟨n, o, h1, h2, h3, _, L, rfl, ⟨rfl, N⟩, hq⟩ := rm0 l s _ hw tables_1 i0 w_TEXT w_OPTIONAL_TEXT w_VALUE w_REFERENCE w_LINK w_TIME w_OPTIONAL_TIME w_ARRAY w_OPTIONAL_ARRAY w_OBJECT w_BIRTH w_REPORT_NAME w_RESULT_TYPE w_VALUE_MOMENT s.heap s.heap.size (Nat.le_refl _) S_TEXT S_OPTIONAL_TEXT S_VALUE S_REFERENCE S_LINK S_TIME S_OPTIONAL_TIME S_ARRAY S_OPTIONAL_ARRAY S_OBJECT S_BIRTH S_REPORT_NAME S_RESULT_TYPE S_VALUE_MOMENT (Old.start s) E_TEXT E_OPTIONAL_TEXT E_VALUE E_REFERENCE E_LINK E_TIME E_OPTIONAL_TIME E_ARRAY E_OPTIONAL_ARRAY E_OBJECT E_BIRTH E_REPORT_NAME E_RESULT_TYPE E_VALUE_MOMENT (own_ne O_TEXT O_VALUE (by decide)) (own_ne O_TEXT O_REFERENCE (by decide)) (own_ne O_TEXT O_LINK (by decide)) (own_ne O_TEXT O_REPORT_NAME (by decide)) (own_ne O_OPTIONAL_TEXT O_VALUE (by decide)) (own_ne O_OPTIONAL_TEXT O_REFERENCE (by decide)) (own_ne O_OPTIONAL_TEXT O_LINK (by decide)) (own_ne O_OPTIONAL_TEXT O_REPORT_NAME (by decide)) (own_ne O_REFERENCE O_VALUE (by decide)) (own_ne O_LINK O_VALUE (by decide)) (own_ne O_LINK O_REFERENCE (by decide)) (own_ne O_TIME O_VALUE (by decide)) (own_ne O_TIME O_REFERENCE (by decide)) (own_ne O_TIME O_LINK (by decide)) (own_ne O_TIME O_REPORT_NAME (by decide)) (own_ne O_OPTIONAL_TIME O_VALUE (by decide)) (own_ne O_OPTIONAL_TIME O_REFERENCE (by decide)) (own_ne O_OPTIONAL_TIME O_LINK (by decide)) (own_ne O_OPTIONAL_TIME O_REPORT_NAME (by decide)) (own_ne O_ARRAY O_VALUE (by decide)) (own_ne O_ARRAY O_REFERENCE (by decide)) (own_ne O_ARRAY O_LINK (by decide)) (own_ne O_ARRAY O_REPORT_NAME (by decide)) (own_ne O_OPTIONAL_ARRAY O_VALUE (by decide)) (own_ne O_OPTIONAL_ARRAY O_REFERENCE (by decide)) (own_ne O_OPTIONAL_ARRAY O_LINK (by decide)) (own_ne O_OPTIONAL_ARRAY O_REPORT_NAME (by decide)) (own_ne O_OBJECT O_VALUE (by decide)) (own_ne O_OBJECT O_REFERENCE (by decide)) (own_ne O_OBJECT O_LINK (by decide)) (own_ne O_OBJECT O_REPORT_NAME (by decide)) (own_ne O_BIRTH O_VALUE (by decide)) (own_ne O_BIRTH O_REFERENCE (by decide)) (own_ne O_BIRTH O_LINK (by decide)) (own_ne O_BIRTH O_REPORT_NAME (by decide)) (own_ne O_REPORT_NAME O_VALUE (by decide)) (own_ne O_REPORT_NAME O_REFERENCE (by decide)) (own_ne O_REPORT_NAME O_LINK (by decide)) (own_ne O_RESULT_TYPE O_VALUE (by decide)) (own_ne O_RESULT_TYPE O_REFERENCE (by decide)) (own_ne O_RESULT_TYPE O_LINK (by decide)) (own_ne O_RESULT_TYPE O_REPORT_NAME (by decide)) (own_ne O_VALUE_MOMENT O_VALUE (by decide)) (own_ne O_VALUE_MOMENT O_REFERENCE (by decide)) (own_ne O_VALUE_MOMENT O_LINK (by decide)) (own_ne O_VALUE_MOMENT O_REPORT_NAME (by decide)) p e ha hc hk s m _ below hf ((Spec.applies_iff_loose hf).mp happ).1 ⟨rfl, State.Warmed39.refl s, rfl⟩ trivial
  refine ⟨n, _, h1, h2, h3, hpost _ _ _ _ _ _ ⟨Cond.after_iff.mpr rfl, Cond.after_iff.mpr (eq_i res_at (Term.int_eval (1)) rfl), trivial⟩ ⟨hq.1, hq.2.1, (hq.2.2.sift fun y hy => Or.inr (N y hy)).mono (by decide) (by decide)⟩⟩
theorem main_1_1 : Claimed_1_1 := comes_1 fun _ _ _ _ _ _ h hF => ⟨h.1, hF⟩
theorem main_1_2 : Claimed_1_2 := comes_1 fun _ _ _ _ _ _ h hF => ⟨h.2.1, hF⟩
end Jvm.Pilot.@@N@@
namespace Jvm.Pilot.@@N@@
open Jvm Jvm.ClassFile Sem Op Lib Jvm.Free Jvm.Stand Jvm.Pilot.@@N@@.Jvm.D
/-! MADE BY PROGRAM (witnessworld.py) out of the Statement's table words and the real class files: 12 classes; the members and pool entries that the words name. The judged class is class 1, her method 1. -/
namespace start1
open Jvm.ClassFile
def u (s : String) : CpInfo := .utf8 (stringToUtf16 s)
/-- a pool by its gaps: so many unusable entries, then the entry; so many at the end -/
def gap : Nat → List CpInfo → List CpInfo
  | 0, r => r
  | n + 1, r => .unusable :: gap n r
def poolList (es : List (Nat × CpInfo)) (last : Nat) : List CpInfo := es.foldr (fun e r => gap e.1 (e.2 :: r)) (gap last [])
def pool (es : List (Nat × CpInfo)) (last : Nat) : Array CpInfo := ⟨poolList es last⟩
def fileOf (pool : Array CpInfo) (this : Nat) (attrs : Array Attribute := #[]) (ms : Array MethodInfo := #[]) (fl : Nat := 33) (sup : Nat := 0) (ifs : Array Nat := #[]) (fds : Array FieldInfo := #[]) : ClassFile where
  minorVersion := 0
  majorVersion := 65
  constantPool := pool
  accessFlags := fl
  thisClass := this
  superClass := sup
  interfaces := ifs
  fields := fds
  methods := ms
  attributes := attrs
def plain (name : String) (sup : Option ClassId) : Class where
  name := name
  kind := .ordinary
  loader := none
  accessFlags := 33
  super := sup
  interfaces := #[]
  cf := none
  fields := #[]
  methods := #[]
  instanceTypes := #[]
  staticTypes := #[]
  resolved := #[]
  callSites := []
  init := .initialized
  statics := none
  mirror := none

def pool0 : Array CpInfo := pool [(5, u "<init>"), (0, u "()V"), (1, .class_ 10), (1, u "java/lang/Object")] 113

def k0m0 : Method := { name := "<init>", desc := "()V", sig := { parameters := [], returnType := none }, accessFlags := 1, code := none }
/-- java/lang/Object -/
def k0 : Class := { plain "java/lang/Object" none with
  accessFlags := 33
  interfaces := #[]
  cf := some (fileOf pool0 8 #[] #[{ accessFlags := 1, nameIndex := 5, descriptorIndex := 6, attributes := #[] }] 33 0 #[] #[])
  fields := #[]
  methods := #[k0m0]
  instanceTypes := #[]
  staticTypes := #[]
  resolved := Array.replicate 124 none
  statics := none }

def pool1 : Array CpInfo := pool [(2, .class_ 4), (1, u "java/lang/Object"), (0, u "<init>"), (0, u "()V"), (0, .integer 2147483647), (0, .methodref 9 10), (0, .class_ 11), (0, .nameAndType 12 13), (0, u "com/example/indberet/indberet/KindKeepsTextPinLaw"), (0, u "kind"), (0, u "(I)Lcom/example/indberet/indberet/Lpr3Class$Kind;"), (0, .methodref 15 16), (0, .class_ 17), (0, .nameAndType 18 19), (0, u "com/example/indberet/indberet/Lpr3Class$Kind"), (0, u "keepsText"), (0, u "()Z"), (0, .fieldref 15 21), (0, .nameAndType 22 23), (0, u "TEXT"), (0, u "Lcom/example/indberet/indberet/Lpr3Class$Kind;"), (0, .fieldref 15 25), (0, .nameAndType 26 23), (0, u "OPTIONAL_TEXT"), (0, .fieldref 15 28), (0, .nameAndType 29 23), (0, u "VALUE"), (0, .fieldref 15 31), (0, .nameAndType 32 23), (0, u "REFERENCE"), (0, .fieldref 15 34), (0, .nameAndType 35 23), (0, u "LINK"), (0, .fieldref 15 37), (0, .nameAndType 38 23), (0, u "TIME"), (0, .fieldref 15 40), (0, .nameAndType 41 23), (0, u "OPTIONAL_TIME"), (0, .fieldref 15 43), (0, .nameAndType 44 23), (0, u "ARRAY"), (0, .fieldref 15 46), (0, .nameAndType 47 23), (0, u "OPTIONAL_ARRAY"), (0, .fieldref 15 49), (0, .nameAndType 50 23), (0, u "OBJECT"), (0, .fieldref 15 52), (0, .nameAndType 53 23), (0, u "BIRTH"), (0, .fieldref 15 55), (0, .nameAndType 56 23), (0, u "REPORT_NAME"), (0, .fieldref 15 58), (0, .nameAndType 59 23), (0, u "RESULT_TYPE"), (0, .fieldref 15 61), (0, .nameAndType 62 23), (0, u "VALUE_MOMENT"), (2, u "law"), (0, u "(I)Z")] 7

def k1m0 : Method := { name := "<init>", desc := "()V", sig := { parameters := [], returnType := none }, accessFlags := 1, code := none }
def k1c1 : Code := { maxStack := 2, maxLocals := 4, code := code, exceptionTable := #[], attributes := #[] }
def k1m1 : Method := { name := "law", desc := "(I)Z", sig := { parameters := [.int], returnType := some .boolean }, accessFlags := 9, code := some k1c1 }
def k1c2 : Code := { maxStack := 2, maxLocals := 1, code := method_3_code, exceptionTable := #[], attributes := #[] }
def k1m2 : Method := { name := "kind", desc := "(I)Lcom/example/indberet/indberet/Lpr3Class$Kind;", sig := { parameters := [.int], returnType := some (.object "com/example/indberet/indberet/Lpr3Class$Kind") }, accessFlags := 10, code := some k1c2 }
/-- com/example/indberet/indberet/KindKeepsTextPinLaw -/
def k1 : Class := { plain "com/example/indberet/indberet/KindKeepsTextPinLaw" (some 0) with
  accessFlags := 49
  interfaces := #[]
  cf := some (fileOf pool1 9 #[] #[{ accessFlags := 1, nameIndex := 5, descriptorIndex := 6, attributes := #[] }, { accessFlags := 9, nameIndex := 65, descriptorIndex := 66, attributes := #[] }, { accessFlags := 10, nameIndex := 12, descriptorIndex := 13, attributes := #[] }] 49 2 #[] #[])
  fields := #[]
  methods := #[k1m0, k1m1, k1m2]
  instanceTypes := #[]
  staticTypes := #[]
  resolved := Array.replicate 74 none
  statics := none }

def pool2 : Array CpInfo := pool [(1, .class_ 2), (0, u "java/lang/constant/Constable"), (0, .class_ 4), (0, u "java/lang/Object")] 6

/-- java/lang/constant/Constable -/
def k2 : Class := { plain "java/lang/constant/Constable" (some 0) with
  accessFlags := 1537
  interfaces := #[]
  cf := some (fileOf pool2 1 #[] #[] 1537 3 #[] #[])
  fields := #[]
  methods := #[]
  instanceTypes := #[]
  staticTypes := #[]
  resolved := Array.replicate 11 none
  statics := none }

def pool3 : Array CpInfo := pool [(1, .class_ 2), (0, u "java/lang/Comparable"), (0, .class_ 4), (0, u "java/lang/Object")] 7

/-- java/lang/Comparable -/
def k3 : Class := { plain "java/lang/Comparable" (some 0) with
  accessFlags := 1537
  interfaces := #[]
  cf := some (fileOf pool3 1 #[] #[] 1537 3 #[] #[])
  fields := #[]
  methods := #[]
  instanceTypes := #[]
  staticTypes := #[]
  resolved := Array.replicate 12 none
  statics := none }

def pool4 : Array CpInfo := pool [(1, .class_ 2), (0, u "java/io/Serializable"), (0, .class_ 4), (0, u "java/lang/Object")] 2

/-- java/io/Serializable -/
def k4 : Class := { plain "java/io/Serializable" (some 0) with
  accessFlags := 1537
  interfaces := #[]
  cf := some (fileOf pool4 1 #[] #[] 1537 3 #[] #[])
  fields := #[]
  methods := #[]
  instanceTypes := #[]
  staticTypes := #[]
  resolved := Array.replicate 7 none
  statics := none }

def pool5 : Array CpInfo := pool [(2, .class_ 4), (1, u "java/lang/Enum"), (0, u "name"), (0, u "Ljava/lang/String;"), (2, u "ordinal"), (0, u "I"), (1, .class_ 14), (1, u "java/lang/Object"), (4, u "hash"), (86, .class_ 108), (1, u "java/lang/Enum$EnumDesc"), (2, .class_ 112), (0, u "java/lang/constant/Constable"), (0, .class_ 114), (0, u "java/lang/Comparable"), (0, .class_ 116), (0, u "java/io/Serializable")] 87

/-- java/lang/Enum -/
def k5 : Class := { plain "java/lang/Enum" (some 0) with
  accessFlags := 1057
  interfaces := #[2, 3, 4]
  cf := some (fileOf pool5 2 #[.nestMembers #[106]] #[] 1057 12 #[111, 113, 115] #[{ accessFlags := 18, nameIndex := 5, descriptorIndex := 6, attributes := #[] }, { accessFlags := 18, nameIndex := 9, descriptorIndex := 10, attributes := #[] }, { accessFlags := 2, nameIndex := 19, descriptorIndex := 10, attributes := #[] }])
  fields := #[{ name := "name", type := (.object "java/lang/String"), accessFlags := 18, slot := 0, constantValue := 0 }, { name := "ordinal", type := .int, accessFlags := 18, slot := 1, constantValue := 0 }, { name := "hash", type := .int, accessFlags := 2, slot := 2, constantValue := 0 }]
  methods := #[]
  instanceTypes := #[(.object "java/lang/String"), .int, .int]
  staticTypes := #[]
  resolved := Array.replicate 204 none
  statics := none }

def pool6 : Array CpInfo := pool [(1, .class_ 2), (0, u "com/example/indberet/indberet/Lpr3Class$Kind"), (2, u "TEXT"), (0, u "Lcom/example/indberet/indberet/Lpr3Class$Kind;"), (2, u "OPTIONAL_TEXT"), (0, .fieldref 1 11), (0, .nameAndType 12 6), (0, u "VALUE"), (0, .fieldref 1 14), (0, .nameAndType 15 6), (0, u "REFERENCE"), (0, .fieldref 1 17), (0, .nameAndType 18 6), (0, u "LINK"), (2, u "TIME"), (2, u "OPTIONAL_TIME"), (2, u "ARRAY"), (2, u "OPTIONAL_ARRAY"), (2, u "OBJECT"), (2, u "BIRTH"), (0, .fieldref 1 38), (0, .nameAndType 39 6), (0, u "REPORT_NAME"), (2, u "RESULT_TYPE"), (2, u "VALUE_MOMENT"), (2, u "$VALUES"), (0, u "[Lcom/example/indberet/indberet/Lpr3Class$Kind;"), (6, .class_ 58), (1, u "java/lang/Enum"), (9, u "()Z"), (28, u "keepsText"), (6, .class_ 105), (0, u "com/example/indberet/indberet/Lpr3Class")] 2

def k6c0 : Code := { maxStack := 2, maxLocals := 1, code := prog_68_method_6_code, exceptionTable := #[], attributes := #[] }
def k6m0 : Method := { name := "keepsText", desc := "()Z", sig := { parameters := [], returnType := some .boolean }, accessFlags := 0, code := some k6c0 }
/-- com/example/indberet/indberet/Lpr3Class$Kind -/
def k6 : Class := { plain "com/example/indberet/indberet/Lpr3Class$Kind" (some 5) with
  accessFlags := 16432
  interfaces := #[]
  cf := some (fileOf pool6 1 #[.nestHost 104] #[{ accessFlags := 0, nameIndex := 97, descriptorIndex := 68, attributes := #[] }] 16432 56 #[] #[{ accessFlags := 16409, nameIndex := 5, descriptorIndex := 6, attributes := #[] }, { accessFlags := 16409, nameIndex := 9, descriptorIndex := 6, attributes := #[] }, { accessFlags := 16409, nameIndex := 12, descriptorIndex := 6, attributes := #[] }, { accessFlags := 16409, nameIndex := 15, descriptorIndex := 6, attributes := #[] }, { accessFlags := 16409, nameIndex := 18, descriptorIndex := 6, attributes := #[] }, { accessFlags := 16409, nameIndex := 21, descriptorIndex := 6, attributes := #[] }, { accessFlags := 16409, nameIndex := 24, descriptorIndex := 6, attributes := #[] }, { accessFlags := 16409, nameIndex := 27, descriptorIndex := 6, attributes := #[] }, { accessFlags := 16409, nameIndex := 30, descriptorIndex := 6, attributes := #[] }, { accessFlags := 16409, nameIndex := 33, descriptorIndex := 6, attributes := #[] }, { accessFlags := 16409, nameIndex := 36, descriptorIndex := 6, attributes := #[] }, { accessFlags := 16409, nameIndex := 39, descriptorIndex := 6, attributes := #[] }, { accessFlags := 16409, nameIndex := 42, descriptorIndex := 6, attributes := #[] }, { accessFlags := 16409, nameIndex := 45, descriptorIndex := 6, attributes := #[] }, { accessFlags := 4122, nameIndex := 48, descriptorIndex := 49, attributes := #[] }])
  fields := #[{ name := "TEXT", type := (.object "com/example/indberet/indberet/Lpr3Class$Kind"), accessFlags := 16409, slot := 0, constantValue := 0 }, { name := "OPTIONAL_TEXT", type := (.object "com/example/indberet/indberet/Lpr3Class$Kind"), accessFlags := 16409, slot := 1, constantValue := 0 }, { name := "VALUE", type := (.object "com/example/indberet/indberet/Lpr3Class$Kind"), accessFlags := 16409, slot := 2, constantValue := 0 }, { name := "REFERENCE", type := (.object "com/example/indberet/indberet/Lpr3Class$Kind"), accessFlags := 16409, slot := 3, constantValue := 0 }, { name := "LINK", type := (.object "com/example/indberet/indberet/Lpr3Class$Kind"), accessFlags := 16409, slot := 4, constantValue := 0 }, { name := "TIME", type := (.object "com/example/indberet/indberet/Lpr3Class$Kind"), accessFlags := 16409, slot := 5, constantValue := 0 }, { name := "OPTIONAL_TIME", type := (.object "com/example/indberet/indberet/Lpr3Class$Kind"), accessFlags := 16409, slot := 6, constantValue := 0 }, { name := "ARRAY", type := (.object "com/example/indberet/indberet/Lpr3Class$Kind"), accessFlags := 16409, slot := 7, constantValue := 0 }, { name := "OPTIONAL_ARRAY", type := (.object "com/example/indberet/indberet/Lpr3Class$Kind"), accessFlags := 16409, slot := 8, constantValue := 0 }, { name := "OBJECT", type := (.object "com/example/indberet/indberet/Lpr3Class$Kind"), accessFlags := 16409, slot := 9, constantValue := 0 }, { name := "BIRTH", type := (.object "com/example/indberet/indberet/Lpr3Class$Kind"), accessFlags := 16409, slot := 10, constantValue := 0 }, { name := "REPORT_NAME", type := (.object "com/example/indberet/indberet/Lpr3Class$Kind"), accessFlags := 16409, slot := 11, constantValue := 0 }, { name := "RESULT_TYPE", type := (.object "com/example/indberet/indberet/Lpr3Class$Kind"), accessFlags := 16409, slot := 12, constantValue := 0 }, { name := "VALUE_MOMENT", type := (.object "com/example/indberet/indberet/Lpr3Class$Kind"), accessFlags := 16409, slot := 13, constantValue := 0 }, { name := "$VALUES", type := (.array (.object "com/example/indberet/indberet/Lpr3Class$Kind")), accessFlags := 4122, slot := 14, constantValue := 0 }]
  methods := #[k6m0]
  instanceTypes := #[(.object "java/lang/String"), .int, .int]
  staticTypes := #[(.object "com/example/indberet/indberet/Lpr3Class$Kind"), (.object "com/example/indberet/indberet/Lpr3Class$Kind"), (.object "com/example/indberet/indberet/Lpr3Class$Kind"), (.object "com/example/indberet/indberet/Lpr3Class$Kind"), (.object "com/example/indberet/indberet/Lpr3Class$Kind"), (.object "com/example/indberet/indberet/Lpr3Class$Kind"), (.object "com/example/indberet/indberet/Lpr3Class$Kind"), (.object "com/example/indberet/indberet/Lpr3Class$Kind"), (.object "com/example/indberet/indberet/Lpr3Class$Kind"), (.object "com/example/indberet/indberet/Lpr3Class$Kind"), (.object "com/example/indberet/indberet/Lpr3Class$Kind"), (.object "com/example/indberet/indberet/Lpr3Class$Kind"), (.object "com/example/indberet/indberet/Lpr3Class$Kind"), (.object "com/example/indberet/indberet/Lpr3Class$Kind"), (.array (.object "com/example/indberet/indberet/Lpr3Class$Kind"))]
  resolved := Array.replicate 108 none
  statics := some 0 }

def pool7 : Array CpInfo := pool [(1, u "java/lang/Cloneable"), (0, .class_ 1), (0, u "java/lang/Object"), (0, .class_ 3)] 3

/-- java/lang/Cloneable -/
def k7 : Class := { plain "java/lang/Cloneable" (some 0) with
  accessFlags := 1537
  interfaces := #[]
  cf := some (fileOf pool7 2 #[] #[] 1537 4 #[] #[])
  fields := #[]
  methods := #[]
  instanceTypes := #[]
  staticTypes := #[]
  resolved := Array.replicate 8 none
  statics := none }

/-- the primitive byte -/
def k8 : Class := { plain "byte" none with kind := .primitive 'B', accessFlags := 0x411 }
/-- [B -/
def k9 : Class := { plain "[B" (some 0) with kind := .array 8 .byte, interfaces := #[7, 4], accessFlags := 1041 }

/-- the primitive int -/
def k10 : Class := { plain "int" none with kind := .primitive 'I', accessFlags := 0x411 }
/-- [I -/
def k11 : Class := { plain "[I" (some 0) with kind := .array 10 .int, interfaces := #[7, 4], accessFlags := 1041 }

def heap : Heap := #[{ cls := 6, slots := #[.ref 1, .ref 2, .ref 3, .ref 4, .ref 5, .ref 6, .ref 7, .ref 8, .ref 9, .ref 10, .ref 11, .ref 12, .ref 13, .ref 14, .null], vm := .statics 6 },
  { cls := 6, slots := #[.null, .int 0, .int 0], vm := .none },
  { cls := 6, slots := #[.null, .int 1, .int 0], vm := .none },
  { cls := 6, slots := #[.null, .int 2, .int 0], vm := .none },
  { cls := 6, slots := #[.null, .int 3, .int 0], vm := .none },
  { cls := 6, slots := #[.null, .int 4, .int 0], vm := .none },
  { cls := 6, slots := #[.null, .int 5, .int 0], vm := .none },
  { cls := 6, slots := #[.null, .int 6, .int 0], vm := .none },
  { cls := 6, slots := #[.null, .int 7, .int 0], vm := .none },
  { cls := 6, slots := #[.null, .int 8, .int 0], vm := .none },
  { cls := 6, slots := #[.null, .int 9, .int 0], vm := .none },
  { cls := 6, slots := #[.null, .int 10, .int 0], vm := .none },
  { cls := 6, slots := #[.null, .int 11, .int 0], vm := .none },
  { cls := 6, slots := #[.null, .int 12, .int 0], vm := .none },
  { cls := 6, slots := #[.null, .int 13, .int 0], vm := .none }]
def classes : Array Class := #[k0, k1, k2, k3, k4, k5, k6, k7, k8, k9, k10, k11]
def interned : List (Array UInt16 × Addr) := []
def slotsUsed : Nat := 57
def theMethod : MethodId := ⟨1, 1⟩
def args0 : Array Value := #[.int 3]
def aboutOver (below : List Frame) : State where
  vm := { classes := classes, interned := interned.toArray }
  heap := heap
  slotsUsed := slotsUsed
  threads := #[{ frames := .invoking theMethod args0 :: below }]
def below0 : List Frame := [.native { method := ⟨0, 0⟩, args := #[] }]
def about1 : State := aboutOver below0
def p0 : Program := .bare "" "" ""
def e0 : Env := launch0.env 0 0 0
theorem w_frames : about1.frames = Frame.invoking theMethod args0 :: below0 := rfl
set_option maxRecDepth 65536 in
theorem w_args : argsFit about1.vm theMethod args0 = true := by decide +kernel
set_option maxRecDepth 65536 in
theorem w_heap : heapFits about1 = true := by decide +kernel
set_option maxRecDepth 65536 in
theorem w_runnable : about1.curStatus? = some .runnable := by decide +kernel
set_option maxRecDepth 65536 in
theorem w_alone : about1.alone = true := by decide +kernel
set_option maxRecDepth 65536 in
theorem w_named : about1.methodNamed? x = some theMethod := by decide +kernel
set_option maxRecDepth 65536 in
theorem w_hears : about1.hears theMethod below0 = true := by decide +kernel
set_option maxRecDepth 65536 in
theorem w_ripe : about1.ripe theMethod args0 below0 = true := by decide +kernel
theorem w_running : about1.status = .running := rfl
set_option maxRecDepth 65536 in
theorem w_room : about1.hasRoom e0.platform room_1 = true :=
  launch0.hasRoom_least _ room_1 (by decide +kernel) (by decide +kernel) (by decide +kernel) (by decide +kernel) (by decide +kernel) (by decide +kernel)
theorem allAtoms_all (ts : List Jvm.Cond) (a : Array Jvm.Value) (st : Jvm.State) : (allAtoms ts).before a st = ts.all (fun c => c.before a st) := by
  induction ts with
  | nil => rfl
  | cons c t ih =>
    show (Jvm.Cond.and c (allAtoms t)).before a st = _
    rw [Jvm.Cond.before_and, ih, List.all_cons]
def words1 : List Jvm.Cond := Jvm.Cond.code x code maxLocals ret :: tables_1
/-- a 'code' word, met by the world's own term for the bytes: nothing is compared byte by byte -/
theorem code_word {y : MethodName} {bytes : ByteArray} {mx : Nat} {rt : Option FieldType} {a : Array Value} {s : State} {m : MethodId} {meth : Method} {c : Code} (h1 : s.methodNamed? y = some m) (h2 : s.vm.method? m = some meth) (h3 : meth.code = some c) (h4 : c.code = bytes)
    (h5 : (c.maxLocals == mx && c.exceptionTable.isEmpty && decide (c.maxStack ≤ mostOperands) && decide (meth.sig.returnType = rt) && !meth.locks && decide (parseMethodDescriptor y.desc = some meth.sig)) = true) : (Jvm.Cond.code y bytes mx rt).before a s = true := by
  simp only [Bool.and_eq_true, beq_iff_eq, Bool.not_eq_true', decide_eq_true_eq] at h5
  obtain ⟨⟨⟨⟨⟨g1, g2⟩, g3⟩, g4⟩, g5⟩, g6⟩ := h5
  simp [Cond.before, Cond.holds, Cond.value, h1, h2, h3, h4, g1, g2, g3, g4, g5, g6]
def isCode : Jvm.Cond → Bool
  | .code _ _ _ _ => true
  | _ => false
theorem all_split {L : List Jvm.Cond} {P : Jvm.Cond → Bool} (h1 : L.all (fun c => isCode c || P c) = true) (h2 : ∀ c ∈ L.filter isCode, P c = true) : L.all P = true := by
  refine List.all_eq_true.mpr fun c hc => ?_
  have h := List.all_eq_true.mp h1 c hc
  rcases Bool.eq_false_or_eq_true (isCode c) with hi | hi
  · exact h2 c (List.mem_filter.mpr ⟨hc, hi⟩)
  · simpa [hi] using h
set_option maxRecDepth 65536 in
theorem w_c0 : (Jvm.Cond.code x code maxLocals ret).before args0 about1 = true := code_word (m := ⟨1, 1⟩) (meth := k1m1) (c := k1c1) (by decide +kernel) rfl rfl rfl (by decide +kernel)
set_option maxRecDepth 65536 in
theorem w_c1 : (Jvm.Cond.code ({ cls := "com/example/indberet/indberet/KindKeepsTextPinLaw", name := "kind", desc := "(I)Lcom/example/indberet/indberet/Lpr3Class$Kind;" } : Jvm.MethodName) method_3_code (1 : Nat) (Option.some (Jvm.ClassFile.FieldType.object "com/example/indberet/indberet/Lpr3Class$Kind"))).before args0 about1 = true := code_word (m := ⟨1, 2⟩) (meth := k1m2) (c := k1c2) (by decide +kernel) rfl rfl rfl (by decide +kernel)
set_option maxRecDepth 65536 in
theorem w_c2 : (Jvm.Cond.code ({ cls := "com/example/indberet/indberet/Lpr3Class$Kind", name := "keepsText", desc := "()Z" } : Jvm.MethodName) prog_68_method_6_code (1 : Nat) (Option.some Jvm.ClassFile.FieldType.boolean)).before args0 about1 = true := code_word (m := ⟨6, 0⟩) (meth := k6m0) (c := k6c0) (by decide +kernel) rfl rfl rfl (by decide +kernel)
def codes1 : List Jvm.Cond := [Jvm.Cond.code x code maxLocals ret, Jvm.Cond.code ({ cls := "com/example/indberet/indberet/KindKeepsTextPinLaw", name := "kind", desc := "(I)Lcom/example/indberet/indberet/Lpr3Class$Kind;" } : Jvm.MethodName) method_3_code (1 : Nat) (Option.some (Jvm.ClassFile.FieldType.object "com/example/indberet/indberet/Lpr3Class$Kind")), Jvm.Cond.code ({ cls := "com/example/indberet/indberet/Lpr3Class$Kind", name := "keepsText", desc := "()Z" } : Jvm.MethodName) prog_68_method_6_code (1 : Nat) (Option.some Jvm.ClassFile.FieldType.boolean)]
set_option maxRecDepth 65536 in
theorem codes_eq : words1.filter isCode = codes1 := rfl
theorem w_codes : ∀ c ∈ words1.filter isCode, c.before args0 about1 = true := by
  rw [codes_eq]
  intro c hc
  simp only [codes1, List.mem_cons, List.not_mem_nil, or_false] at hc
  rcases hc with rfl | rfl | rfl
  · exact w_c0
  · exact w_c1
  · exact w_c2
set_option maxRecDepth 65536 in
theorem w_t1 : (words1.take 24).all (fun c => isCode c || c.before args0 about1) = true := by decide +kernel
set_option maxRecDepth 65536 in
theorem w_t2 : (words1.drop 24).all (fun c => isCode c || c.before args0 about1) = true := by decide +kernel
theorem w_tables : (allAtoms (Jvm.Cond.code x code maxLocals ret :: tables_1)).before args0 about1 = true := by
  rw [allAtoms_all]
  show words1.all (fun c => c.before args0 about1) = true
  refine all_split ?_ w_codes
  rw [← List.take_append_drop 24 words1, List.all_append, w_t1, w_t2]
  rfl
set_option maxRecDepth 65536 in
theorem w_case : (Jvm.Cond.and given_1 narrow_1).before args0 about1 = true := by decide +kernel
theorem w_applies : (headSpec (Jvm.Cond.code x code maxLocals ret :: tables_1) room_1).applies x e0.platform about1 = true :=
  (Spec.applies_iff w_frames).mpr ⟨w_running, w_runnable, w_alone, w_named, w_hears, w_ripe, w_room, w_tables⟩
theorem atStart : AtStart classFile x code maxLocals ret World_1 tables_1 room_1 Calls_1 rest_1 Pre_1 launch0 p0 e0 about1 theMethod args0 below0 :=
  ⟨lists_1, trivial, launch0.admits_env _ _ _, launch0.least_env, fairChoices_fair.cas, fairChoices_fair.clock, w_frames, w_args, w_heap, w_applies, trivial, trivial, w_case⟩
end start1
theorem witness_1 : WitnessClaimed_1 := ⟨start1.p0, start1.e0, start1.about1, start1.theMethod, start1.args0, start1.below0, start1.atStart⟩
end Jvm.Pilot.@@N@@
