import JvmDerived
import JvmDerived.Pilot.@@N@@Statement
import JvmDerived.Pilot.@@N@@Code
set_option linter.unusedVariables false
set_option linter.unusedSimpArgs false

namespace Jvm.RoadKit
open Sem ClassFile Op Lib Jvm.Stand Jvm.Free Jvm.LawKit
section New
variable {p : Program} {l : Launch} {e : Env} {R : Room} {s : State} {m : MethodId} {args : Array Value} {below : List Frame} {meth : Method} {c : Code} {T : State} {locs : List Loc} {cells slots : Nat}
theorem retI (X : Stand p l e R s m args below meth c T locs cells slots) (hx : p.tables.exec = Jvm.exec) {pc : Nat} {Ls : Array Slot} {z : Int32} {rest : List Value} (hret : meth.sig.returnType = some .int) (hd : decode c.code pc = .ok (.ireturn, 1)) {fs : List Frame}
    (hl : ∀ (f : JFrame) (acts : List Action), f.method = m → f.locked = none → f.entered = [] → (doReturn e (T.setTop f) acts (some (.int z))).1 = T.setFrames fs) : Steps p.tables e below (T.setTop (mkF m pc Ls (.int z :: rest))) (T.setFrames fs) := by
  exact retOut X hx hret rfl (Or.inl ⟨rfl, Or.inl rfl, _, rfl⟩) hd hl
end New
end Jvm.RoadKit
namespace Jvm.Pilot.@@N@@
open Jvm Jvm.ClassFile Sem Op Lib Jvm.Free Jvm.Stand Jvm.LawKit Jvm.RoadKit Bundle Jvm.Pilot.@@N@@.Jvm.D
theorem own_3 {p : Int32} (h0 : ¬ ((p &&& (3 : Int32)) = (0 : Int32))) (h1 : ¬ ((p &&& (3 : Int32)) = (1 : Int32))) (h2 : ¬ ((p &&& (3 : Int32)) = (2 : Int32))) : (3 : Int32) = (p &&& (3 : Int32)) := by
  have e := c_mask p 3 2 (by decide) (by decide)
  simp only [← Int32.toInt_inj, Int32.reduceToInt] at *; omega
theorem d1_0 : decode method_2_code 0 = .ok (.iload_n 0, 1) := by decide +kernel
theorem d1_1 : decode method_2_code 1 = .ok (.ifCond .ne 7, 3) := by decide +kernel
theorem d1_4 : decode method_2_code 4 = .ok (.iconst 0, 1) := by decide +kernel
theorem d1_5 : decode method_2_code 5 = .ok (.newarray .int, 2) := by decide +kernel
theorem d1_7 : decode method_2_code 7 = .ok (.areturn, 1) := by decide +kernel
theorem pn_com_example_concordia_concordia_clause_ClauseIsEmptyPinLaw : plainName "com/example/concordia/concordia/clause/ClauseIsEmptyPinLaw" = true := by first | (simp [plainName, overriddenIn]; done) | decide +kernel
theorem ef_rm_lit0 (m : MethodId) (x0 : Int32) (x1 : Int32) (x2 : Int32) (x3 : Int32) : entryFrame m #[(.int x0), (.int x1), (.int x2), (.int x3)] 4 = mkF m 0 #[.val (.int x0), .val (.int x1), .val (.int x2), .val (.int x3)] [] := by first | (simp [entryFrame, mkF, argsToLocals, Value.category]; done) | rfl
def Q_rm_lit0 (Z : State) (p1 : Int32) (p2 : Int32) (p3 : Int32) (p4 : Int32) (h0 : Heap) (n0 : Nat) (v : Option Value) (h : Heap) (L : List Loc) : Prop := ∃ r : Addr, ∃ k : ClassId, v = some (.ref r) ∧ Fr n0 L ∧ Keep h0 h [] ∧ (h0.size ≤ r) ∧ (Arv Z h r k .int (0 : Int32) [] (.int (0 : Int32)))
set_option maxRecDepth 65536 in
set_option maxHeartbeats 40000000 in
theorem rm_lit0 (l : Launch) (Z : State) (a0 : Array Value) (hw : ∀ d ∈ tables_1, d.before a0 Z = true) (ws : List Jvm.Cond) (p1 : Int32) (p2 : Int32) (p3 : Int32) (p4 : Int32) (h0 : Heap) (n0 : Nat) (Z0 : n0 ≤ h0.size) (hn0 : p1 = (0 : Int32)) :
    MetFree l (⟨"com/example/concordia/concordia/clause/ClauseIsEmptyPinLaw", "literalsOf", "(IIII)[I"⟩ : MethodName) (head1 (Jvm.Cond.code (⟨"com/example/concordia/concordia/clause/ClauseIsEmptyPinLaw", "literalsOf", "(IIII)[I"⟩ : MethodName) method_2_code 4 (some (.array .int)) :: ws) ({ frames := 0, cells := 1, slots := 0, locals := 0 } : Room)) (fun a U => a = #[(.int p1), (.int p2), (.int p3), (.int p4)] ∧ Z.Warmed39 U.vm ∧ U.heap = h0) (fun _ _ _ _ _ => True) (fun _ U o U' => ∃ v L, o = .returned v ∧ Q_rm_lit0 Z p1 p2 p3 p4 h0 n0 v U'.heap L ∧ FrameEnd U o U' L ({ frames := 0, cells := 1, slots := 0, locals := 0 } : Room).cells ({ frames := 0, cells := 1, slots := 0, locals := 0 } : Room).slots) := by
  refine MetFree.of_bodySF (plainFor_of_name pn_com_example_concordia_concordia_clause_ClauseIsEmptyPinLaw) hisR ?_
  intro p e s m args below meth c s₁ Bd hml0 hP hK
  obtain ⟨rfl, hZ, hh⟩ := hP
  have hx := Bd.exec
  have hby := Bd.bytes
  have hml : c.maxLocals = 4 := hml0
  have hown : s.vm.findClass "com/example/concordia/concordia/clause/ClauseIsEmptyPinLaw" = some m.cls := findClass_of_methodNamed Bd.named
  have hnm := (name_of_methodNamed Bd.named Bd.method).1
  have X0 : Stand p l e ({ frames := 0, cells := 1, slots := 0, locals := 0 } : Room) s m #[(.int p1), (.int p2), (.int p3), (.int p4)] below meth c s₁ [] 0 0 := Stand.of_body Bd
  have e0 : s₁.heap = h0 := by rw [← hh, Bd.state]; rfl
  have N0 := Fr.nil n0
  have pre0 : ∀ t, Steps p.tables e below (s₁.setTop (mkF m 0 #[.val (.int p1), .val (.int p2), .val (.int p3), .val (.int p4)] [])) t → Steps p.tables e below (s₁.setTop (entryFrame m #[(.int p1), (.int p2), (.int p3), (.int p4)] 4)) t := fun t k => castTop (ef_rm_lit0 m p1 p2 p3 p4) k
  obtain ⟨T1, h1, k1, X1, e1, E1, A1, st1⟩ := newP X0 hx hZ (hw _ (List.mem_of_getElem? (i := 4) rfl)) e0 (g := (mkF m 5 #[.val (.int p1), .val (.int p2), .val (.int p3), .val (.int p4)] [(.int (0 : Int32))])) rfl (hb hby d1_5) rfl (by decide) (cap := 0) (by decide) (by decide) (by decide) (by decide)
  obtain ⟨b1, g1⟩ : ∃ z, z = h0.size := ⟨_, rfl⟩
  rw [← g1] at A1 st1
  have gnb1 : n0 ≤ b1 := Nat.le_trans (Nat.le_trans Z0 (Keep.refl h0 []).1) (Nat.le_of_eq g1.symm)
  have gzb1 : h0.size ≤ b1 := Nat.le_trans (Keep.refl h0 []).1 (Nat.le_of_eq g1.symm)
  have K2 : Keep h0 h1 [] := (Keep.refl h0 []).ext E1
  have f1 : Arv Z h1 b1 k1 .int (0 : Int32) [] (.int (0 : Int32)) := (Arv.new A1 (by decide)).pad (pad_rep [] (.int (0 : Int32)) 0)
  obtain ⟨fs, hr, hrun, hended, hW, hsame⟩ := X1.leave (v := some (.ref b1)) (fun h => by rw [Bd.returns] at h; cases h)
  refine ⟨_, _, pre0 _ ?_, hrun, hended, _, _, rfl, ?_, ⟨_, rfl⟩, hW, hsame.mono (by decide) (by decide)⟩
  · show Steps p.tables e below (s₁.setTop (mkF m 0 #[.val (.int p1), .val (.int p2), .val (.int p3), .val (.int p4)] [])) _
    refine XS.iloadN X0.here hx rfl (hb hby d1_0) rfl ?_
    show Steps p.tables e below (s₁.setTop (mkF m 1 #[.val (.int p1), .val (.int p2), .val (.int p3), .val (.int p4)] [(.int p1)])) _
    refine XS.ifNo X0.here hx rfl (hb hby d1_1) rfl ((if0 _ _).trans (teq hn0).2) ?_
    show Steps p.tables e below (s₁.setTop (mkF m 4 #[.val (.int p1), .val (.int p2), .val (.int p3), .val (.int p4)] [])) _
    refine XS.iconst X0.here hx rfl (hb hby d1_4) ?_
    show Steps p.tables e below (s₁.setTop (mkF m 5 #[.val (.int p1), .val (.int p2), .val (.int p3), .val (.int p4)] [(.int (0 : Int32))])) _
    refine st1 _ ?_
    show Steps p.tables e below (T1.setTop (mkF m 7 #[.val (.int p1), .val (.int p2), .val (.int p3), .val (.int p4)] [(.ref b1)])) _
    exact retOut X1 hx Bd.returns rfl (Or.inr (Or.inr (Or.inr (Or.inr ⟨rfl, rfl, rfl⟩)))) (hb hby d1_7) hr
  · show Q_rm_lit0 Z p1 p2 p3 p4 h0 n0 _ T1.heap _
    rw [e1]
    exact ⟨b1, k1, rfl, N0, K2, gzb1, f1⟩
theorem d1_8 : decode method_2_code 8 = .ok (.iload_n 0, 1) := by decide +kernel
theorem d1_9 : decode method_2_code 9 = .ok (.iconst 1, 1) := by decide +kernel
theorem d1_10 : decode method_2_code 10 = .ok (.if_icmp .ne 11, 3) := by decide +kernel
theorem d1_13 : decode method_2_code 13 = .ok (.iconst 1, 1) := by decide +kernel
theorem d1_14 : decode method_2_code 14 = .ok (.newarray .int, 2) := by decide +kernel
theorem d1_16 : decode method_2_code 16 = .ok (.dup, 1) := by decide +kernel
theorem d1_17 : decode method_2_code 17 = .ok (.iconst 0, 1) := by decide +kernel
theorem d1_18 : decode method_2_code 18 = .ok (.iload_n 1, 1) := by decide +kernel
theorem d1_19 : decode method_2_code 19 = .ok (.iastore, 1) := by decide +kernel
theorem d1_20 : decode method_2_code 20 = .ok (.areturn, 1) := by decide +kernel
theorem ef_rm_lit1 (m : MethodId) (x0 : Int32) (x1 : Int32) (x2 : Int32) (x3 : Int32) : entryFrame m #[(.int x0), (.int x1), (.int x2), (.int x3)] 4 = mkF m 0 #[.val (.int x0), .val (.int x1), .val (.int x2), .val (.int x3)] [] := by first | (simp [entryFrame, mkF, argsToLocals, Value.category]; done) | rfl
def Q_rm_lit1 (Z : State) (p1 : Int32) (p2 : Int32) (p3 : Int32) (p4 : Int32) (h0 : Heap) (n0 : Nat) (v : Option Value) (h : Heap) (L : List Loc) : Prop := ∃ r : Addr, ∃ k : ClassId, v = some (.ref r) ∧ Fr n0 L ∧ Keep h0 h [] ∧ (h0.size ≤ r) ∧ (Arv Z h r k .int (1 : Int32) [(.int p2)] (.int (0 : Int32)))
set_option maxRecDepth 65536 in
set_option maxHeartbeats 40000000 in
theorem rm_lit1 (l : Launch) (Z : State) (a0 : Array Value) (hw : ∀ d ∈ tables_1, d.before a0 Z = true) (ws : List Jvm.Cond) (p1 : Int32) (p2 : Int32) (p3 : Int32) (p4 : Int32) (h0 : Heap) (n0 : Nat) (Z0 : n0 ≤ h0.size) (hn0 : ¬ (p1 = (0 : Int32))) (hn1 : p1 = (1 : Int32)) :
    MetFree l (⟨"com/example/concordia/concordia/clause/ClauseIsEmptyPinLaw", "literalsOf", "(IIII)[I"⟩ : MethodName) (head1 (Jvm.Cond.code (⟨"com/example/concordia/concordia/clause/ClauseIsEmptyPinLaw", "literalsOf", "(IIII)[I"⟩ : MethodName) method_2_code 4 (some (.array .int)) :: ws) ({ frames := 0, cells := 1, slots := 1, locals := 0 } : Room)) (fun a U => a = #[(.int p1), (.int p2), (.int p3), (.int p4)] ∧ Z.Warmed39 U.vm ∧ U.heap = h0) (fun _ _ _ _ _ => True) (fun _ U o U' => ∃ v L, o = .returned v ∧ Q_rm_lit1 Z p1 p2 p3 p4 h0 n0 v U'.heap L ∧ FrameEnd U o U' L ({ frames := 0, cells := 1, slots := 1, locals := 0 } : Room).cells ({ frames := 0, cells := 1, slots := 1, locals := 0 } : Room).slots) := by
  refine MetFree.of_bodySF (plainFor_of_name pn_com_example_concordia_concordia_clause_ClauseIsEmptyPinLaw) hisR ?_
  intro p e s m args below meth c s₁ Bd hml0 hP hK
  obtain ⟨rfl, hZ, hh⟩ := hP
  have hx := Bd.exec
  have hby := Bd.bytes
  have hml : c.maxLocals = 4 := hml0
  have hown : s.vm.findClass "com/example/concordia/concordia/clause/ClauseIsEmptyPinLaw" = some m.cls := findClass_of_methodNamed Bd.named
  have hnm := (name_of_methodNamed Bd.named Bd.method).1
  have X0 : Stand p l e ({ frames := 0, cells := 1, slots := 1, locals := 0 } : Room) s m #[(.int p1), (.int p2), (.int p3), (.int p4)] below meth c s₁ [] 0 0 := Stand.of_body Bd
  have e0 : s₁.heap = h0 := by rw [← hh, Bd.state]; rfl
  have N0 := Fr.nil n0
  have pre0 : ∀ t, Steps p.tables e below (s₁.setTop (mkF m 0 #[.val (.int p1), .val (.int p2), .val (.int p3), .val (.int p4)] [])) t → Steps p.tables e below (s₁.setTop (entryFrame m #[(.int p1), (.int p2), (.int p3), (.int p4)] 4)) t := fun t k => castTop (ef_rm_lit1 m p1 p2 p3 p4) k
  obtain ⟨T1, h1, k1, X1, e1, E1, A1, st1⟩ := newP X0 hx hZ (hw _ (List.mem_of_getElem? (i := 4) rfl)) e0 (g := (mkF m 14 #[.val (.int p1), .val (.int p2), .val (.int p3), .val (.int p4)] [(.int (1 : Int32))])) rfl (hb hby d1_14) rfl (by decide) (cap := 1) (by decide) (by decide) (by decide) (by decide)
  obtain ⟨b1, g1⟩ : ∃ z, z = h0.size := ⟨_, rfl⟩
  rw [← g1] at A1 st1
  have gnb1 : n0 ≤ b1 := Nat.le_trans (Nat.le_trans Z0 (Keep.refl h0 []).1) (Nat.le_of_eq g1.symm)
  have gzb1 : h0.size ≤ b1 := Nat.le_trans (Keep.refl h0 []).1 (Nat.le_of_eq g1.symm)
  have K2 : Keep h0 h1 [] := (Keep.refl h0 []).ext E1
  have f1 : Arv Z h1 b1 k1 .int (1 : Int32) [(.int (0 : Int32))] (.int (0 : Int32)) := (Arv.new A1 (by decide)).pad (pad_rep [] (.int (0 : Int32)) 1)
  obtain ⟨cl3, Ar3, q3, Sz3, Ng3, Hs3, Ft3⟩ := id f1
  obtain ⟨T4, h4, X4, e4, W4, st4⟩ := stI X1 hx hZ e1 Ar3 (j := (0 : Int32)) (inb_of Sz3 ⟨by decide, by decide⟩) (g := (mkF m 19 #[.val (.int p1), .val (.int p2), .val (.int p3), .val (.int p4)] [(.int p2), (.int (0 : Int32)), (.ref b1), (.ref b1)])) rfl rfl (hb hby d1_19)
  have N4 := Fr.snoc X4 N0 gnb1
  have f4 : Arv Z h4 b1 k1 .int (1 : Int32) [(.int p2)] (.int (0 : Int32)) := Arv.set Ar3 q3 Sz3 Ng3 Hs3 Ft3 rfl W4 0 rfl (Nat.le_of_ble_eq_true rfl)
  have K5 : Keep h0 h4 [] := K2.wr W4 (Or.inr gzb1)
  obtain ⟨fs, hr, hrun, hended, hW, hsame⟩ := X4.leave (v := some (.ref b1)) (fun h => by rw [Bd.returns] at h; cases h)
  refine ⟨_, _, pre0 _ ?_, hrun, hended, _, _, rfl, ?_, ⟨_, rfl⟩, hW, hsame.mono (by decide) (by decide)⟩
  · show Steps p.tables e below (s₁.setTop (mkF m 0 #[.val (.int p1), .val (.int p2), .val (.int p3), .val (.int p4)] [])) _
    refine XS.iloadN X0.here hx rfl (hb hby d1_0) rfl ?_
    show Steps p.tables e below (s₁.setTop (mkF m 1 #[.val (.int p1), .val (.int p2), .val (.int p3), .val (.int p4)] [(.int p1)])) _
    refine XS.ifYes X0.here hx rfl (pc0 := 1) (pc' := 8) rfl (hb hby d1_1) rfl ((if0 _ _).trans (feq hn0).2) (by decide) (by decide) ?_
    show Steps p.tables e below (s₁.setTop (mkF m 8 #[.val (.int p1), .val (.int p2), .val (.int p3), .val (.int p4)] [])) _
    refine XS.iloadN X0.here hx rfl (hb hby d1_8) rfl ?_
    show Steps p.tables e below (s₁.setTop (mkF m 9 #[.val (.int p1), .val (.int p2), .val (.int p3), .val (.int p4)] [(.int p1)])) _
    refine XS.iconst X0.here hx rfl (hb hby d1_9) ?_
    show Steps p.tables e below (s₁.setTop (mkF m 10 #[.val (.int p1), .val (.int p2), .val (.int p3), .val (.int p4)] [(.int (1 : Int32)), (.int p1)])) _
    refine XS.icmpNo X0.here hx rfl (hb hby d1_10) rfl (teq hn1).2 ?_
    show Steps p.tables e below (s₁.setTop (mkF m 13 #[.val (.int p1), .val (.int p2), .val (.int p3), .val (.int p4)] [])) _
    refine XS.iconst X0.here hx rfl (hb hby d1_13) ?_
    show Steps p.tables e below (s₁.setTop (mkF m 14 #[.val (.int p1), .val (.int p2), .val (.int p3), .val (.int p4)] [(.int (1 : Int32))])) _
    refine st1 _ ?_
    show Steps p.tables e below (T1.setTop (mkF m 16 #[.val (.int p1), .val (.int p2), .val (.int p3), .val (.int p4)] [(.ref b1)])) _
    refine XS.dup X1.here hx rfl (hb hby d1_16) rfl rfl ?_
    show Steps p.tables e below (T1.setTop (mkF m 17 #[.val (.int p1), .val (.int p2), .val (.int p3), .val (.int p4)] [(.ref b1), (.ref b1)])) _
    refine XS.iconst X1.here hx rfl (hb hby d1_17) ?_
    show Steps p.tables e below (T1.setTop (mkF m 18 #[.val (.int p1), .val (.int p2), .val (.int p3), .val (.int p4)] [(.int (0 : Int32)), (.ref b1), (.ref b1)])) _
    refine XS.iloadN X1.here hx rfl (hb hby d1_18) rfl ?_
    show Steps p.tables e below (T1.setTop (mkF m 19 #[.val (.int p1), .val (.int p2), .val (.int p3), .val (.int p4)] [(.int p2), (.int (0 : Int32)), (.ref b1), (.ref b1)])) _
    refine st4 _ ?_
    show Steps p.tables e below (T4.setTop (mkF m 20 #[.val (.int p1), .val (.int p2), .val (.int p3), .val (.int p4)] [(.ref b1)])) _
    exact retOut X4 hx Bd.returns rfl (Or.inr (Or.inr (Or.inr (Or.inr ⟨rfl, rfl, rfl⟩)))) (hb hby d1_20) hr
  · show Q_rm_lit1 Z p1 p2 p3 p4 h0 n0 _ T4.heap _
    rw [e4]
    exact ⟨b1, k1, rfl, N4, K5, gzb1, f4⟩
theorem d1_21 : decode method_2_code 21 = .ok (.iload_n 0, 1) := by decide +kernel
theorem d1_22 : decode method_2_code 22 = .ok (.iconst 2, 1) := by decide +kernel
theorem d1_23 : decode method_2_code 23 = .ok (.if_icmp .ne 15, 3) := by decide +kernel
theorem d1_26 : decode method_2_code 26 = .ok (.iconst 2, 1) := by decide +kernel
theorem d1_27 : decode method_2_code 27 = .ok (.newarray .int, 2) := by decide +kernel
theorem d1_29 : decode method_2_code 29 = .ok (.dup, 1) := by decide +kernel
theorem d1_30 : decode method_2_code 30 = .ok (.iconst 0, 1) := by decide +kernel
theorem d1_31 : decode method_2_code 31 = .ok (.iload_n 1, 1) := by decide +kernel
theorem d1_32 : decode method_2_code 32 = .ok (.iastore, 1) := by decide +kernel
theorem d1_33 : decode method_2_code 33 = .ok (.dup, 1) := by decide +kernel
theorem d1_34 : decode method_2_code 34 = .ok (.iconst 1, 1) := by decide +kernel
theorem d1_35 : decode method_2_code 35 = .ok (.iload_n 2, 1) := by decide +kernel
theorem d1_36 : decode method_2_code 36 = .ok (.iastore, 1) := by decide +kernel
theorem d1_37 : decode method_2_code 37 = .ok (.areturn, 1) := by decide +kernel
theorem ef_rm_lit2 (m : MethodId) (x0 : Int32) (x1 : Int32) (x2 : Int32) (x3 : Int32) : entryFrame m #[(.int x0), (.int x1), (.int x2), (.int x3)] 4 = mkF m 0 #[.val (.int x0), .val (.int x1), .val (.int x2), .val (.int x3)] [] := by first | (simp [entryFrame, mkF, argsToLocals, Value.category]; done) | rfl
def Q_rm_lit2 (Z : State) (p1 : Int32) (p2 : Int32) (p3 : Int32) (p4 : Int32) (h0 : Heap) (n0 : Nat) (v : Option Value) (h : Heap) (L : List Loc) : Prop := ∃ r : Addr, ∃ k : ClassId, v = some (.ref r) ∧ Fr n0 L ∧ Keep h0 h [] ∧ (h0.size ≤ r) ∧ (Arv Z h r k .int (2 : Int32) [(.int p2), (.int p3)] (.int (0 : Int32)))
set_option maxRecDepth 65536 in
set_option maxHeartbeats 40000000 in
theorem rm_lit2 (l : Launch) (Z : State) (a0 : Array Value) (hw : ∀ d ∈ tables_1, d.before a0 Z = true) (ws : List Jvm.Cond) (p1 : Int32) (p2 : Int32) (p3 : Int32) (p4 : Int32) (h0 : Heap) (n0 : Nat) (Z0 : n0 ≤ h0.size) (hn0 : ¬ (p1 = (0 : Int32))) (hn1 : ¬ (p1 = (1 : Int32))) (hn2 : p1 = (2 : Int32)) :
    MetFree l (⟨"com/example/concordia/concordia/clause/ClauseIsEmptyPinLaw", "literalsOf", "(IIII)[I"⟩ : MethodName) (head1 (Jvm.Cond.code (⟨"com/example/concordia/concordia/clause/ClauseIsEmptyPinLaw", "literalsOf", "(IIII)[I"⟩ : MethodName) method_2_code 4 (some (.array .int)) :: ws) ({ frames := 0, cells := 1, slots := 2, locals := 0 } : Room)) (fun a U => a = #[(.int p1), (.int p2), (.int p3), (.int p4)] ∧ Z.Warmed39 U.vm ∧ U.heap = h0) (fun _ _ _ _ _ => True) (fun _ U o U' => ∃ v L, o = .returned v ∧ Q_rm_lit2 Z p1 p2 p3 p4 h0 n0 v U'.heap L ∧ FrameEnd U o U' L ({ frames := 0, cells := 1, slots := 2, locals := 0 } : Room).cells ({ frames := 0, cells := 1, slots := 2, locals := 0 } : Room).slots) := by
  refine MetFree.of_bodySF (plainFor_of_name pn_com_example_concordia_concordia_clause_ClauseIsEmptyPinLaw) hisR ?_
  intro p e s m args below meth c s₁ Bd hml0 hP hK
  obtain ⟨rfl, hZ, hh⟩ := hP
  have hx := Bd.exec
  have hby := Bd.bytes
  have hml : c.maxLocals = 4 := hml0
  have hown : s.vm.findClass "com/example/concordia/concordia/clause/ClauseIsEmptyPinLaw" = some m.cls := findClass_of_methodNamed Bd.named
  have hnm := (name_of_methodNamed Bd.named Bd.method).1
  have X0 : Stand p l e ({ frames := 0, cells := 1, slots := 2, locals := 0 } : Room) s m #[(.int p1), (.int p2), (.int p3), (.int p4)] below meth c s₁ [] 0 0 := Stand.of_body Bd
  have e0 : s₁.heap = h0 := by rw [← hh, Bd.state]; rfl
  have N0 := Fr.nil n0
  have pre0 : ∀ t, Steps p.tables e below (s₁.setTop (mkF m 0 #[.val (.int p1), .val (.int p2), .val (.int p3), .val (.int p4)] [])) t → Steps p.tables e below (s₁.setTop (entryFrame m #[(.int p1), (.int p2), (.int p3), (.int p4)] 4)) t := fun t k => castTop (ef_rm_lit2 m p1 p2 p3 p4) k
  obtain ⟨T1, h1, k1, X1, e1, E1, A1, st1⟩ := newP X0 hx hZ (hw _ (List.mem_of_getElem? (i := 4) rfl)) e0 (g := (mkF m 27 #[.val (.int p1), .val (.int p2), .val (.int p3), .val (.int p4)] [(.int (2 : Int32))])) rfl (hb hby d1_27) rfl (by decide) (cap := 2) (by decide) (by decide) (by decide) (by decide)
  obtain ⟨b1, g1⟩ : ∃ z, z = h0.size := ⟨_, rfl⟩
  rw [← g1] at A1 st1
  have gnb1 : n0 ≤ b1 := Nat.le_trans (Nat.le_trans Z0 (Keep.refl h0 []).1) (Nat.le_of_eq g1.symm)
  have gzb1 : h0.size ≤ b1 := Nat.le_trans (Keep.refl h0 []).1 (Nat.le_of_eq g1.symm)
  have K2 : Keep h0 h1 [] := (Keep.refl h0 []).ext E1
  have f1 : Arv Z h1 b1 k1 .int (2 : Int32) [(.int (0 : Int32)), (.int (0 : Int32))] (.int (0 : Int32)) := (Arv.new A1 (by decide)).pad (pad_rep [] (.int (0 : Int32)) 2)
  obtain ⟨cl3, Ar3, q3, Sz3, Ng3, Hs3, Ft3⟩ := id f1
  obtain ⟨T4, h4, X4, e4, W4, st4⟩ := stI X1 hx hZ e1 Ar3 (j := (0 : Int32)) (inb_of Sz3 ⟨by decide, by decide⟩) (g := (mkF m 32 #[.val (.int p1), .val (.int p2), .val (.int p3), .val (.int p4)] [(.int p2), (.int (0 : Int32)), (.ref b1), (.ref b1)])) rfl rfl (hb hby d1_32)
  have N4 := Fr.snoc X4 N0 gnb1
  have f4 : Arv Z h4 b1 k1 .int (2 : Int32) [(.int p2), (.int (0 : Int32))] (.int (0 : Int32)) := Arv.set Ar3 q3 Sz3 Ng3 Hs3 Ft3 rfl W4 0 rfl (Nat.le_of_ble_eq_true rfl)
  have K5 : Keep h0 h4 [] := K2.wr W4 (Or.inr gzb1)
  obtain ⟨cl6, Ar6, q6, Sz6, Ng6, Hs6, Ft6⟩ := id f4
  obtain ⟨T7, h7, X7, e7, W7, st7⟩ := stI X4 hx hZ e4 Ar6 (j := (1 : Int32)) (inb_of Sz6 ⟨by decide, by decide⟩) (g := (mkF m 36 #[.val (.int p1), .val (.int p2), .val (.int p3), .val (.int p4)] [(.int p3), (.int (1 : Int32)), (.ref b1), (.ref b1)])) rfl rfl (hb hby d1_36)
  have N7 := Fr.snoc X7 N4 gnb1
  have f7 : Arv Z h7 b1 k1 .int (2 : Int32) [(.int p2), (.int p3)] (.int (0 : Int32)) := Arv.set Ar6 q6 Sz6 Ng6 Hs6 Ft6 rfl W7 1 rfl (Nat.le_of_ble_eq_true rfl)
  have K8 : Keep h0 h7 [] := K5.wr W7 (Or.inr gzb1)
  obtain ⟨fs, hr, hrun, hended, hW, hsame⟩ := X7.leave (v := some (.ref b1)) (fun h => by rw [Bd.returns] at h; cases h)
  refine ⟨_, _, pre0 _ ?_, hrun, hended, _, _, rfl, ?_, ⟨_, rfl⟩, hW, hsame.mono (by decide) (by decide)⟩
  · show Steps p.tables e below (s₁.setTop (mkF m 0 #[.val (.int p1), .val (.int p2), .val (.int p3), .val (.int p4)] [])) _
    refine XS.iloadN X0.here hx rfl (hb hby d1_0) rfl ?_
    show Steps p.tables e below (s₁.setTop (mkF m 1 #[.val (.int p1), .val (.int p2), .val (.int p3), .val (.int p4)] [(.int p1)])) _
    refine XS.ifYes X0.here hx rfl (pc0 := 1) (pc' := 8) rfl (hb hby d1_1) rfl ((if0 _ _).trans (feq hn0).2) (by decide) (by decide) ?_
    show Steps p.tables e below (s₁.setTop (mkF m 8 #[.val (.int p1), .val (.int p2), .val (.int p3), .val (.int p4)] [])) _
    refine XS.iloadN X0.here hx rfl (hb hby d1_8) rfl ?_
    show Steps p.tables e below (s₁.setTop (mkF m 9 #[.val (.int p1), .val (.int p2), .val (.int p3), .val (.int p4)] [(.int p1)])) _
    refine XS.iconst X0.here hx rfl (hb hby d1_9) ?_
    show Steps p.tables e below (s₁.setTop (mkF m 10 #[.val (.int p1), .val (.int p2), .val (.int p3), .val (.int p4)] [(.int (1 : Int32)), (.int p1)])) _
    refine XS.icmpYes X0.here hx rfl (pc0 := 10) (pc' := 21) rfl (hb hby d1_10) rfl (feq hn1).2 (by decide) (by decide) ?_
    show Steps p.tables e below (s₁.setTop (mkF m 21 #[.val (.int p1), .val (.int p2), .val (.int p3), .val (.int p4)] [])) _
    refine XS.iloadN X0.here hx rfl (hb hby d1_21) rfl ?_
    show Steps p.tables e below (s₁.setTop (mkF m 22 #[.val (.int p1), .val (.int p2), .val (.int p3), .val (.int p4)] [(.int p1)])) _
    refine XS.iconst X0.here hx rfl (hb hby d1_22) ?_
    show Steps p.tables e below (s₁.setTop (mkF m 23 #[.val (.int p1), .val (.int p2), .val (.int p3), .val (.int p4)] [(.int (2 : Int32)), (.int p1)])) _
    refine XS.icmpNo X0.here hx rfl (hb hby d1_23) rfl (teq hn2).2 ?_
    show Steps p.tables e below (s₁.setTop (mkF m 26 #[.val (.int p1), .val (.int p2), .val (.int p3), .val (.int p4)] [])) _
    refine XS.iconst X0.here hx rfl (hb hby d1_26) ?_
    show Steps p.tables e below (s₁.setTop (mkF m 27 #[.val (.int p1), .val (.int p2), .val (.int p3), .val (.int p4)] [(.int (2 : Int32))])) _
    refine st1 _ ?_
    show Steps p.tables e below (T1.setTop (mkF m 29 #[.val (.int p1), .val (.int p2), .val (.int p3), .val (.int p4)] [(.ref b1)])) _
    refine XS.dup X1.here hx rfl (hb hby d1_29) rfl rfl ?_
    show Steps p.tables e below (T1.setTop (mkF m 30 #[.val (.int p1), .val (.int p2), .val (.int p3), .val (.int p4)] [(.ref b1), (.ref b1)])) _
    refine XS.iconst X1.here hx rfl (hb hby d1_30) ?_
    show Steps p.tables e below (T1.setTop (mkF m 31 #[.val (.int p1), .val (.int p2), .val (.int p3), .val (.int p4)] [(.int (0 : Int32)), (.ref b1), (.ref b1)])) _
    refine XS.iloadN X1.here hx rfl (hb hby d1_31) rfl ?_
    show Steps p.tables e below (T1.setTop (mkF m 32 #[.val (.int p1), .val (.int p2), .val (.int p3), .val (.int p4)] [(.int p2), (.int (0 : Int32)), (.ref b1), (.ref b1)])) _
    refine st4 _ ?_
    show Steps p.tables e below (T4.setTop (mkF m 33 #[.val (.int p1), .val (.int p2), .val (.int p3), .val (.int p4)] [(.ref b1)])) _
    refine XS.dup X4.here hx rfl (hb hby d1_33) rfl rfl ?_
    show Steps p.tables e below (T4.setTop (mkF m 34 #[.val (.int p1), .val (.int p2), .val (.int p3), .val (.int p4)] [(.ref b1), (.ref b1)])) _
    refine XS.iconst X4.here hx rfl (hb hby d1_34) ?_
    show Steps p.tables e below (T4.setTop (mkF m 35 #[.val (.int p1), .val (.int p2), .val (.int p3), .val (.int p4)] [(.int (1 : Int32)), (.ref b1), (.ref b1)])) _
    refine XS.iloadN X4.here hx rfl (hb hby d1_35) rfl ?_
    show Steps p.tables e below (T4.setTop (mkF m 36 #[.val (.int p1), .val (.int p2), .val (.int p3), .val (.int p4)] [(.int p3), (.int (1 : Int32)), (.ref b1), (.ref b1)])) _
    refine st7 _ ?_
    show Steps p.tables e below (T7.setTop (mkF m 37 #[.val (.int p1), .val (.int p2), .val (.int p3), .val (.int p4)] [(.ref b1)])) _
    exact retOut X7 hx Bd.returns rfl (Or.inr (Or.inr (Or.inr (Or.inr ⟨rfl, rfl, rfl⟩)))) (hb hby d1_37) hr
  · show Q_rm_lit2 Z p1 p2 p3 p4 h0 n0 _ T7.heap _
    rw [e7]
    exact ⟨b1, k1, rfl, N7, K8, gzb1, f7⟩
theorem d1_38 : decode method_2_code 38 = .ok (.iconst 3, 1) := by decide +kernel
theorem d1_39 : decode method_2_code 39 = .ok (.newarray .int, 2) := by decide +kernel
theorem d1_41 : decode method_2_code 41 = .ok (.dup, 1) := by decide +kernel
theorem d1_42 : decode method_2_code 42 = .ok (.iconst 0, 1) := by decide +kernel
theorem d1_43 : decode method_2_code 43 = .ok (.iload_n 1, 1) := by decide +kernel
theorem d1_44 : decode method_2_code 44 = .ok (.iastore, 1) := by decide +kernel
theorem d1_45 : decode method_2_code 45 = .ok (.dup, 1) := by decide +kernel
theorem d1_46 : decode method_2_code 46 = .ok (.iconst 1, 1) := by decide +kernel
theorem d1_47 : decode method_2_code 47 = .ok (.iload_n 2, 1) := by decide +kernel
theorem d1_48 : decode method_2_code 48 = .ok (.iastore, 1) := by decide +kernel
theorem d1_49 : decode method_2_code 49 = .ok (.dup, 1) := by decide +kernel
theorem d1_50 : decode method_2_code 50 = .ok (.iconst 2, 1) := by decide +kernel
theorem d1_51 : decode method_2_code 51 = .ok (.iload_n 3, 1) := by decide +kernel
theorem d1_52 : decode method_2_code 52 = .ok (.iastore, 1) := by decide +kernel
theorem d1_53 : decode method_2_code 53 = .ok (.areturn, 1) := by decide +kernel
theorem ef_rm_lit3 (m : MethodId) (x0 : Int32) (x1 : Int32) (x2 : Int32) (x3 : Int32) : entryFrame m #[(.int x0), (.int x1), (.int x2), (.int x3)] 4 = mkF m 0 #[.val (.int x0), .val (.int x1), .val (.int x2), .val (.int x3)] [] := by first | (simp [entryFrame, mkF, argsToLocals, Value.category]; done) | rfl
def Q_rm_lit3 (Z : State) (p1 : Int32) (p2 : Int32) (p3 : Int32) (p4 : Int32) (h0 : Heap) (n0 : Nat) (v : Option Value) (h : Heap) (L : List Loc) : Prop := ∃ r : Addr, ∃ k : ClassId, v = some (.ref r) ∧ Fr n0 L ∧ Keep h0 h [] ∧ (h0.size ≤ r) ∧ (Arv Z h r k .int (3 : Int32) [(.int p2), (.int p3), (.int p4)] (.int (0 : Int32)))
set_option maxRecDepth 65536 in
set_option maxHeartbeats 40000000 in
theorem rm_lit3 (l : Launch) (Z : State) (a0 : Array Value) (hw : ∀ d ∈ tables_1, d.before a0 Z = true) (ws : List Jvm.Cond) (p1 : Int32) (p2 : Int32) (p3 : Int32) (p4 : Int32) (h0 : Heap) (n0 : Nat) (Z0 : n0 ≤ h0.size) (hn0 : ¬ (p1 = (0 : Int32))) (hn1 : ¬ (p1 = (1 : Int32))) (hn2 : ¬ (p1 = (2 : Int32))) :
    MetFree l (⟨"com/example/concordia/concordia/clause/ClauseIsEmptyPinLaw", "literalsOf", "(IIII)[I"⟩ : MethodName) (head1 (Jvm.Cond.code (⟨"com/example/concordia/concordia/clause/ClauseIsEmptyPinLaw", "literalsOf", "(IIII)[I"⟩ : MethodName) method_2_code 4 (some (.array .int)) :: ws) ({ frames := 0, cells := 1, slots := 3, locals := 0 } : Room)) (fun a U => a = #[(.int p1), (.int p2), (.int p3), (.int p4)] ∧ Z.Warmed39 U.vm ∧ U.heap = h0) (fun _ _ _ _ _ => True) (fun _ U o U' => ∃ v L, o = .returned v ∧ Q_rm_lit3 Z p1 p2 p3 p4 h0 n0 v U'.heap L ∧ FrameEnd U o U' L ({ frames := 0, cells := 1, slots := 3, locals := 0 } : Room).cells ({ frames := 0, cells := 1, slots := 3, locals := 0 } : Room).slots) := by
  refine MetFree.of_bodySF (plainFor_of_name pn_com_example_concordia_concordia_clause_ClauseIsEmptyPinLaw) hisR ?_
  intro p e s m args below meth c s₁ Bd hml0 hP hK
  obtain ⟨rfl, hZ, hh⟩ := hP
  have hx := Bd.exec
  have hby := Bd.bytes
  have hml : c.maxLocals = 4 := hml0
  have hown : s.vm.findClass "com/example/concordia/concordia/clause/ClauseIsEmptyPinLaw" = some m.cls := findClass_of_methodNamed Bd.named
  have hnm := (name_of_methodNamed Bd.named Bd.method).1
  have X0 : Stand p l e ({ frames := 0, cells := 1, slots := 3, locals := 0 } : Room) s m #[(.int p1), (.int p2), (.int p3), (.int p4)] below meth c s₁ [] 0 0 := Stand.of_body Bd
  have e0 : s₁.heap = h0 := by rw [← hh, Bd.state]; rfl
  have N0 := Fr.nil n0
  have pre0 : ∀ t, Steps p.tables e below (s₁.setTop (mkF m 0 #[.val (.int p1), .val (.int p2), .val (.int p3), .val (.int p4)] [])) t → Steps p.tables e below (s₁.setTop (entryFrame m #[(.int p1), (.int p2), (.int p3), (.int p4)] 4)) t := fun t k => castTop (ef_rm_lit3 m p1 p2 p3 p4) k
  obtain ⟨T1, h1, k1, X1, e1, E1, A1, st1⟩ := newP X0 hx hZ (hw _ (List.mem_of_getElem? (i := 4) rfl)) e0 (g := (mkF m 39 #[.val (.int p1), .val (.int p2), .val (.int p3), .val (.int p4)] [(.int (3 : Int32))])) rfl (hb hby d1_39) rfl (by decide) (cap := 3) (by decide) (by decide) (by decide) (by decide)
  obtain ⟨b1, g1⟩ : ∃ z, z = h0.size := ⟨_, rfl⟩
  rw [← g1] at A1 st1
  have gnb1 : n0 ≤ b1 := Nat.le_trans (Nat.le_trans Z0 (Keep.refl h0 []).1) (Nat.le_of_eq g1.symm)
  have gzb1 : h0.size ≤ b1 := Nat.le_trans (Keep.refl h0 []).1 (Nat.le_of_eq g1.symm)
  have K2 : Keep h0 h1 [] := (Keep.refl h0 []).ext E1
  have f1 : Arv Z h1 b1 k1 .int (3 : Int32) [(.int (0 : Int32)), (.int (0 : Int32)), (.int (0 : Int32))] (.int (0 : Int32)) := (Arv.new A1 (by decide)).pad (pad_rep [] (.int (0 : Int32)) 3)
  obtain ⟨cl3, Ar3, q3, Sz3, Ng3, Hs3, Ft3⟩ := id f1
  obtain ⟨T4, h4, X4, e4, W4, st4⟩ := stI X1 hx hZ e1 Ar3 (j := (0 : Int32)) (inb_of Sz3 ⟨by decide, by decide⟩) (g := (mkF m 44 #[.val (.int p1), .val (.int p2), .val (.int p3), .val (.int p4)] [(.int p2), (.int (0 : Int32)), (.ref b1), (.ref b1)])) rfl rfl (hb hby d1_44)
  have N4 := Fr.snoc X4 N0 gnb1
  have f4 : Arv Z h4 b1 k1 .int (3 : Int32) [(.int p2), (.int (0 : Int32)), (.int (0 : Int32))] (.int (0 : Int32)) := Arv.set Ar3 q3 Sz3 Ng3 Hs3 Ft3 rfl W4 0 rfl (Nat.le_of_ble_eq_true rfl)
  have K5 : Keep h0 h4 [] := K2.wr W4 (Or.inr gzb1)
  obtain ⟨cl6, Ar6, q6, Sz6, Ng6, Hs6, Ft6⟩ := id f4
  obtain ⟨T7, h7, X7, e7, W7, st7⟩ := stI X4 hx hZ e4 Ar6 (j := (1 : Int32)) (inb_of Sz6 ⟨by decide, by decide⟩) (g := (mkF m 48 #[.val (.int p1), .val (.int p2), .val (.int p3), .val (.int p4)] [(.int p3), (.int (1 : Int32)), (.ref b1), (.ref b1)])) rfl rfl (hb hby d1_48)
  have N7 := Fr.snoc X7 N4 gnb1
  have f7 : Arv Z h7 b1 k1 .int (3 : Int32) [(.int p2), (.int p3), (.int (0 : Int32))] (.int (0 : Int32)) := Arv.set Ar6 q6 Sz6 Ng6 Hs6 Ft6 rfl W7 1 rfl (Nat.le_of_ble_eq_true rfl)
  have K8 : Keep h0 h7 [] := K5.wr W7 (Or.inr gzb1)
  obtain ⟨cl9, Ar9, q9, Sz9, Ng9, Hs9, Ft9⟩ := id f7
  obtain ⟨T10, h10, X10, e10, W10, st10⟩ := stI X7 hx hZ e7 Ar9 (j := (2 : Int32)) (inb_of Sz9 ⟨by decide, by decide⟩) (g := (mkF m 52 #[.val (.int p1), .val (.int p2), .val (.int p3), .val (.int p4)] [(.int p4), (.int (2 : Int32)), (.ref b1), (.ref b1)])) rfl rfl (hb hby d1_52)
  have N10 := Fr.snoc X10 N7 gnb1
  have f10 : Arv Z h10 b1 k1 .int (3 : Int32) [(.int p2), (.int p3), (.int p4)] (.int (0 : Int32)) := Arv.set Ar9 q9 Sz9 Ng9 Hs9 Ft9 rfl W10 2 rfl (Nat.le_of_ble_eq_true rfl)
  have K11 : Keep h0 h10 [] := K8.wr W10 (Or.inr gzb1)
  obtain ⟨fs, hr, hrun, hended, hW, hsame⟩ := X10.leave (v := some (.ref b1)) (fun h => by rw [Bd.returns] at h; cases h)
  refine ⟨_, _, pre0 _ ?_, hrun, hended, _, _, rfl, ?_, ⟨_, rfl⟩, hW, hsame.mono (by decide) (by decide)⟩
  · show Steps p.tables e below (s₁.setTop (mkF m 0 #[.val (.int p1), .val (.int p2), .val (.int p3), .val (.int p4)] [])) _
    refine XS.iloadN X0.here hx rfl (hb hby d1_0) rfl ?_
    show Steps p.tables e below (s₁.setTop (mkF m 1 #[.val (.int p1), .val (.int p2), .val (.int p3), .val (.int p4)] [(.int p1)])) _
    refine XS.ifYes X0.here hx rfl (pc0 := 1) (pc' := 8) rfl (hb hby d1_1) rfl ((if0 _ _).trans (feq hn0).2) (by decide) (by decide) ?_
    show Steps p.tables e below (s₁.setTop (mkF m 8 #[.val (.int p1), .val (.int p2), .val (.int p3), .val (.int p4)] [])) _
    refine XS.iloadN X0.here hx rfl (hb hby d1_8) rfl ?_
    show Steps p.tables e below (s₁.setTop (mkF m 9 #[.val (.int p1), .val (.int p2), .val (.int p3), .val (.int p4)] [(.int p1)])) _
    refine XS.iconst X0.here hx rfl (hb hby d1_9) ?_
    show Steps p.tables e below (s₁.setTop (mkF m 10 #[.val (.int p1), .val (.int p2), .val (.int p3), .val (.int p4)] [(.int (1 : Int32)), (.int p1)])) _
    refine XS.icmpYes X0.here hx rfl (pc0 := 10) (pc' := 21) rfl (hb hby d1_10) rfl (feq hn1).2 (by decide) (by decide) ?_
    show Steps p.tables e below (s₁.setTop (mkF m 21 #[.val (.int p1), .val (.int p2), .val (.int p3), .val (.int p4)] [])) _
    refine XS.iloadN X0.here hx rfl (hb hby d1_21) rfl ?_
    show Steps p.tables e below (s₁.setTop (mkF m 22 #[.val (.int p1), .val (.int p2), .val (.int p3), .val (.int p4)] [(.int p1)])) _
    refine XS.iconst X0.here hx rfl (hb hby d1_22) ?_
    show Steps p.tables e below (s₁.setTop (mkF m 23 #[.val (.int p1), .val (.int p2), .val (.int p3), .val (.int p4)] [(.int (2 : Int32)), (.int p1)])) _
    refine XS.icmpYes X0.here hx rfl (pc0 := 23) (pc' := 38) rfl (hb hby d1_23) rfl (feq hn2).2 (by decide) (by decide) ?_
    show Steps p.tables e below (s₁.setTop (mkF m 38 #[.val (.int p1), .val (.int p2), .val (.int p3), .val (.int p4)] [])) _
    refine XS.iconst X0.here hx rfl (hb hby d1_38) ?_
    show Steps p.tables e below (s₁.setTop (mkF m 39 #[.val (.int p1), .val (.int p2), .val (.int p3), .val (.int p4)] [(.int (3 : Int32))])) _
    refine st1 _ ?_
    show Steps p.tables e below (T1.setTop (mkF m 41 #[.val (.int p1), .val (.int p2), .val (.int p3), .val (.int p4)] [(.ref b1)])) _
    refine XS.dup X1.here hx rfl (hb hby d1_41) rfl rfl ?_
    show Steps p.tables e below (T1.setTop (mkF m 42 #[.val (.int p1), .val (.int p2), .val (.int p3), .val (.int p4)] [(.ref b1), (.ref b1)])) _
    refine XS.iconst X1.here hx rfl (hb hby d1_42) ?_
    show Steps p.tables e below (T1.setTop (mkF m 43 #[.val (.int p1), .val (.int p2), .val (.int p3), .val (.int p4)] [(.int (0 : Int32)), (.ref b1), (.ref b1)])) _
    refine XS.iloadN X1.here hx rfl (hb hby d1_43) rfl ?_
    show Steps p.tables e below (T1.setTop (mkF m 44 #[.val (.int p1), .val (.int p2), .val (.int p3), .val (.int p4)] [(.int p2), (.int (0 : Int32)), (.ref b1), (.ref b1)])) _
    refine st4 _ ?_
    show Steps p.tables e below (T4.setTop (mkF m 45 #[.val (.int p1), .val (.int p2), .val (.int p3), .val (.int p4)] [(.ref b1)])) _
    refine XS.dup X4.here hx rfl (hb hby d1_45) rfl rfl ?_
    show Steps p.tables e below (T4.setTop (mkF m 46 #[.val (.int p1), .val (.int p2), .val (.int p3), .val (.int p4)] [(.ref b1), (.ref b1)])) _
    refine XS.iconst X4.here hx rfl (hb hby d1_46) ?_
    show Steps p.tables e below (T4.setTop (mkF m 47 #[.val (.int p1), .val (.int p2), .val (.int p3), .val (.int p4)] [(.int (1 : Int32)), (.ref b1), (.ref b1)])) _
    refine XS.iloadN X4.here hx rfl (hb hby d1_47) rfl ?_
    show Steps p.tables e below (T4.setTop (mkF m 48 #[.val (.int p1), .val (.int p2), .val (.int p3), .val (.int p4)] [(.int p3), (.int (1 : Int32)), (.ref b1), (.ref b1)])) _
    refine st7 _ ?_
    show Steps p.tables e below (T7.setTop (mkF m 49 #[.val (.int p1), .val (.int p2), .val (.int p3), .val (.int p4)] [(.ref b1)])) _
    refine XS.dup X7.here hx rfl (hb hby d1_49) rfl rfl ?_
    show Steps p.tables e below (T7.setTop (mkF m 50 #[.val (.int p1), .val (.int p2), .val (.int p3), .val (.int p4)] [(.ref b1), (.ref b1)])) _
    refine XS.iconst X7.here hx rfl (hb hby d1_50) ?_
    show Steps p.tables e below (T7.setTop (mkF m 51 #[.val (.int p1), .val (.int p2), .val (.int p3), .val (.int p4)] [(.int (2 : Int32)), (.ref b1), (.ref b1)])) _
    refine XS.iloadN X7.here hx rfl (hb hby d1_51) rfl ?_
    show Steps p.tables e below (T7.setTop (mkF m 52 #[.val (.int p1), .val (.int p2), .val (.int p3), .val (.int p4)] [(.int p4), (.int (2 : Int32)), (.ref b1), (.ref b1)])) _
    refine st10 _ ?_
    show Steps p.tables e below (T10.setTop (mkF m 53 #[.val (.int p1), .val (.int p2), .val (.int p3), .val (.int p4)] [(.ref b1)])) _
    exact retOut X10 hx Bd.returns rfl (Or.inr (Or.inr (Or.inr (Or.inr ⟨rfl, rfl, rfl⟩)))) (hb hby d1_53) hr
  · show Q_rm_lit3 Z p1 p2 p3 p4 h0 n0 _ T10.heap _
    rw [e10]
    exact ⟨b1, k1, rfl, N10, K11, gzb1, f10⟩
theorem d2_0 : decode prog_1_method_1_code 0 = .ok (.aload_n 0, 1) := by decide +kernel
theorem d2_1 : decode prog_1_method_1_code 1 = .ok (.invokespecial 1, 3) := by decide +kernel
theorem d2_4 : decode prog_1_method_1_code 4 = .ok (.aload_n 0, 1) := by decide +kernel
theorem d2_5 : decode prog_1_method_1_code 5 = .ok (.aload_n 1, 1) := by decide +kernel
theorem d2_6 : decode prog_1_method_1_code 6 = .ok (.arraylength, 1) := by decide +kernel
theorem d2_7 : decode prog_1_method_1_code 7 = .ok (.iconst 1, 1) := by decide +kernel
theorem d2_8 : decode prog_1_method_1_code 8 = .ok (.if_icmp .ne 7, 3) := by decide +kernel
theorem d2_11 : decode prog_1_method_1_code 11 = .ok (.aconst_null, 1) := by decide +kernel
theorem d2_12 : decode prog_1_method_1_code 12 = .ok (.goto 4, 3) := by decide +kernel
theorem d2_16 : decode prog_1_method_1_code 16 = .ok (.putfield 7, 3) := by decide +kernel
theorem d2_19 : decode prog_1_method_1_code 19 = .ok (.aload_n 0, 1) := by decide +kernel
theorem d2_20 : decode prog_1_method_1_code 20 = .ok (.aload_n 1, 1) := by decide +kernel
theorem d2_21 : decode prog_1_method_1_code 21 = .ok (.arraylength, 1) := by decide +kernel
theorem d2_22 : decode prog_1_method_1_code 22 = .ok (.iconst 1, 1) := by decide +kernel
theorem d2_23 : decode prog_1_method_1_code 23 = .ok (.if_icmp .ne 9, 3) := by decide +kernel
theorem d2_26 : decode prog_1_method_1_code 26 = .ok (.aload_n 1, 1) := by decide +kernel
theorem d2_27 : decode prog_1_method_1_code 27 = .ok (.iconst 0, 1) := by decide +kernel
theorem d2_28 : decode prog_1_method_1_code 28 = .ok (.iaload, 1) := by decide +kernel
theorem d2_29 : decode prog_1_method_1_code 29 = .ok (.goto 4, 3) := by decide +kernel
theorem d2_33 : decode prog_1_method_1_code 33 = .ok (.putfield 13, 3) := by decide +kernel
theorem d2_36 : decode prog_1_method_1_code 36 = .ok (.aload_n 0, 1) := by decide +kernel
theorem d2_37 : decode prog_1_method_1_code 37 = .ok (.iload_n 2, 1) := by decide +kernel
theorem d2_38 : decode prog_1_method_1_code 38 = .ok (.putfield 17, 3) := by decide +kernel
theorem d2_41 : decode prog_1_method_1_code 41 = .ok (.aload_n 0, 1) := by decide +kernel
theorem d2_42 : decode prog_1_method_1_code 42 = .ok (.iload_n 3, 1) := by decide +kernel
theorem d2_43 : decode prog_1_method_1_code 43 = .ok (.putfield 20, 3) := by decide +kernel
theorem d2_46 : decode prog_1_method_1_code 46 = .ok (.aload_n 0, 1) := by decide +kernel
theorem d2_47 : decode prog_1_method_1_code 47 = .ok (.iload 4, 2) := by decide +kernel
theorem d2_49 : decode prog_1_method_1_code 49 = .ok (.putfield 23, 3) := by decide +kernel
theorem d2_52 : decode prog_1_method_1_code 52 = .ok (.aload_n 0, 1) := by decide +kernel
theorem d2_53 : decode prog_1_method_1_code 53 = .ok (.lload 5, 2) := by decide +kernel
theorem d2_55 : decode prog_1_method_1_code 55 = .ok (.putfield 27, 3) := by decide +kernel
theorem d2_58 : decode prog_1_method_1_code 58 = .ok (.return_, 1) := by decide +kernel
theorem pn_com_example_concordia_concordia_clause_Clause : plainName "com/example/concordia/concordia/clause/Clause" = true := by first | (simp [plainName, overriddenIn]; done) | decide +kernel
theorem ef_rm_ini1 (m : MethodId) (x0 : Addr) (x1 : Addr) (x2 : Int32) (x3 : Int32) (x4 : Int32) (x5 : Int64) : entryFrame m #[(.ref x0), (.ref x1), (.int x2), (.int x3), (.int x4), (.long x5)] 7 = mkF m 0 #[.val (.ref x0), .val (.ref x1), .val (.int x2), .val (.int x3), .val (.int x4), .val (.long x5), .second] [] := by first | (simp [entryFrame, mkF, argsToLocals, Value.category]; done) | rfl
def Q_rm_ini1 (Z : State) (a1 : Addr) (a2 : Addr) (p3 : Int32) (p4 : Int32) (p5 : Int32) (q6 : Int64) (v0 : Value) (v1 : Value) (v2 : Value) (v3 : Value) (v4 : Value) (v5 : Value) (k2 : ClassId) (w7 : Int32) (h0 : Heap) (n0 : Nat) (v : Option Value) (h : Heap) (L : List Loc) : Prop := v = none ∧ Fr n0 L ∧ Keep h0 h [a1] ∧ (Fld Z h a1 "com/example/concordia/concordia/clause/Clause" "literals" "[I" .null)
set_option maxRecDepth 65536 in
set_option maxHeartbeats 40000000 in
theorem rm_ini1 (l : Launch) (Z : State) (a0 : Array Value) (hw : ∀ d ∈ tables_1, d.before a0 Z = true) (ws : List Jvm.Cond) (a1 : Addr) (a2 : Addr) (p3 : Int32) (p4 : Int32) (p5 : Int32) (q6 : Int64) (v0 : Value) (v1 : Value) (v2 : Value) (v3 : Value) (v4 : Value) (v5 : Value) (k2 : ClassId) (w7 : Int32) (h0 : Heap) (n0 : Nat) (Z0 : n0 ≤ h0.size) (pr0 : Exa Z h0 a1 "com/example/concordia/concordia/clause/Clause") (pr1 : Fld Z h0 a1 "com/example/concordia/concordia/clause/Clause" "literals" "[I" v0) (pr2 : Fld Z h0 a1 "com/example/concordia/concordia/clause/Clause" "unit" "I" v1) (pr3 : Fld Z h0 a1 "com/example/concordia/concordia/clause/Clause" "weight" "I" v2) (pr4 : Fld Z h0 a1 "com/example/concordia/concordia/clause/Clause" "variableCount" "I" v3) (pr5 : Fld Z h0 a1 "com/example/concordia/concordia/clause/Clause" "tautology" "Z" v4) (pr6 : Fld Z h0 a1 "com/example/concordia/concordia/clause/Clause" "signature" "J" v5) (pr7 : n0 ≤ a1) (pr8 : Arv Z h0 a2 k2 .int (1 : Int32) [(.int w7)] (.int (0 : Int32))) :
    MetFree l (⟨"com/example/concordia/concordia/clause/Clause", "<init>", "([IIIZJ)V"⟩ : MethodName) (head1 (Jvm.Cond.code (⟨"com/example/concordia/concordia/clause/Clause", "<init>", "([IIIZJ)V"⟩ : MethodName) prog_1_method_1_code 7 none :: ws) ({ frames := 1, cells := 0, slots := 0, locals := 12 } : Room)) (fun a U => a = #[(.ref a1), (.ref a2), (.int p3), (.int p4), (.int p5), (.long q6)] ∧ Z.Warmed39 U.vm ∧ U.heap = h0) (fun _ _ _ _ _ => True) (fun _ U o U' => ∃ v L, o = .returned v ∧ Q_rm_ini1 Z a1 a2 p3 p4 p5 q6 v0 v1 v2 v3 v4 v5 k2 w7 h0 n0 v U'.heap L ∧ FrameEnd U o U' L ({ frames := 1, cells := 0, slots := 0, locals := 12 } : Room).cells ({ frames := 1, cells := 0, slots := 0, locals := 12 } : Room).slots) := by
  refine MetFree.of_bodySF (plainFor_of_name pn_com_example_concordia_concordia_clause_Clause) hisR ?_
  intro p e s m args below meth c s₁ Bd hml0 hP hK
  obtain ⟨rfl, hZ, hh⟩ := hP
  have hx := Bd.exec
  have hby := Bd.bytes
  have hml : c.maxLocals = 7 := hml0
  have hown : s.vm.findClass "com/example/concordia/concordia/clause/Clause" = some m.cls := findClass_of_methodNamed Bd.named
  have hnm := (name_of_methodNamed Bd.named Bd.method).1
  have X0 : Stand p l e ({ frames := 1, cells := 0, slots := 0, locals := 12 } : Room) s m #[(.ref a1), (.ref a2), (.int p3), (.int p4), (.int p5), (.long q6)] below meth c s₁ [] 0 0 := Stand.of_body Bd
  have e0 : s₁.heap = h0 := by rw [← hh, Bd.state]; rfl
  have N0 := Fr.nil n0
  have pre0 : ∀ t, Steps p.tables e below (s₁.setTop (mkF m 0 #[.val (.ref a1), .val (.ref a2), .val (.int p3), .val (.int p4), .val (.int p5), .val (.long q6), .second] [])) t → Steps p.tables e below (s₁.setTop (entryFrame m #[(.ref a1), (.ref a2), (.int p3), (.int p4), (.int p5), (.long q6)] 7)) t := fun t k => castTop (ef_rm_ini1 m a1 a2 p3 p4 p5 q6) k
  obtain ⟨T1, X1, e1, st1⟩ := initO X0 hx hZ hown (hw _ (List.mem_of_getElem? (i := 11) rfl)) (hw _ (List.mem_of_getElem? (i := 12) rfl)) (hw _ (List.mem_of_getElem? (i := 13) rfl)) e0 (g := (mkF m 1 #[.val (.ref a1), .val (.ref a2), .val (.int p3), .val (.int p4), .val (.int p5), .val (.long q6), .second] [(.ref a1)])) rfl (by rw [hml]; rfl) rfl (hb hby d2_1) (by decide) (W := 0) (by show 2 * 0 + _ ≤ _; exact Nat.le_of_eq rfl) (by decide)
  obtain ⟨cl2, Ar2, q2, Sz2, Ng2, Hs2, Ft2⟩ := id pr8
  obtain ⟨T3, h3, X3, e3, W3, st3⟩ := putF X1 hx hZ hown (host := "") (Or.inl (hw _ (List.mem_of_getElem? (i := 14) rfl))) Via.refl e1 pr1 pr0 (Or.inr ⟨(hw _ (List.mem_of_getElem? (i := 15) rfl)), rfl, hnm⟩) (hw _ (List.mem_of_getElem? (i := 6) rfl)) (ty := (.array .int)) (by decide) rfl rfl (g := (mkF m 16 #[.val (.ref a1), .val (.ref a2), .val (.int p3), .val (.int p4), .val (.int p5), .val (.long q6), .second] [.null, (.ref a1)])) rfl rfl (hb hby d2_16)
  have N3 := Fr.snoc X3 N0 pr7
  have f3 : Fld Z h3 a1 "com/example/concordia/concordia/clause/Clause" "literals" "[I" .null := pr1.same W3
  have K4 : Keep h0 h3 [a1] := (Keep.refl h0 [a1]).wr W3 (Or.inl (List.mem_of_getElem? (i := 0) rfl))
  have f6 : Arv Z h3 a2 k2 .int (1 : Int32) [(.int w7)] (.int (0 : Int32)) := (pr8.other W3 (Ne.symm (by obtain ⟨_, A_, -⟩ := id pr8; exact ne_arr pr0 (hw _ (List.mem_of_getElem? (i := 6) rfl)) A_)))
  obtain ⟨cl5, Ar5, q5, Sz5, Ng5, Hs5, Ft5⟩ := id f6
  obtain ⟨cl7, Ar7, q7, Sz7, Ng7, Hs7, Ft7⟩ := id f6
  have f8 : Fld Z h3 a1 "com/example/concordia/concordia/clause/Clause" "unit" "I" v1 := (pr2.other W3 (Or.inr (slot_ne (Or.inr (hw _ (List.mem_of_getElem? (i := 17) rfl))) (Or.inr (hw _ (List.mem_of_getElem? (i := 15) rfl))) (by decide) (t := .int) (t' := (.array .int)) (by decide) (by decide))))
  have f9 : Exa Z h3 a1 "com/example/concordia/concordia/clause/Clause" := (pr0.wr W3)
  obtain ⟨T10, h10, X10, e10, W10, st10⟩ := putF X3 hx hZ hown (host := "") (Or.inl (hw _ (List.mem_of_getElem? (i := 16) rfl))) Via.refl e3 f8 f9 (Or.inr ⟨(hw _ (List.mem_of_getElem? (i := 17) rfl)), rfl, hnm⟩) (hw _ (List.mem_of_getElem? (i := 6) rfl)) (ty := .int) (by decide) rfl rfl (g := (mkF m 33 #[.val (.ref a1), .val (.ref a2), .val (.int p3), .val (.int p4), .val (.int p5), .val (.long q6), .second] [(.int w7), (.ref a1)])) rfl rfl (hb hby d2_33)
  have N10 := Fr.snoc X10 N3 pr7
  have f10 : Fld Z h10 a1 "com/example/concordia/concordia/clause/Clause" "unit" "I" (.int w7) := f8.same W10
  have K11 : Keep h0 h10 [a1] := K4.wr W10 (Or.inl (List.mem_of_getElem? (i := 0) rfl))
  have f12 : Fld Z h10 a1 "com/example/concordia/concordia/clause/Clause" "weight" "I" v2 := ((pr3.other W3 (Or.inr (slot_ne (Or.inr (hw _ (List.mem_of_getElem? (i := 19) rfl))) (Or.inr (hw _ (List.mem_of_getElem? (i := 15) rfl))) (by decide) (t := .int) (t' := (.array .int)) (by decide) (by decide)))).other W10 (Or.inr (slot_ne (Or.inr (hw _ (List.mem_of_getElem? (i := 19) rfl))) (Or.inr (hw _ (List.mem_of_getElem? (i := 17) rfl))) (by decide) (t := .int) (t' := .int) (by decide) (by decide))))
  have f13 : Exa Z h10 a1 "com/example/concordia/concordia/clause/Clause" := (f9.wr W10)
  obtain ⟨T14, h14, X14, e14, W14, st14⟩ := putF X10 hx hZ hown (host := "") (Or.inl (hw _ (List.mem_of_getElem? (i := 18) rfl))) Via.refl e10 f12 f13 (Or.inr ⟨(hw _ (List.mem_of_getElem? (i := 19) rfl)), rfl, hnm⟩) (hw _ (List.mem_of_getElem? (i := 6) rfl)) (ty := .int) (by decide) rfl rfl (g := (mkF m 38 #[.val (.ref a1), .val (.ref a2), .val (.int p3), .val (.int p4), .val (.int p5), .val (.long q6), .second] [(.int p3), (.ref a1)])) rfl rfl (hb hby d2_38)
  have N14 := Fr.snoc X14 N10 pr7
  have f14 : Fld Z h14 a1 "com/example/concordia/concordia/clause/Clause" "weight" "I" (.int p3) := f12.same W14
  have K15 : Keep h0 h14 [a1] := K11.wr W14 (Or.inl (List.mem_of_getElem? (i := 0) rfl))
  have f16 : Fld Z h14 a1 "com/example/concordia/concordia/clause/Clause" "variableCount" "I" v3 := (((pr4.other W3 (Or.inr (slot_ne (Or.inr (hw _ (List.mem_of_getElem? (i := 21) rfl))) (Or.inr (hw _ (List.mem_of_getElem? (i := 15) rfl))) (by decide) (t := .int) (t' := (.array .int)) (by decide) (by decide)))).other W10 (Or.inr (slot_ne (Or.inr (hw _ (List.mem_of_getElem? (i := 21) rfl))) (Or.inr (hw _ (List.mem_of_getElem? (i := 17) rfl))) (by decide) (t := .int) (t' := .int) (by decide) (by decide)))).other W14 (Or.inr (slot_ne (Or.inr (hw _ (List.mem_of_getElem? (i := 21) rfl))) (Or.inr (hw _ (List.mem_of_getElem? (i := 19) rfl))) (by decide) (t := .int) (t' := .int) (by decide) (by decide))))
  have f17 : Exa Z h14 a1 "com/example/concordia/concordia/clause/Clause" := (f13.wr W14)
  obtain ⟨T18, h18, X18, e18, W18, st18⟩ := putF X14 hx hZ hown (host := "") (Or.inl (hw _ (List.mem_of_getElem? (i := 20) rfl))) Via.refl e14 f16 f17 (Or.inr ⟨(hw _ (List.mem_of_getElem? (i := 21) rfl)), rfl, hnm⟩) (hw _ (List.mem_of_getElem? (i := 6) rfl)) (ty := .int) (by decide) rfl rfl (g := (mkF m 43 #[.val (.ref a1), .val (.ref a2), .val (.int p3), .val (.int p4), .val (.int p5), .val (.long q6), .second] [(.int p4), (.ref a1)])) rfl rfl (hb hby d2_43)
  have N18 := Fr.snoc X18 N14 pr7
  have f18 : Fld Z h18 a1 "com/example/concordia/concordia/clause/Clause" "variableCount" "I" (.int p4) := f16.same W18
  have K19 : Keep h0 h18 [a1] := K15.wr W18 (Or.inl (List.mem_of_getElem? (i := 0) rfl))
  have f20 : Fld Z h18 a1 "com/example/concordia/concordia/clause/Clause" "tautology" "Z" v4 := ((((pr5.other W3 (Or.inr (slot_ne (Or.inr (hw _ (List.mem_of_getElem? (i := 23) rfl))) (Or.inr (hw _ (List.mem_of_getElem? (i := 15) rfl))) (by decide) (t := .boolean) (t' := (.array .int)) (by decide) (by decide)))).other W10 (Or.inr (slot_ne (Or.inr (hw _ (List.mem_of_getElem? (i := 23) rfl))) (Or.inr (hw _ (List.mem_of_getElem? (i := 17) rfl))) (by decide) (t := .boolean) (t' := .int) (by decide) (by decide)))).other W14 (Or.inr (slot_ne (Or.inr (hw _ (List.mem_of_getElem? (i := 23) rfl))) (Or.inr (hw _ (List.mem_of_getElem? (i := 19) rfl))) (by decide) (t := .boolean) (t' := .int) (by decide) (by decide)))).other W18 (Or.inr (slot_ne (Or.inr (hw _ (List.mem_of_getElem? (i := 23) rfl))) (Or.inr (hw _ (List.mem_of_getElem? (i := 21) rfl))) (by decide) (t := .boolean) (t' := .int) (by decide) (by decide))))
  have f21 : Exa Z h18 a1 "com/example/concordia/concordia/clause/Clause" := (f17.wr W18)
  obtain ⟨T22, h22, X22, e22, W22, st22⟩ := putFN X18 hx hZ hown (hw _ (List.mem_of_getElem? (i := 22) rfl)) Via.refl e18 f20 f21 (Or.inr ⟨(hw _ (List.mem_of_getElem? (i := 23) rfl)), rfl, hnm⟩) (hw _ (List.mem_of_getElem? (i := 6) rfl)) (ty := .boolean) (v' := (.int (nar .boolean p5))) (by decide) rfl (fits_nar_bool _) (g := (mkF m 49 #[.val (.ref a1), .val (.ref a2), .val (.int p3), .val (.int p4), .val (.int p5), .val (.long q6), .second] [(.int p5), (.ref a1)])) rfl rfl (hb hby d2_49)
  have N22 := Fr.snoc X22 N18 pr7
  have f22 : Fld Z h22 a1 "com/example/concordia/concordia/clause/Clause" "tautology" "Z" (.int (nar .boolean p5)) := f20.same W22
  have K23 : Keep h0 h22 [a1] := K19.wr W22 (Or.inl (List.mem_of_getElem? (i := 0) rfl))
  have f24 : Fld Z h22 a1 "com/example/concordia/concordia/clause/Clause" "signature" "J" v5 := (((((pr6.other W3 (Or.inr (slot_ne (Or.inr (hw _ (List.mem_of_getElem? (i := 25) rfl))) (Or.inr (hw _ (List.mem_of_getElem? (i := 15) rfl))) (by decide) (t := .long) (t' := (.array .int)) (by decide) (by decide)))).other W10 (Or.inr (slot_ne (Or.inr (hw _ (List.mem_of_getElem? (i := 25) rfl))) (Or.inr (hw _ (List.mem_of_getElem? (i := 17) rfl))) (by decide) (t := .long) (t' := .int) (by decide) (by decide)))).other W14 (Or.inr (slot_ne (Or.inr (hw _ (List.mem_of_getElem? (i := 25) rfl))) (Or.inr (hw _ (List.mem_of_getElem? (i := 19) rfl))) (by decide) (t := .long) (t' := .int) (by decide) (by decide)))).other W18 (Or.inr (slot_ne (Or.inr (hw _ (List.mem_of_getElem? (i := 25) rfl))) (Or.inr (hw _ (List.mem_of_getElem? (i := 21) rfl))) (by decide) (t := .long) (t' := .int) (by decide) (by decide)))).other W22 (Or.inr (slot_ne (Or.inr (hw _ (List.mem_of_getElem? (i := 25) rfl))) (Or.inr (hw _ (List.mem_of_getElem? (i := 23) rfl))) (by decide) (t := .long) (t' := .boolean) (by decide) (by decide))))
  have f25 : Exa Z h22 a1 "com/example/concordia/concordia/clause/Clause" := (f21.wr W22)
  obtain ⟨T26, h26, X26, e26, W26, st26⟩ := putF X22 hx hZ hown (host := "") (Or.inl (hw _ (List.mem_of_getElem? (i := 24) rfl))) Via.refl e22 f24 f25 (Or.inr ⟨(hw _ (List.mem_of_getElem? (i := 25) rfl)), rfl, hnm⟩) (hw _ (List.mem_of_getElem? (i := 6) rfl)) (ty := .long) (by decide) rfl rfl (g := (mkF m 55 #[.val (.ref a1), .val (.ref a2), .val (.int p3), .val (.int p4), .val (.int p5), .val (.long q6), .second] [(.long q6), (.ref a1)])) rfl rfl (hb hby d2_55)
  have N26 := Fr.snoc X26 N22 pr7
  have f26 : Fld Z h26 a1 "com/example/concordia/concordia/clause/Clause" "signature" "J" (.long q6) := f24.same W26
  have K27 : Keep h0 h26 [a1] := K23.wr W26 (Or.inl (List.mem_of_getElem? (i := 0) rfl))
  have f28 : Fld Z h26 a1 "com/example/concordia/concordia/clause/Clause" "literals" "[I" .null := (((((f3.other W10 (Or.inr (slot_ne (Or.inr (hw _ (List.mem_of_getElem? (i := 15) rfl))) (Or.inr (hw _ (List.mem_of_getElem? (i := 17) rfl))) (by decide) (t := (.array .int)) (t' := .int) (by decide) (by decide)))).other W14 (Or.inr (slot_ne (Or.inr (hw _ (List.mem_of_getElem? (i := 15) rfl))) (Or.inr (hw _ (List.mem_of_getElem? (i := 19) rfl))) (by decide) (t := (.array .int)) (t' := .int) (by decide) (by decide)))).other W18 (Or.inr (slot_ne (Or.inr (hw _ (List.mem_of_getElem? (i := 15) rfl))) (Or.inr (hw _ (List.mem_of_getElem? (i := 21) rfl))) (by decide) (t := (.array .int)) (t' := .int) (by decide) (by decide)))).other W22 (Or.inr (slot_ne (Or.inr (hw _ (List.mem_of_getElem? (i := 15) rfl))) (Or.inr (hw _ (List.mem_of_getElem? (i := 23) rfl))) (by decide) (t := (.array .int)) (t' := .boolean) (by decide) (by decide)))).other W26 (Or.inr (slot_ne (Or.inr (hw _ (List.mem_of_getElem? (i := 15) rfl))) (Or.inr (hw _ (List.mem_of_getElem? (i := 25) rfl))) (by decide) (t := (.array .int)) (t' := .long) (by decide) (by decide))))
  have f28 : Fld Z h26 a1 "com/example/concordia/concordia/clause/Clause" "literals" "[I" .null := (((((f3.other W10 (Or.inr (slot_ne (Or.inr (hw _ (List.mem_of_getElem? (i := 15) rfl))) (Or.inr (hw _ (List.mem_of_getElem? (i := 17) rfl))) (by decide) (t := (.array .int)) (t' := .int) (by decide) (by decide)))).other W14 (Or.inr (slot_ne (Or.inr (hw _ (List.mem_of_getElem? (i := 15) rfl))) (Or.inr (hw _ (List.mem_of_getElem? (i := 19) rfl))) (by decide) (t := (.array .int)) (t' := .int) (by decide) (by decide)))).other W18 (Or.inr (slot_ne (Or.inr (hw _ (List.mem_of_getElem? (i := 15) rfl))) (Or.inr (hw _ (List.mem_of_getElem? (i := 21) rfl))) (by decide) (t := (.array .int)) (t' := .int) (by decide) (by decide)))).other W22 (Or.inr (slot_ne (Or.inr (hw _ (List.mem_of_getElem? (i := 15) rfl))) (Or.inr (hw _ (List.mem_of_getElem? (i := 23) rfl))) (by decide) (t := (.array .int)) (t' := .boolean) (by decide) (by decide)))).other W26 (Or.inr (slot_ne (Or.inr (hw _ (List.mem_of_getElem? (i := 15) rfl))) (Or.inr (hw _ (List.mem_of_getElem? (i := 25) rfl))) (by decide) (t := (.array .int)) (t' := .long) (by decide) (by decide))))
  obtain ⟨fs, hr, hrun, hended, hW, hsame⟩ := X26.leave (v := none) (fun _ => rfl)
  refine ⟨_, _, pre0 _ ?_, hrun, hended, _, _, rfl, ?_, ⟨_, rfl⟩, hW, hsame.mono (by decide) (by decide)⟩
  · show Steps p.tables e below (s₁.setTop (mkF m 0 #[.val (.ref a1), .val (.ref a2), .val (.int p3), .val (.int p4), .val (.int p5), .val (.long q6), .second] [])) _
    refine XS.aloadN X0.here hx rfl (hb hby d2_0) rfl rfl ?_
    show Steps p.tables e below (s₁.setTop (mkF m 1 #[.val (.ref a1), .val (.ref a2), .val (.int p3), .val (.int p4), .val (.int p5), .val (.long q6), .second] [(.ref a1)])) _
    refine st1 _ ?_
    show Steps p.tables e below (T1.setTop (mkF m 4 #[.val (.ref a1), .val (.ref a2), .val (.int p3), .val (.int p4), .val (.int p5), .val (.long q6), .second] [])) _
    refine XS.aloadN X1.here hx rfl (hb hby d2_4) rfl rfl ?_
    show Steps p.tables e below (T1.setTop (mkF m 5 #[.val (.ref a1), .val (.ref a2), .val (.int p3), .val (.int p4), .val (.int p5), .val (.long q6), .second] [(.ref a1)])) _
    refine XS.aloadN X1.here hx rfl (hb hby d2_5) rfl rfl ?_
    show Steps p.tables e below (T1.setTop (mkF m 6 #[.val (.ref a1), .val (.ref a2), .val (.int p3), .val (.int p4), .val (.int p5), .val (.long q6), .second] [(.ref a2), (.ref a1)])) _
    refine X1.arraylength hx (by rw [e1]; exact Ar2.1) (State.isArrayOf_alike hZ.alike Ar2.2.1) (g := (mkF m 6 #[.val (.ref a1), .val (.ref a2), .val (.int p3), .val (.int p4), .val (.int p5), .val (.long q6), .second] [(.ref a2), (.ref a1)])) rfl rfl (hb hby d2_6) _ ?_
    rw [len_of Sz2 Ng2]
    show Steps p.tables e below (T1.setTop (mkF m 7 #[.val (.ref a1), .val (.ref a2), .val (.int p3), .val (.int p4), .val (.int p5), .val (.long q6), .second] [(.int (1 : Int32)), (.ref a1)])) _
    refine XS.iconst X1.here hx rfl (hb hby d2_7) ?_
    show Steps p.tables e below (T1.setTop (mkF m 8 #[.val (.ref a1), .val (.ref a2), .val (.int p3), .val (.int p4), .val (.int p5), .val (.long q6), .second] [(.int (1 : Int32)), (.int (1 : Int32)), (.ref a1)])) _
    refine XS.icmpNo X1.here hx rfl (hb hby d2_8) rfl (teq (by decide : (1 : Int32) = (1 : Int32))).2 ?_
    show Steps p.tables e below (T1.setTop (mkF m 11 #[.val (.ref a1), .val (.ref a2), .val (.int p3), .val (.int p4), .val (.int p5), .val (.long q6), .second] [(.ref a1)])) _
    refine XS.aconstNull X1.here hx rfl (hb hby d2_11) ?_
    show Steps p.tables e below (T1.setTop (mkF m 12 #[.val (.ref a1), .val (.ref a2), .val (.int p3), .val (.int p4), .val (.int p5), .val (.long q6), .second] [.null, (.ref a1)])) _
    refine XS.goto X1.here hx rfl (pc0 := 12) (pc' := 16) rfl (hb hby d2_12) (by decide) (by decide) ?_
    show Steps p.tables e below (T1.setTop (mkF m 16 #[.val (.ref a1), .val (.ref a2), .val (.int p3), .val (.int p4), .val (.int p5), .val (.long q6), .second] [.null, (.ref a1)])) _
    refine st3 _ ?_
    show Steps p.tables e below (T3.setTop (mkF m 19 #[.val (.ref a1), .val (.ref a2), .val (.int p3), .val (.int p4), .val (.int p5), .val (.long q6), .second] [])) _
    refine XS.aloadN X3.here hx rfl (hb hby d2_19) rfl rfl ?_
    show Steps p.tables e below (T3.setTop (mkF m 20 #[.val (.ref a1), .val (.ref a2), .val (.int p3), .val (.int p4), .val (.int p5), .val (.long q6), .second] [(.ref a1)])) _
    refine XS.aloadN X3.here hx rfl (hb hby d2_20) rfl rfl ?_
    show Steps p.tables e below (T3.setTop (mkF m 21 #[.val (.ref a1), .val (.ref a2), .val (.int p3), .val (.int p4), .val (.int p5), .val (.long q6), .second] [(.ref a2), (.ref a1)])) _
    refine X3.arraylength hx (by rw [e3]; exact Ar5.1) (State.isArrayOf_alike hZ.alike Ar5.2.1) (g := (mkF m 21 #[.val (.ref a1), .val (.ref a2), .val (.int p3), .val (.int p4), .val (.int p5), .val (.long q6), .second] [(.ref a2), (.ref a1)])) rfl rfl (hb hby d2_21) _ ?_
    rw [len_of Sz5 Ng5]
    show Steps p.tables e below (T3.setTop (mkF m 22 #[.val (.ref a1), .val (.ref a2), .val (.int p3), .val (.int p4), .val (.int p5), .val (.long q6), .second] [(.int (1 : Int32)), (.ref a1)])) _
    refine XS.iconst X3.here hx rfl (hb hby d2_22) ?_
    show Steps p.tables e below (T3.setTop (mkF m 23 #[.val (.ref a1), .val (.ref a2), .val (.int p3), .val (.int p4), .val (.int p5), .val (.long q6), .second] [(.int (1 : Int32)), (.int (1 : Int32)), (.ref a1)])) _
    refine XS.icmpNo X3.here hx rfl (hb hby d2_23) rfl (teq (by decide : (1 : Int32) = (1 : Int32))).2 ?_
    show Steps p.tables e below (T3.setTop (mkF m 26 #[.val (.ref a1), .val (.ref a2), .val (.int p3), .val (.int p4), .val (.int p5), .val (.long q6), .second] [(.ref a1)])) _
    refine XS.aloadN X3.here hx rfl (hb hby d2_26) rfl rfl ?_
    show Steps p.tables e below (T3.setTop (mkF m 27 #[.val (.ref a1), .val (.ref a2), .val (.int p3), .val (.int p4), .val (.int p5), .val (.long q6), .second] [(.ref a2), (.ref a1)])) _
    refine XS.iconst X3.here hx rfl (hb hby d2_27) ?_
    show Steps p.tables e below (T3.setTop (mkF m 28 #[.val (.ref a1), .val (.ref a2), .val (.int p3), .val (.int p4), .val (.int p5), .val (.long q6), .second] [(.int (0 : Int32)), (.ref a2), (.ref a1)])) _
    refine X3.iaload hx (j := (0 : Int32)) (v := (.int w7)) (by rw [e3]; exact Ar7.1) (State.isArrayOf_alike hZ.alike Ar7.2.1) Ar7.2.2 (inb_of Sz7 ⟨by decide, by decide⟩) (Has.at Hs7 (inb_of Sz7 ⟨by decide, by decide⟩) rfl) (g := (mkF m 28 #[.val (.ref a1), .val (.ref a2), .val (.int p3), .val (.int p4), .val (.int p5), .val (.long q6), .second] [(.int (0 : Int32)), (.ref a2), (.ref a1)])) rfl rfl (hb hby d2_28) _ ?_
    show Steps p.tables e below (T3.setTop (mkF m 29 #[.val (.ref a1), .val (.ref a2), .val (.int p3), .val (.int p4), .val (.int p5), .val (.long q6), .second] [(.int w7), (.ref a1)])) _
    refine XS.goto X3.here hx rfl (pc0 := 29) (pc' := 33) rfl (hb hby d2_29) (by decide) (by decide) ?_
    show Steps p.tables e below (T3.setTop (mkF m 33 #[.val (.ref a1), .val (.ref a2), .val (.int p3), .val (.int p4), .val (.int p5), .val (.long q6), .second] [(.int w7), (.ref a1)])) _
    refine st10 _ ?_
    show Steps p.tables e below (T10.setTop (mkF m 36 #[.val (.ref a1), .val (.ref a2), .val (.int p3), .val (.int p4), .val (.int p5), .val (.long q6), .second] [])) _
    refine XS.aloadN X10.here hx rfl (hb hby d2_36) rfl rfl ?_
    show Steps p.tables e below (T10.setTop (mkF m 37 #[.val (.ref a1), .val (.ref a2), .val (.int p3), .val (.int p4), .val (.int p5), .val (.long q6), .second] [(.ref a1)])) _
    refine XS.iloadN X10.here hx rfl (hb hby d2_37) rfl ?_
    show Steps p.tables e below (T10.setTop (mkF m 38 #[.val (.ref a1), .val (.ref a2), .val (.int p3), .val (.int p4), .val (.int p5), .val (.long q6), .second] [(.int p3), (.ref a1)])) _
    refine st14 _ ?_
    show Steps p.tables e below (T14.setTop (mkF m 41 #[.val (.ref a1), .val (.ref a2), .val (.int p3), .val (.int p4), .val (.int p5), .val (.long q6), .second] [])) _
    refine XS.aloadN X14.here hx rfl (hb hby d2_41) rfl rfl ?_
    show Steps p.tables e below (T14.setTop (mkF m 42 #[.val (.ref a1), .val (.ref a2), .val (.int p3), .val (.int p4), .val (.int p5), .val (.long q6), .second] [(.ref a1)])) _
    refine XS.iloadN X14.here hx rfl (hb hby d2_42) rfl ?_
    show Steps p.tables e below (T14.setTop (mkF m 43 #[.val (.ref a1), .val (.ref a2), .val (.int p3), .val (.int p4), .val (.int p5), .val (.long q6), .second] [(.int p4), (.ref a1)])) _
    refine st18 _ ?_
    show Steps p.tables e below (T18.setTop (mkF m 46 #[.val (.ref a1), .val (.ref a2), .val (.int p3), .val (.int p4), .val (.int p5), .val (.long q6), .second] [])) _
    refine XS.aloadN X18.here hx rfl (hb hby d2_46) rfl rfl ?_
    show Steps p.tables e below (T18.setTop (mkF m 47 #[.val (.ref a1), .val (.ref a2), .val (.int p3), .val (.int p4), .val (.int p5), .val (.long q6), .second] [(.ref a1)])) _
    refine XS.iload X18.here hx rfl (hb hby d2_47) rfl ?_
    show Steps p.tables e below (T18.setTop (mkF m 49 #[.val (.ref a1), .val (.ref a2), .val (.int p3), .val (.int p4), .val (.int p5), .val (.long q6), .second] [(.int p5), (.ref a1)])) _
    refine st22 _ ?_
    show Steps p.tables e below (T22.setTop (mkF m 52 #[.val (.ref a1), .val (.ref a2), .val (.int p3), .val (.int p4), .val (.int p5), .val (.long q6), .second] [])) _
    refine XS.aloadN X22.here hx rfl (hb hby d2_52) rfl rfl ?_
    show Steps p.tables e below (T22.setTop (mkF m 53 #[.val (.ref a1), .val (.ref a2), .val (.int p3), .val (.int p4), .val (.int p5), .val (.long q6), .second] [(.ref a1)])) _
    refine XS.lload X22.here hx rfl (hb hby d2_53) rfl ?_
    show Steps p.tables e below (T22.setTop (mkF m 55 #[.val (.ref a1), .val (.ref a2), .val (.int p3), .val (.int p4), .val (.int p5), .val (.long q6), .second] [(.long q6), (.ref a1)])) _
    refine st26 _ ?_
    show Steps p.tables e below (T26.setTop (mkF m 58 #[.val (.ref a1), .val (.ref a2), .val (.int p3), .val (.int p4), .val (.int p5), .val (.long q6), .second] [])) _
    exact X26.returnOut hx Bd.returns (hb hby d2_58) hr
  · show Q_rm_ini1 Z a1 a2 p3 p4 p5 q6 v0 v1 v2 v3 v4 v5 k2 w7 h0 n0 _ T26.heap _
    rw [e26]
    exact ⟨rfl, N26, K27, f28⟩
theorem d2_15 : decode prog_1_method_1_code 15 = .ok (.aload_n 1, 1) := by decide +kernel
theorem d2_32 : decode prog_1_method_1_code 32 = .ok (.iconst 0, 1) := by decide +kernel
theorem ef_rm_inin (m : MethodId) (x0 : Addr) (x1 : Addr) (x2 : Int32) (x3 : Int32) (x4 : Int32) (x5 : Int64) : entryFrame m #[(.ref x0), (.ref x1), (.int x2), (.int x3), (.int x4), (.long x5)] 7 = mkF m 0 #[.val (.ref x0), .val (.ref x1), .val (.int x2), .val (.int x3), .val (.int x4), .val (.long x5), .second] [] := by first | (simp [entryFrame, mkF, argsToLocals, Value.category]; done) | rfl
def Q_rm_inin (Z : State) (a1 : Addr) (a2 : Addr) (p3 : Int32) (p4 : Int32) (p5 : Int32) (q6 : Int64) (v0 : Value) (v1 : Value) (v2 : Value) (v3 : Value) (v4 : Value) (v5 : Value) (k2 : ClassId) (z2 : Int32) (vs2 : List Value) (h0 : Heap) (n0 : Nat) (v : Option Value) (h : Heap) (L : List Loc) : Prop := v = none ∧ Fr n0 L ∧ Keep h0 h [a1] ∧ (Fld Z h a1 "com/example/concordia/concordia/clause/Clause" "literals" "[I" (.ref a2))
set_option maxRecDepth 65536 in
set_option maxHeartbeats 40000000 in
theorem rm_inin (l : Launch) (Z : State) (a0 : Array Value) (hw : ∀ d ∈ tables_1, d.before a0 Z = true) (ws : List Jvm.Cond) (a1 : Addr) (a2 : Addr) (p3 : Int32) (p4 : Int32) (p5 : Int32) (q6 : Int64) (v0 : Value) (v1 : Value) (v2 : Value) (v3 : Value) (v4 : Value) (v5 : Value) (k2 : ClassId) (z2 : Int32) (vs2 : List Value) (h0 : Heap) (n0 : Nat) (Z0 : n0 ≤ h0.size) (pr0 : Exa Z h0 a1 "com/example/concordia/concordia/clause/Clause") (pr1 : Fld Z h0 a1 "com/example/concordia/concordia/clause/Clause" "literals" "[I" v0) (pr2 : Fld Z h0 a1 "com/example/concordia/concordia/clause/Clause" "unit" "I" v1) (pr3 : Fld Z h0 a1 "com/example/concordia/concordia/clause/Clause" "weight" "I" v2) (pr4 : Fld Z h0 a1 "com/example/concordia/concordia/clause/Clause" "variableCount" "I" v3) (pr5 : Fld Z h0 a1 "com/example/concordia/concordia/clause/Clause" "tautology" "Z" v4) (pr6 : Fld Z h0 a1 "com/example/concordia/concordia/clause/Clause" "signature" "J" v5) (pr7 : n0 ≤ a1) (pr8 : Arv Z h0 a2 k2 .int z2 vs2 (.int (0 : Int32))) (hz : ¬ (z2 = (1 : Int32))) :
    MetFree l (⟨"com/example/concordia/concordia/clause/Clause", "<init>", "([IIIZJ)V"⟩ : MethodName) (head1 (Jvm.Cond.code (⟨"com/example/concordia/concordia/clause/Clause", "<init>", "([IIIZJ)V"⟩ : MethodName) prog_1_method_1_code 7 none :: ws) ({ frames := 1, cells := 0, slots := 0, locals := 12 } : Room)) (fun a U => a = #[(.ref a1), (.ref a2), (.int p3), (.int p4), (.int p5), (.long q6)] ∧ Z.Warmed39 U.vm ∧ U.heap = h0) (fun _ _ _ _ _ => True) (fun _ U o U' => ∃ v L, o = .returned v ∧ Q_rm_inin Z a1 a2 p3 p4 p5 q6 v0 v1 v2 v3 v4 v5 k2 z2 vs2 h0 n0 v U'.heap L ∧ FrameEnd U o U' L ({ frames := 1, cells := 0, slots := 0, locals := 12 } : Room).cells ({ frames := 1, cells := 0, slots := 0, locals := 12 } : Room).slots) := by
  refine MetFree.of_bodySF (plainFor_of_name pn_com_example_concordia_concordia_clause_Clause) hisR ?_
  intro p e s m args below meth c s₁ Bd hml0 hP hK
  obtain ⟨rfl, hZ, hh⟩ := hP
  have hx := Bd.exec
  have hby := Bd.bytes
  have hml : c.maxLocals = 7 := hml0
  have hown : s.vm.findClass "com/example/concordia/concordia/clause/Clause" = some m.cls := findClass_of_methodNamed Bd.named
  have hnm := (name_of_methodNamed Bd.named Bd.method).1
  have X0 : Stand p l e ({ frames := 1, cells := 0, slots := 0, locals := 12 } : Room) s m #[(.ref a1), (.ref a2), (.int p3), (.int p4), (.int p5), (.long q6)] below meth c s₁ [] 0 0 := Stand.of_body Bd
  have e0 : s₁.heap = h0 := by rw [← hh, Bd.state]; rfl
  have N0 := Fr.nil n0
  have pre0 : ∀ t, Steps p.tables e below (s₁.setTop (mkF m 0 #[.val (.ref a1), .val (.ref a2), .val (.int p3), .val (.int p4), .val (.int p5), .val (.long q6), .second] [])) t → Steps p.tables e below (s₁.setTop (entryFrame m #[(.ref a1), (.ref a2), (.int p3), (.int p4), (.int p5), (.long q6)] 7)) t := fun t k => castTop (ef_rm_inin m a1 a2 p3 p4 p5 q6) k
  obtain ⟨T1, X1, e1, st1⟩ := initO X0 hx hZ hown (hw _ (List.mem_of_getElem? (i := 11) rfl)) (hw _ (List.mem_of_getElem? (i := 12) rfl)) (hw _ (List.mem_of_getElem? (i := 13) rfl)) e0 (g := (mkF m 1 #[.val (.ref a1), .val (.ref a2), .val (.int p3), .val (.int p4), .val (.int p5), .val (.long q6), .second] [(.ref a1)])) rfl (by rw [hml]; rfl) rfl (hb hby d2_1) (by decide) (W := 0) (by show 2 * 0 + _ ≤ _; exact Nat.le_of_eq rfl) (by decide)
  obtain ⟨cl2, Ar2, q2, Sz2, Ng2, Hs2, Ft2⟩ := id pr8
  obtain ⟨T3, h3, X3, e3, W3, st3⟩ := putF X1 hx hZ hown (host := "") (Or.inl (hw _ (List.mem_of_getElem? (i := 14) rfl))) Via.refl e1 pr1 pr0 (Or.inr ⟨(hw _ (List.mem_of_getElem? (i := 15) rfl)), rfl, hnm⟩) (hw _ (List.mem_of_getElem? (i := 6) rfl)) (ty := (.array .int)) (by decide) rfl rfl (g := (mkF m 16 #[.val (.ref a1), .val (.ref a2), .val (.int p3), .val (.int p4), .val (.int p5), .val (.long q6), .second] [(.ref a2), (.ref a1)])) rfl rfl (hb hby d2_16)
  have N3 := Fr.snoc X3 N0 pr7
  have f3 : Fld Z h3 a1 "com/example/concordia/concordia/clause/Clause" "literals" "[I" (.ref a2) := pr1.same W3
  have K4 : Keep h0 h3 [a1] := (Keep.refl h0 [a1]).wr W3 (Or.inl (List.mem_of_getElem? (i := 0) rfl))
  have f6 : Arv Z h3 a2 k2 .int z2 vs2 (.int (0 : Int32)) := (pr8.other W3 (Ne.symm (by obtain ⟨_, A_, -⟩ := id pr8; exact ne_arr pr0 (hw _ (List.mem_of_getElem? (i := 6) rfl)) A_)))
  obtain ⟨cl5, Ar5, q5, Sz5, Ng5, Hs5, Ft5⟩ := id f6
  have f7 : Fld Z h3 a1 "com/example/concordia/concordia/clause/Clause" "unit" "I" v1 := (pr2.other W3 (Or.inr (slot_ne (Or.inr (hw _ (List.mem_of_getElem? (i := 17) rfl))) (Or.inr (hw _ (List.mem_of_getElem? (i := 15) rfl))) (by decide) (t := .int) (t' := (.array .int)) (by decide) (by decide))))
  have f8 : Exa Z h3 a1 "com/example/concordia/concordia/clause/Clause" := (pr0.wr W3)
  obtain ⟨T9, h9, X9, e9, W9, st9⟩ := putF X3 hx hZ hown (host := "") (Or.inl (hw _ (List.mem_of_getElem? (i := 16) rfl))) Via.refl e3 f7 f8 (Or.inr ⟨(hw _ (List.mem_of_getElem? (i := 17) rfl)), rfl, hnm⟩) (hw _ (List.mem_of_getElem? (i := 6) rfl)) (ty := .int) (by decide) rfl rfl (g := (mkF m 33 #[.val (.ref a1), .val (.ref a2), .val (.int p3), .val (.int p4), .val (.int p5), .val (.long q6), .second] [(.int (0 : Int32)), (.ref a1)])) rfl rfl (hb hby d2_33)
  have N9 := Fr.snoc X9 N3 pr7
  have f9 : Fld Z h9 a1 "com/example/concordia/concordia/clause/Clause" "unit" "I" (.int (0 : Int32)) := f7.same W9
  have K10 : Keep h0 h9 [a1] := K4.wr W9 (Or.inl (List.mem_of_getElem? (i := 0) rfl))
  have f11 : Fld Z h9 a1 "com/example/concordia/concordia/clause/Clause" "weight" "I" v2 := ((pr3.other W3 (Or.inr (slot_ne (Or.inr (hw _ (List.mem_of_getElem? (i := 19) rfl))) (Or.inr (hw _ (List.mem_of_getElem? (i := 15) rfl))) (by decide) (t := .int) (t' := (.array .int)) (by decide) (by decide)))).other W9 (Or.inr (slot_ne (Or.inr (hw _ (List.mem_of_getElem? (i := 19) rfl))) (Or.inr (hw _ (List.mem_of_getElem? (i := 17) rfl))) (by decide) (t := .int) (t' := .int) (by decide) (by decide))))
  have f12 : Exa Z h9 a1 "com/example/concordia/concordia/clause/Clause" := (f8.wr W9)
  obtain ⟨T13, h13, X13, e13, W13, st13⟩ := putF X9 hx hZ hown (host := "") (Or.inl (hw _ (List.mem_of_getElem? (i := 18) rfl))) Via.refl e9 f11 f12 (Or.inr ⟨(hw _ (List.mem_of_getElem? (i := 19) rfl)), rfl, hnm⟩) (hw _ (List.mem_of_getElem? (i := 6) rfl)) (ty := .int) (by decide) rfl rfl (g := (mkF m 38 #[.val (.ref a1), .val (.ref a2), .val (.int p3), .val (.int p4), .val (.int p5), .val (.long q6), .second] [(.int p3), (.ref a1)])) rfl rfl (hb hby d2_38)
  have N13 := Fr.snoc X13 N9 pr7
  have f13 : Fld Z h13 a1 "com/example/concordia/concordia/clause/Clause" "weight" "I" (.int p3) := f11.same W13
  have K14 : Keep h0 h13 [a1] := K10.wr W13 (Or.inl (List.mem_of_getElem? (i := 0) rfl))
  have f15 : Fld Z h13 a1 "com/example/concordia/concordia/clause/Clause" "variableCount" "I" v3 := (((pr4.other W3 (Or.inr (slot_ne (Or.inr (hw _ (List.mem_of_getElem? (i := 21) rfl))) (Or.inr (hw _ (List.mem_of_getElem? (i := 15) rfl))) (by decide) (t := .int) (t' := (.array .int)) (by decide) (by decide)))).other W9 (Or.inr (slot_ne (Or.inr (hw _ (List.mem_of_getElem? (i := 21) rfl))) (Or.inr (hw _ (List.mem_of_getElem? (i := 17) rfl))) (by decide) (t := .int) (t' := .int) (by decide) (by decide)))).other W13 (Or.inr (slot_ne (Or.inr (hw _ (List.mem_of_getElem? (i := 21) rfl))) (Or.inr (hw _ (List.mem_of_getElem? (i := 19) rfl))) (by decide) (t := .int) (t' := .int) (by decide) (by decide))))
  have f16 : Exa Z h13 a1 "com/example/concordia/concordia/clause/Clause" := (f12.wr W13)
  obtain ⟨T17, h17, X17, e17, W17, st17⟩ := putF X13 hx hZ hown (host := "") (Or.inl (hw _ (List.mem_of_getElem? (i := 20) rfl))) Via.refl e13 f15 f16 (Or.inr ⟨(hw _ (List.mem_of_getElem? (i := 21) rfl)), rfl, hnm⟩) (hw _ (List.mem_of_getElem? (i := 6) rfl)) (ty := .int) (by decide) rfl rfl (g := (mkF m 43 #[.val (.ref a1), .val (.ref a2), .val (.int p3), .val (.int p4), .val (.int p5), .val (.long q6), .second] [(.int p4), (.ref a1)])) rfl rfl (hb hby d2_43)
  have N17 := Fr.snoc X17 N13 pr7
  have f17 : Fld Z h17 a1 "com/example/concordia/concordia/clause/Clause" "variableCount" "I" (.int p4) := f15.same W17
  have K18 : Keep h0 h17 [a1] := K14.wr W17 (Or.inl (List.mem_of_getElem? (i := 0) rfl))
  have f19 : Fld Z h17 a1 "com/example/concordia/concordia/clause/Clause" "tautology" "Z" v4 := ((((pr5.other W3 (Or.inr (slot_ne (Or.inr (hw _ (List.mem_of_getElem? (i := 23) rfl))) (Or.inr (hw _ (List.mem_of_getElem? (i := 15) rfl))) (by decide) (t := .boolean) (t' := (.array .int)) (by decide) (by decide)))).other W9 (Or.inr (slot_ne (Or.inr (hw _ (List.mem_of_getElem? (i := 23) rfl))) (Or.inr (hw _ (List.mem_of_getElem? (i := 17) rfl))) (by decide) (t := .boolean) (t' := .int) (by decide) (by decide)))).other W13 (Or.inr (slot_ne (Or.inr (hw _ (List.mem_of_getElem? (i := 23) rfl))) (Or.inr (hw _ (List.mem_of_getElem? (i := 19) rfl))) (by decide) (t := .boolean) (t' := .int) (by decide) (by decide)))).other W17 (Or.inr (slot_ne (Or.inr (hw _ (List.mem_of_getElem? (i := 23) rfl))) (Or.inr (hw _ (List.mem_of_getElem? (i := 21) rfl))) (by decide) (t := .boolean) (t' := .int) (by decide) (by decide))))
  have f20 : Exa Z h17 a1 "com/example/concordia/concordia/clause/Clause" := (f16.wr W17)
  obtain ⟨T21, h21, X21, e21, W21, st21⟩ := putFN X17 hx hZ hown (hw _ (List.mem_of_getElem? (i := 22) rfl)) Via.refl e17 f19 f20 (Or.inr ⟨(hw _ (List.mem_of_getElem? (i := 23) rfl)), rfl, hnm⟩) (hw _ (List.mem_of_getElem? (i := 6) rfl)) (ty := .boolean) (v' := (.int (nar .boolean p5))) (by decide) rfl (fits_nar_bool _) (g := (mkF m 49 #[.val (.ref a1), .val (.ref a2), .val (.int p3), .val (.int p4), .val (.int p5), .val (.long q6), .second] [(.int p5), (.ref a1)])) rfl rfl (hb hby d2_49)
  have N21 := Fr.snoc X21 N17 pr7
  have f21 : Fld Z h21 a1 "com/example/concordia/concordia/clause/Clause" "tautology" "Z" (.int (nar .boolean p5)) := f19.same W21
  have K22 : Keep h0 h21 [a1] := K18.wr W21 (Or.inl (List.mem_of_getElem? (i := 0) rfl))
  have f23 : Fld Z h21 a1 "com/example/concordia/concordia/clause/Clause" "signature" "J" v5 := (((((pr6.other W3 (Or.inr (slot_ne (Or.inr (hw _ (List.mem_of_getElem? (i := 25) rfl))) (Or.inr (hw _ (List.mem_of_getElem? (i := 15) rfl))) (by decide) (t := .long) (t' := (.array .int)) (by decide) (by decide)))).other W9 (Or.inr (slot_ne (Or.inr (hw _ (List.mem_of_getElem? (i := 25) rfl))) (Or.inr (hw _ (List.mem_of_getElem? (i := 17) rfl))) (by decide) (t := .long) (t' := .int) (by decide) (by decide)))).other W13 (Or.inr (slot_ne (Or.inr (hw _ (List.mem_of_getElem? (i := 25) rfl))) (Or.inr (hw _ (List.mem_of_getElem? (i := 19) rfl))) (by decide) (t := .long) (t' := .int) (by decide) (by decide)))).other W17 (Or.inr (slot_ne (Or.inr (hw _ (List.mem_of_getElem? (i := 25) rfl))) (Or.inr (hw _ (List.mem_of_getElem? (i := 21) rfl))) (by decide) (t := .long) (t' := .int) (by decide) (by decide)))).other W21 (Or.inr (slot_ne (Or.inr (hw _ (List.mem_of_getElem? (i := 25) rfl))) (Or.inr (hw _ (List.mem_of_getElem? (i := 23) rfl))) (by decide) (t := .long) (t' := .boolean) (by decide) (by decide))))
  have f24 : Exa Z h21 a1 "com/example/concordia/concordia/clause/Clause" := (f20.wr W21)
  obtain ⟨T25, h25, X25, e25, W25, st25⟩ := putF X21 hx hZ hown (host := "") (Or.inl (hw _ (List.mem_of_getElem? (i := 24) rfl))) Via.refl e21 f23 f24 (Or.inr ⟨(hw _ (List.mem_of_getElem? (i := 25) rfl)), rfl, hnm⟩) (hw _ (List.mem_of_getElem? (i := 6) rfl)) (ty := .long) (by decide) rfl rfl (g := (mkF m 55 #[.val (.ref a1), .val (.ref a2), .val (.int p3), .val (.int p4), .val (.int p5), .val (.long q6), .second] [(.long q6), (.ref a1)])) rfl rfl (hb hby d2_55)
  have N25 := Fr.snoc X25 N21 pr7
  have f25 : Fld Z h25 a1 "com/example/concordia/concordia/clause/Clause" "signature" "J" (.long q6) := f23.same W25
  have K26 : Keep h0 h25 [a1] := K22.wr W25 (Or.inl (List.mem_of_getElem? (i := 0) rfl))
  have f27 : Fld Z h25 a1 "com/example/concordia/concordia/clause/Clause" "literals" "[I" (.ref a2) := (((((f3.other W9 (Or.inr (slot_ne (Or.inr (hw _ (List.mem_of_getElem? (i := 15) rfl))) (Or.inr (hw _ (List.mem_of_getElem? (i := 17) rfl))) (by decide) (t := (.array .int)) (t' := .int) (by decide) (by decide)))).other W13 (Or.inr (slot_ne (Or.inr (hw _ (List.mem_of_getElem? (i := 15) rfl))) (Or.inr (hw _ (List.mem_of_getElem? (i := 19) rfl))) (by decide) (t := (.array .int)) (t' := .int) (by decide) (by decide)))).other W17 (Or.inr (slot_ne (Or.inr (hw _ (List.mem_of_getElem? (i := 15) rfl))) (Or.inr (hw _ (List.mem_of_getElem? (i := 21) rfl))) (by decide) (t := (.array .int)) (t' := .int) (by decide) (by decide)))).other W21 (Or.inr (slot_ne (Or.inr (hw _ (List.mem_of_getElem? (i := 15) rfl))) (Or.inr (hw _ (List.mem_of_getElem? (i := 23) rfl))) (by decide) (t := (.array .int)) (t' := .boolean) (by decide) (by decide)))).other W25 (Or.inr (slot_ne (Or.inr (hw _ (List.mem_of_getElem? (i := 15) rfl))) (Or.inr (hw _ (List.mem_of_getElem? (i := 25) rfl))) (by decide) (t := (.array .int)) (t' := .long) (by decide) (by decide))))
  have f27 : Fld Z h25 a1 "com/example/concordia/concordia/clause/Clause" "literals" "[I" (.ref a2) := (((((f3.other W9 (Or.inr (slot_ne (Or.inr (hw _ (List.mem_of_getElem? (i := 15) rfl))) (Or.inr (hw _ (List.mem_of_getElem? (i := 17) rfl))) (by decide) (t := (.array .int)) (t' := .int) (by decide) (by decide)))).other W13 (Or.inr (slot_ne (Or.inr (hw _ (List.mem_of_getElem? (i := 15) rfl))) (Or.inr (hw _ (List.mem_of_getElem? (i := 19) rfl))) (by decide) (t := (.array .int)) (t' := .int) (by decide) (by decide)))).other W17 (Or.inr (slot_ne (Or.inr (hw _ (List.mem_of_getElem? (i := 15) rfl))) (Or.inr (hw _ (List.mem_of_getElem? (i := 21) rfl))) (by decide) (t := (.array .int)) (t' := .int) (by decide) (by decide)))).other W21 (Or.inr (slot_ne (Or.inr (hw _ (List.mem_of_getElem? (i := 15) rfl))) (Or.inr (hw _ (List.mem_of_getElem? (i := 23) rfl))) (by decide) (t := (.array .int)) (t' := .boolean) (by decide) (by decide)))).other W25 (Or.inr (slot_ne (Or.inr (hw _ (List.mem_of_getElem? (i := 15) rfl))) (Or.inr (hw _ (List.mem_of_getElem? (i := 25) rfl))) (by decide) (t := (.array .int)) (t' := .long) (by decide) (by decide))))
  obtain ⟨fs, hr, hrun, hended, hW, hsame⟩ := X25.leave (v := none) (fun _ => rfl)
  refine ⟨_, _, pre0 _ ?_, hrun, hended, _, _, rfl, ?_, ⟨_, rfl⟩, hW, hsame.mono (by decide) (by decide)⟩
  · show Steps p.tables e below (s₁.setTop (mkF m 0 #[.val (.ref a1), .val (.ref a2), .val (.int p3), .val (.int p4), .val (.int p5), .val (.long q6), .second] [])) _
    refine XS.aloadN X0.here hx rfl (hb hby d2_0) rfl rfl ?_
    show Steps p.tables e below (s₁.setTop (mkF m 1 #[.val (.ref a1), .val (.ref a2), .val (.int p3), .val (.int p4), .val (.int p5), .val (.long q6), .second] [(.ref a1)])) _
    refine st1 _ ?_
    show Steps p.tables e below (T1.setTop (mkF m 4 #[.val (.ref a1), .val (.ref a2), .val (.int p3), .val (.int p4), .val (.int p5), .val (.long q6), .second] [])) _
    refine XS.aloadN X1.here hx rfl (hb hby d2_4) rfl rfl ?_
    show Steps p.tables e below (T1.setTop (mkF m 5 #[.val (.ref a1), .val (.ref a2), .val (.int p3), .val (.int p4), .val (.int p5), .val (.long q6), .second] [(.ref a1)])) _
    refine XS.aloadN X1.here hx rfl (hb hby d2_5) rfl rfl ?_
    show Steps p.tables e below (T1.setTop (mkF m 6 #[.val (.ref a1), .val (.ref a2), .val (.int p3), .val (.int p4), .val (.int p5), .val (.long q6), .second] [(.ref a2), (.ref a1)])) _
    refine X1.arraylength hx (by rw [e1]; exact Ar2.1) (State.isArrayOf_alike hZ.alike Ar2.2.1) (g := (mkF m 6 #[.val (.ref a1), .val (.ref a2), .val (.int p3), .val (.int p4), .val (.int p5), .val (.long q6), .second] [(.ref a2), (.ref a1)])) rfl rfl (hb hby d2_6) _ ?_
    rw [len_of Sz2 Ng2]
    show Steps p.tables e below (T1.setTop (mkF m 7 #[.val (.ref a1), .val (.ref a2), .val (.int p3), .val (.int p4), .val (.int p5), .val (.long q6), .second] [(.int z2), (.ref a1)])) _
    refine XS.iconst X1.here hx rfl (hb hby d2_7) ?_
    show Steps p.tables e below (T1.setTop (mkF m 8 #[.val (.ref a1), .val (.ref a2), .val (.int p3), .val (.int p4), .val (.int p5), .val (.long q6), .second] [(.int (1 : Int32)), (.int z2), (.ref a1)])) _
    refine XS.icmpYes X1.here hx rfl (pc0 := 8) (pc' := 15) rfl (hb hby d2_8) rfl (feq hz).2 (by decide) (by decide) ?_
    show Steps p.tables e below (T1.setTop (mkF m 15 #[.val (.ref a1), .val (.ref a2), .val (.int p3), .val (.int p4), .val (.int p5), .val (.long q6), .second] [(.ref a1)])) _
    refine XS.aloadN X1.here hx rfl (hb hby d2_15) rfl rfl ?_
    show Steps p.tables e below (T1.setTop (mkF m 16 #[.val (.ref a1), .val (.ref a2), .val (.int p3), .val (.int p4), .val (.int p5), .val (.long q6), .second] [(.ref a2), (.ref a1)])) _
    refine st3 _ ?_
    show Steps p.tables e below (T3.setTop (mkF m 19 #[.val (.ref a1), .val (.ref a2), .val (.int p3), .val (.int p4), .val (.int p5), .val (.long q6), .second] [])) _
    refine XS.aloadN X3.here hx rfl (hb hby d2_19) rfl rfl ?_
    show Steps p.tables e below (T3.setTop (mkF m 20 #[.val (.ref a1), .val (.ref a2), .val (.int p3), .val (.int p4), .val (.int p5), .val (.long q6), .second] [(.ref a1)])) _
    refine XS.aloadN X3.here hx rfl (hb hby d2_20) rfl rfl ?_
    show Steps p.tables e below (T3.setTop (mkF m 21 #[.val (.ref a1), .val (.ref a2), .val (.int p3), .val (.int p4), .val (.int p5), .val (.long q6), .second] [(.ref a2), (.ref a1)])) _
    refine X3.arraylength hx (by rw [e3]; exact Ar5.1) (State.isArrayOf_alike hZ.alike Ar5.2.1) (g := (mkF m 21 #[.val (.ref a1), .val (.ref a2), .val (.int p3), .val (.int p4), .val (.int p5), .val (.long q6), .second] [(.ref a2), (.ref a1)])) rfl rfl (hb hby d2_21) _ ?_
    rw [len_of Sz5 Ng5]
    show Steps p.tables e below (T3.setTop (mkF m 22 #[.val (.ref a1), .val (.ref a2), .val (.int p3), .val (.int p4), .val (.int p5), .val (.long q6), .second] [(.int z2), (.ref a1)])) _
    refine XS.iconst X3.here hx rfl (hb hby d2_22) ?_
    show Steps p.tables e below (T3.setTop (mkF m 23 #[.val (.ref a1), .val (.ref a2), .val (.int p3), .val (.int p4), .val (.int p5), .val (.long q6), .second] [(.int (1 : Int32)), (.int z2), (.ref a1)])) _
    refine XS.icmpYes X3.here hx rfl (pc0 := 23) (pc' := 32) rfl (hb hby d2_23) rfl (feq hz).2 (by decide) (by decide) ?_
    show Steps p.tables e below (T3.setTop (mkF m 32 #[.val (.ref a1), .val (.ref a2), .val (.int p3), .val (.int p4), .val (.int p5), .val (.long q6), .second] [(.ref a1)])) _
    refine XS.iconst X3.here hx rfl (hb hby d2_32) ?_
    show Steps p.tables e below (T3.setTop (mkF m 33 #[.val (.ref a1), .val (.ref a2), .val (.int p3), .val (.int p4), .val (.int p5), .val (.long q6), .second] [(.int (0 : Int32)), (.ref a1)])) _
    refine st9 _ ?_
    show Steps p.tables e below (T9.setTop (mkF m 36 #[.val (.ref a1), .val (.ref a2), .val (.int p3), .val (.int p4), .val (.int p5), .val (.long q6), .second] [])) _
    refine XS.aloadN X9.here hx rfl (hb hby d2_36) rfl rfl ?_
    show Steps p.tables e below (T9.setTop (mkF m 37 #[.val (.ref a1), .val (.ref a2), .val (.int p3), .val (.int p4), .val (.int p5), .val (.long q6), .second] [(.ref a1)])) _
    refine XS.iloadN X9.here hx rfl (hb hby d2_37) rfl ?_
    show Steps p.tables e below (T9.setTop (mkF m 38 #[.val (.ref a1), .val (.ref a2), .val (.int p3), .val (.int p4), .val (.int p5), .val (.long q6), .second] [(.int p3), (.ref a1)])) _
    refine st13 _ ?_
    show Steps p.tables e below (T13.setTop (mkF m 41 #[.val (.ref a1), .val (.ref a2), .val (.int p3), .val (.int p4), .val (.int p5), .val (.long q6), .second] [])) _
    refine XS.aloadN X13.here hx rfl (hb hby d2_41) rfl rfl ?_
    show Steps p.tables e below (T13.setTop (mkF m 42 #[.val (.ref a1), .val (.ref a2), .val (.int p3), .val (.int p4), .val (.int p5), .val (.long q6), .second] [(.ref a1)])) _
    refine XS.iloadN X13.here hx rfl (hb hby d2_42) rfl ?_
    show Steps p.tables e below (T13.setTop (mkF m 43 #[.val (.ref a1), .val (.ref a2), .val (.int p3), .val (.int p4), .val (.int p5), .val (.long q6), .second] [(.int p4), (.ref a1)])) _
    refine st17 _ ?_
    show Steps p.tables e below (T17.setTop (mkF m 46 #[.val (.ref a1), .val (.ref a2), .val (.int p3), .val (.int p4), .val (.int p5), .val (.long q6), .second] [])) _
    refine XS.aloadN X17.here hx rfl (hb hby d2_46) rfl rfl ?_
    show Steps p.tables e below (T17.setTop (mkF m 47 #[.val (.ref a1), .val (.ref a2), .val (.int p3), .val (.int p4), .val (.int p5), .val (.long q6), .second] [(.ref a1)])) _
    refine XS.iload X17.here hx rfl (hb hby d2_47) rfl ?_
    show Steps p.tables e below (T17.setTop (mkF m 49 #[.val (.ref a1), .val (.ref a2), .val (.int p3), .val (.int p4), .val (.int p5), .val (.long q6), .second] [(.int p5), (.ref a1)])) _
    refine st21 _ ?_
    show Steps p.tables e below (T21.setTop (mkF m 52 #[.val (.ref a1), .val (.ref a2), .val (.int p3), .val (.int p4), .val (.int p5), .val (.long q6), .second] [])) _
    refine XS.aloadN X21.here hx rfl (hb hby d2_52) rfl rfl ?_
    show Steps p.tables e below (T21.setTop (mkF m 53 #[.val (.ref a1), .val (.ref a2), .val (.int p3), .val (.int p4), .val (.int p5), .val (.long q6), .second] [(.ref a1)])) _
    refine XS.lload X21.here hx rfl (hb hby d2_53) rfl ?_
    show Steps p.tables e below (T21.setTop (mkF m 55 #[.val (.ref a1), .val (.ref a2), .val (.int p3), .val (.int p4), .val (.int p5), .val (.long q6), .second] [(.long q6), (.ref a1)])) _
    refine st25 _ ?_
    show Steps p.tables e below (T25.setTop (mkF m 58 #[.val (.ref a1), .val (.ref a2), .val (.int p3), .val (.int p4), .val (.int p5), .val (.long q6), .second] [])) _
    exact X25.returnOut hx Bd.returns (hb hby d2_58) hr
  · show Q_rm_inin Z a1 a2 p3 p4 p5 q6 v0 v1 v2 v3 v4 v5 k2 z2 vs2 h0 n0 _ T25.heap _
    rw [e25]
    exact ⟨rfl, N25, K26, f27⟩
theorem d4_0 : decode prog_1_method_6_code 0 = .ok (.aload_n 0, 1) := by decide +kernel
theorem d4_1 : decode prog_1_method_6_code 1 = .ok (.getfield 7, 3) := by decide +kernel
theorem d4_4 : decode prog_1_method_6_code 4 = .ok (.ifnull 15, 3) := by decide +kernel
theorem d4_19 : decode prog_1_method_6_code 19 = .ok (.iconst 0, 1) := by decide +kernel
theorem d4_20 : decode prog_1_method_6_code 20 = .ok (.ireturn, 1) := by decide +kernel
theorem ef_rm_em0 (m : MethodId) (x0 : Addr) : entryFrame m #[(.ref x0)] 1 = mkF m 0 #[.val (.ref x0)] [] := by first | (simp [entryFrame, mkF, argsToLocals, Value.category]; done) | rfl
def Q_rm_em0 (Z : State) (a1 : Addr) (h0 : Heap) (n0 : Nat) (v : Option Value) (h : Heap) (L : List Loc) : Prop := v = some (.int (0 : Int32)) ∧ Fr n0 L ∧ h = h0
set_option maxRecDepth 65536 in
set_option maxHeartbeats 40000000 in
theorem rm_em0 (l : Launch) (Z : State) (a0 : Array Value) (hw : ∀ d ∈ tables_1, d.before a0 Z = true) (ws : List Jvm.Cond) (a1 : Addr) (h0 : Heap) (n0 : Nat) (Z0 : n0 ≤ h0.size) (pr0 : Fld Z h0 a1 "com/example/concordia/concordia/clause/Clause" "literals" "[I" .null) :
    MetFree l (⟨"com/example/concordia/concordia/clause/Clause", "isEmpty", "()Z"⟩ : MethodName) (head1 (Jvm.Cond.code (⟨"com/example/concordia/concordia/clause/Clause", "isEmpty", "()Z"⟩ : MethodName) prog_1_method_6_code 1 (some .boolean) :: ws) ({ frames := 0, cells := 0, slots := 0, locals := 0 } : Room)) (fun a U => a = #[(.ref a1)] ∧ Z.Warmed39 U.vm ∧ U.heap = h0) (fun _ _ _ _ _ => True) (fun _ U o U' => ∃ v L, o = .returned v ∧ Q_rm_em0 Z a1 h0 n0 v U'.heap L ∧ FrameEnd U o U' L ({ frames := 0, cells := 0, slots := 0, locals := 0 } : Room).cells ({ frames := 0, cells := 0, slots := 0, locals := 0 } : Room).slots) := by
  refine MetFree.of_bodySF (plainFor_of_name pn_com_example_concordia_concordia_clause_Clause) hisR ?_
  intro p e s m args below meth c s₁ Bd hml0 hP hK
  obtain ⟨rfl, hZ, hh⟩ := hP
  have hx := Bd.exec
  have hby := Bd.bytes
  have hml : c.maxLocals = 1 := hml0
  have hown : s.vm.findClass "com/example/concordia/concordia/clause/Clause" = some m.cls := findClass_of_methodNamed Bd.named
  have hnm := (name_of_methodNamed Bd.named Bd.method).1
  have X0 : Stand p l e ({ frames := 0, cells := 0, slots := 0, locals := 0 } : Room) s m #[(.ref a1)] below meth c s₁ [] 0 0 := Stand.of_body Bd
  have e0 : s₁.heap = h0 := by rw [← hh, Bd.state]; rfl
  have N0 := Fr.nil n0
  have pre0 : ∀ t, Steps p.tables e below (s₁.setTop (mkF m 0 #[.val (.ref a1)] [])) t → Steps p.tables e below (s₁.setTop (entryFrame m #[(.ref a1)] 1)) t := fun t k => castTop (ef_rm_em0 m a1) k
  obtain ⟨T1, X1, e1, st1⟩ := getF X0 hx hZ hown (host := "") (Or.inl (hw _ (List.mem_of_getElem? (i := 14) rfl))) Via.refl e0 pr0 (g := (mkF m 1 #[.val (.ref a1)] [(.ref a1)])) rfl rfl (hb hby d4_1)
  obtain ⟨fs, hr, hrun, hended, hW, hsame⟩ := X1.leave (v := some (.int (0 : Int32))) (fun h => by rw [Bd.returns] at h; cases h)
  refine ⟨_, _, pre0 _ ?_, hrun, hended, _, _, rfl, ?_, ⟨_, rfl⟩, hW, hsame.mono (by decide) (by decide)⟩
  · show Steps p.tables e below (s₁.setTop (mkF m 0 #[.val (.ref a1)] [])) _
    refine XS.aloadN X0.here hx rfl (hb hby d4_0) rfl rfl ?_
    show Steps p.tables e below (s₁.setTop (mkF m 1 #[.val (.ref a1)] [(.ref a1)])) _
    refine st1 _ ?_
    show Steps p.tables e below (T1.setTop (mkF m 4 #[.val (.ref a1)] [.null])) _
    refine XS.ifnullYes X1.here hx rfl (pc0 := 4) (pc' := 19) rfl (hb hby d4_4) rfl (by decide) (by decide) ?_
    show Steps p.tables e below (T1.setTop (mkF m 19 #[.val (.ref a1)] [])) _
    refine XS.iconst X1.here hx rfl (hb hby d4_19) ?_
    show Steps p.tables e below (T1.setTop (mkF m 20 #[.val (.ref a1)] [(.int (0 : Int32))])) _
    exact retN X1 hx (t := .boolean) Bd.returns (by simp) (hb hby d4_20) hr
  · show Q_rm_em0 Z a1 h0 n0 _ T1.heap _
    rw [e1]
    exact ⟨rfl, N0, rfl⟩
theorem d4_7 : decode prog_1_method_6_code 7 = .ok (.aload_n 0, 1) := by decide +kernel
theorem d4_8 : decode prog_1_method_6_code 8 = .ok (.getfield 7, 3) := by decide +kernel
theorem d4_11 : decode prog_1_method_6_code 11 = .ok (.arraylength, 1) := by decide +kernel
theorem d4_12 : decode prog_1_method_6_code 12 = .ok (.ifCond .ne 7, 3) := by decide +kernel
theorem d4_15 : decode prog_1_method_6_code 15 = .ok (.iconst 1, 1) := by decide +kernel
theorem d4_16 : decode prog_1_method_6_code 16 = .ok (.goto 4, 3) := by decide +kernel
theorem ef_rm_emz (m : MethodId) (x0 : Addr) : entryFrame m #[(.ref x0)] 1 = mkF m 0 #[.val (.ref x0)] [] := by first | (simp [entryFrame, mkF, argsToLocals, Value.category]; done) | rfl
def Q_rm_emz (Z : State) (a1 : Addr) (a2 : Addr) (k2 : ClassId) (z2 : Int32) (vs2 : List Value) (h0 : Heap) (n0 : Nat) (v : Option Value) (h : Heap) (L : List Loc) : Prop := v = some (.int (1 : Int32)) ∧ Fr n0 L ∧ h = h0
set_option maxRecDepth 65536 in
set_option maxHeartbeats 40000000 in
theorem rm_emz (l : Launch) (Z : State) (a0 : Array Value) (hw : ∀ d ∈ tables_1, d.before a0 Z = true) (ws : List Jvm.Cond) (a1 : Addr) (a2 : Addr) (k2 : ClassId) (z2 : Int32) (vs2 : List Value) (h0 : Heap) (n0 : Nat) (Z0 : n0 ≤ h0.size) (pr0 : Fld Z h0 a1 "com/example/concordia/concordia/clause/Clause" "literals" "[I" (.ref a2)) (pr1 : Arv Z h0 a2 k2 .int z2 vs2 (.int (0 : Int32))) (hz : z2 = (0 : Int32)) :
    MetFree l (⟨"com/example/concordia/concordia/clause/Clause", "isEmpty", "()Z"⟩ : MethodName) (head1 (Jvm.Cond.code (⟨"com/example/concordia/concordia/clause/Clause", "isEmpty", "()Z"⟩ : MethodName) prog_1_method_6_code 1 (some .boolean) :: ws) ({ frames := 0, cells := 0, slots := 0, locals := 0 } : Room)) (fun a U => a = #[(.ref a1)] ∧ Z.Warmed39 U.vm ∧ U.heap = h0) (fun _ _ _ _ _ => True) (fun _ U o U' => ∃ v L, o = .returned v ∧ Q_rm_emz Z a1 a2 k2 z2 vs2 h0 n0 v U'.heap L ∧ FrameEnd U o U' L ({ frames := 0, cells := 0, slots := 0, locals := 0 } : Room).cells ({ frames := 0, cells := 0, slots := 0, locals := 0 } : Room).slots) := by
  refine MetFree.of_bodySF (plainFor_of_name pn_com_example_concordia_concordia_clause_Clause) hisR ?_
  intro p e s m args below meth c s₁ Bd hml0 hP hK
  obtain ⟨rfl, hZ, hh⟩ := hP
  have hx := Bd.exec
  have hby := Bd.bytes
  have hml : c.maxLocals = 1 := hml0
  have hown : s.vm.findClass "com/example/concordia/concordia/clause/Clause" = some m.cls := findClass_of_methodNamed Bd.named
  have hnm := (name_of_methodNamed Bd.named Bd.method).1
  have X0 : Stand p l e ({ frames := 0, cells := 0, slots := 0, locals := 0 } : Room) s m #[(.ref a1)] below meth c s₁ [] 0 0 := Stand.of_body Bd
  have e0 : s₁.heap = h0 := by rw [← hh, Bd.state]; rfl
  have N0 := Fr.nil n0
  have pre0 : ∀ t, Steps p.tables e below (s₁.setTop (mkF m 0 #[.val (.ref a1)] [])) t → Steps p.tables e below (s₁.setTop (entryFrame m #[(.ref a1)] 1)) t := fun t k => castTop (ef_rm_emz m a1) k
  obtain ⟨T1, X1, e1, st1⟩ := getF X0 hx hZ hown (host := "") (Or.inl (hw _ (List.mem_of_getElem? (i := 14) rfl))) Via.refl e0 pr0 (g := (mkF m 1 #[.val (.ref a1)] [(.ref a1)])) rfl rfl (hb hby d4_1)
  obtain ⟨T2, X2, e2, st2⟩ := getF X1 hx hZ hown (host := "") (Or.inl (hw _ (List.mem_of_getElem? (i := 14) rfl))) Via.refl e1 pr0 (g := (mkF m 8 #[.val (.ref a1)] [(.ref a1)])) rfl rfl (hb hby d4_8)
  obtain ⟨cl3, Ar3, q3, Sz3, Ng3, Hs3, Ft3⟩ := id pr1
  obtain ⟨fs, hr, hrun, hended, hW, hsame⟩ := X2.leave (v := some (.int (1 : Int32))) (fun h => by rw [Bd.returns] at h; cases h)
  refine ⟨_, _, pre0 _ ?_, hrun, hended, _, _, rfl, ?_, ⟨_, rfl⟩, hW, hsame.mono (by decide) (by decide)⟩
  · show Steps p.tables e below (s₁.setTop (mkF m 0 #[.val (.ref a1)] [])) _
    refine XS.aloadN X0.here hx rfl (hb hby d4_0) rfl rfl ?_
    show Steps p.tables e below (s₁.setTop (mkF m 1 #[.val (.ref a1)] [(.ref a1)])) _
    refine st1 _ ?_
    show Steps p.tables e below (T1.setTop (mkF m 4 #[.val (.ref a1)] [(.ref a2)])) _
    refine XS.ifnullNo X1.here hx rfl (hb hby d4_4) rfl ?_
    show Steps p.tables e below (T1.setTop (mkF m 7 #[.val (.ref a1)] [])) _
    refine XS.aloadN X1.here hx rfl (hb hby d4_7) rfl rfl ?_
    show Steps p.tables e below (T1.setTop (mkF m 8 #[.val (.ref a1)] [(.ref a1)])) _
    refine st2 _ ?_
    show Steps p.tables e below (T2.setTop (mkF m 11 #[.val (.ref a1)] [(.ref a2)])) _
    refine X2.arraylength hx (by rw [e2]; exact Ar3.1) (State.isArrayOf_alike hZ.alike Ar3.2.1) (g := (mkF m 11 #[.val (.ref a1)] [(.ref a2)])) rfl rfl (hb hby d4_11) _ ?_
    rw [len_of Sz3 Ng3]
    show Steps p.tables e below (T2.setTop (mkF m 12 #[.val (.ref a1)] [(.int z2)])) _
    refine XS.ifNo X2.here hx rfl (hb hby d4_12) rfl ((if0 _ _).trans (teq hz).2) ?_
    show Steps p.tables e below (T2.setTop (mkF m 15 #[.val (.ref a1)] [])) _
    refine XS.iconst X2.here hx rfl (hb hby d4_15) ?_
    show Steps p.tables e below (T2.setTop (mkF m 16 #[.val (.ref a1)] [(.int (1 : Int32))])) _
    refine XS.goto X2.here hx rfl (pc0 := 16) (pc' := 20) rfl (hb hby d4_16) (by decide) (by decide) ?_
    show Steps p.tables e below (T2.setTop (mkF m 20 #[.val (.ref a1)] [(.int (1 : Int32))])) _
    exact retN X2 hx (t := .boolean) Bd.returns (by simp) (hb hby d4_20) hr
  · show Q_rm_emz Z a1 a2 k2 z2 vs2 h0 n0 _ T2.heap _
    rw [e2]
    exact ⟨rfl, N0, rfl⟩
theorem ef_rm_emn (m : MethodId) (x0 : Addr) : entryFrame m #[(.ref x0)] 1 = mkF m 0 #[.val (.ref x0)] [] := by first | (simp [entryFrame, mkF, argsToLocals, Value.category]; done) | rfl
def Q_rm_emn (Z : State) (a1 : Addr) (a2 : Addr) (k2 : ClassId) (z2 : Int32) (vs2 : List Value) (h0 : Heap) (n0 : Nat) (v : Option Value) (h : Heap) (L : List Loc) : Prop := v = some (.int (0 : Int32)) ∧ Fr n0 L ∧ h = h0
set_option maxRecDepth 65536 in
set_option maxHeartbeats 40000000 in
theorem rm_emn (l : Launch) (Z : State) (a0 : Array Value) (hw : ∀ d ∈ tables_1, d.before a0 Z = true) (ws : List Jvm.Cond) (a1 : Addr) (a2 : Addr) (k2 : ClassId) (z2 : Int32) (vs2 : List Value) (h0 : Heap) (n0 : Nat) (Z0 : n0 ≤ h0.size) (pr0 : Fld Z h0 a1 "com/example/concordia/concordia/clause/Clause" "literals" "[I" (.ref a2)) (pr1 : Arv Z h0 a2 k2 .int z2 vs2 (.int (0 : Int32))) (hz : ¬ (z2 = (0 : Int32))) :
    MetFree l (⟨"com/example/concordia/concordia/clause/Clause", "isEmpty", "()Z"⟩ : MethodName) (head1 (Jvm.Cond.code (⟨"com/example/concordia/concordia/clause/Clause", "isEmpty", "()Z"⟩ : MethodName) prog_1_method_6_code 1 (some .boolean) :: ws) ({ frames := 0, cells := 0, slots := 0, locals := 0 } : Room)) (fun a U => a = #[(.ref a1)] ∧ Z.Warmed39 U.vm ∧ U.heap = h0) (fun _ _ _ _ _ => True) (fun _ U o U' => ∃ v L, o = .returned v ∧ Q_rm_emn Z a1 a2 k2 z2 vs2 h0 n0 v U'.heap L ∧ FrameEnd U o U' L ({ frames := 0, cells := 0, slots := 0, locals := 0 } : Room).cells ({ frames := 0, cells := 0, slots := 0, locals := 0 } : Room).slots) := by
  refine MetFree.of_bodySF (plainFor_of_name pn_com_example_concordia_concordia_clause_Clause) hisR ?_
  intro p e s m args below meth c s₁ Bd hml0 hP hK
  obtain ⟨rfl, hZ, hh⟩ := hP
  have hx := Bd.exec
  have hby := Bd.bytes
  have hml : c.maxLocals = 1 := hml0
  have hown : s.vm.findClass "com/example/concordia/concordia/clause/Clause" = some m.cls := findClass_of_methodNamed Bd.named
  have hnm := (name_of_methodNamed Bd.named Bd.method).1
  have X0 : Stand p l e ({ frames := 0, cells := 0, slots := 0, locals := 0 } : Room) s m #[(.ref a1)] below meth c s₁ [] 0 0 := Stand.of_body Bd
  have e0 : s₁.heap = h0 := by rw [← hh, Bd.state]; rfl
  have N0 := Fr.nil n0
  have pre0 : ∀ t, Steps p.tables e below (s₁.setTop (mkF m 0 #[.val (.ref a1)] [])) t → Steps p.tables e below (s₁.setTop (entryFrame m #[(.ref a1)] 1)) t := fun t k => castTop (ef_rm_emn m a1) k
  obtain ⟨T1, X1, e1, st1⟩ := getF X0 hx hZ hown (host := "") (Or.inl (hw _ (List.mem_of_getElem? (i := 14) rfl))) Via.refl e0 pr0 (g := (mkF m 1 #[.val (.ref a1)] [(.ref a1)])) rfl rfl (hb hby d4_1)
  obtain ⟨T2, X2, e2, st2⟩ := getF X1 hx hZ hown (host := "") (Or.inl (hw _ (List.mem_of_getElem? (i := 14) rfl))) Via.refl e1 pr0 (g := (mkF m 8 #[.val (.ref a1)] [(.ref a1)])) rfl rfl (hb hby d4_8)
  obtain ⟨cl3, Ar3, q3, Sz3, Ng3, Hs3, Ft3⟩ := id pr1
  obtain ⟨fs, hr, hrun, hended, hW, hsame⟩ := X2.leave (v := some (.int (0 : Int32))) (fun h => by rw [Bd.returns] at h; cases h)
  refine ⟨_, _, pre0 _ ?_, hrun, hended, _, _, rfl, ?_, ⟨_, rfl⟩, hW, hsame.mono (by decide) (by decide)⟩
  · show Steps p.tables e below (s₁.setTop (mkF m 0 #[.val (.ref a1)] [])) _
    refine XS.aloadN X0.here hx rfl (hb hby d4_0) rfl rfl ?_
    show Steps p.tables e below (s₁.setTop (mkF m 1 #[.val (.ref a1)] [(.ref a1)])) _
    refine st1 _ ?_
    show Steps p.tables e below (T1.setTop (mkF m 4 #[.val (.ref a1)] [(.ref a2)])) _
    refine XS.ifnullNo X1.here hx rfl (hb hby d4_4) rfl ?_
    show Steps p.tables e below (T1.setTop (mkF m 7 #[.val (.ref a1)] [])) _
    refine XS.aloadN X1.here hx rfl (hb hby d4_7) rfl rfl ?_
    show Steps p.tables e below (T1.setTop (mkF m 8 #[.val (.ref a1)] [(.ref a1)])) _
    refine st2 _ ?_
    show Steps p.tables e below (T2.setTop (mkF m 11 #[.val (.ref a1)] [(.ref a2)])) _
    refine X2.arraylength hx (by rw [e2]; exact Ar3.1) (State.isArrayOf_alike hZ.alike Ar3.2.1) (g := (mkF m 11 #[.val (.ref a1)] [(.ref a2)])) rfl rfl (hb hby d4_11) _ ?_
    rw [len_of Sz3 Ng3]
    show Steps p.tables e below (T2.setTop (mkF m 12 #[.val (.ref a1)] [(.int z2)])) _
    refine XS.ifYes X2.here hx rfl (pc0 := 12) (pc' := 19) rfl (hb hby d4_12) rfl ((if0 _ _).trans (feq hz).2) (by decide) (by decide) ?_
    show Steps p.tables e below (T2.setTop (mkF m 19 #[.val (.ref a1)] [])) _
    refine XS.iconst X2.here hx rfl (hb hby d4_19) ?_
    show Steps p.tables e below (T2.setTop (mkF m 20 #[.val (.ref a1)] [(.int (0 : Int32))])) _
    exact retN X2 hx (t := .boolean) Bd.returns (by simp) (hb hby d4_20) hr
  · show Q_rm_emn Z a1 a2 k2 z2 vs2 h0 n0 _ T2.heap _
    rw [e2]
    exact ⟨rfl, N0, rfl⟩
theorem d5_0 : decode prog_1_method_5_code 0 = .ok (.aload_n 0, 1) := by decide +kernel
theorem d5_1 : decode prog_1_method_5_code 1 = .ok (.getfield 7, 3) := by decide +kernel
theorem d5_4 : decode prog_1_method_5_code 4 = .ok (.ifnonnull 7, 3) := by decide +kernel
theorem d5_7 : decode prog_1_method_5_code 7 = .ok (.iconst 1, 1) := by decide +kernel
theorem d5_8 : decode prog_1_method_5_code 8 = .ok (.goto 8, 3) := by decide +kernel
theorem d5_16 : decode prog_1_method_5_code 16 = .ok (.ireturn, 1) := by decide +kernel
theorem ef_rm_lc0 (m : MethodId) (x0 : Addr) : entryFrame m #[(.ref x0)] 1 = mkF m 0 #[.val (.ref x0)] [] := by first | (simp [entryFrame, mkF, argsToLocals, Value.category]; done) | rfl
def Q_rm_lc0 (Z : State) (a1 : Addr) (h0 : Heap) (n0 : Nat) (v : Option Value) (h : Heap) (L : List Loc) : Prop := v = some (.int (1 : Int32)) ∧ Fr n0 L ∧ h = h0
set_option maxRecDepth 65536 in
set_option maxHeartbeats 40000000 in
theorem rm_lc0 (l : Launch) (Z : State) (a0 : Array Value) (hw : ∀ d ∈ tables_1, d.before a0 Z = true) (ws : List Jvm.Cond) (a1 : Addr) (h0 : Heap) (n0 : Nat) (Z0 : n0 ≤ h0.size) (pr0 : Fld Z h0 a1 "com/example/concordia/concordia/clause/Clause" "literals" "[I" .null) :
    MetFree l (⟨"com/example/concordia/concordia/clause/Clause", "literalCount", "()I"⟩ : MethodName) (head1 (Jvm.Cond.code (⟨"com/example/concordia/concordia/clause/Clause", "literalCount", "()I"⟩ : MethodName) prog_1_method_5_code 1 (some .int) :: ws) ({ frames := 0, cells := 0, slots := 0, locals := 0 } : Room)) (fun a U => a = #[(.ref a1)] ∧ Z.Warmed39 U.vm ∧ U.heap = h0) (fun _ _ _ _ _ => True) (fun _ U o U' => ∃ v L, o = .returned v ∧ Q_rm_lc0 Z a1 h0 n0 v U'.heap L ∧ FrameEnd U o U' L ({ frames := 0, cells := 0, slots := 0, locals := 0 } : Room).cells ({ frames := 0, cells := 0, slots := 0, locals := 0 } : Room).slots) := by
  refine MetFree.of_bodySF (plainFor_of_name pn_com_example_concordia_concordia_clause_Clause) hisR ?_
  intro p e s m args below meth c s₁ Bd hml0 hP hK
  obtain ⟨rfl, hZ, hh⟩ := hP
  have hx := Bd.exec
  have hby := Bd.bytes
  have hml : c.maxLocals = 1 := hml0
  have hown : s.vm.findClass "com/example/concordia/concordia/clause/Clause" = some m.cls := findClass_of_methodNamed Bd.named
  have hnm := (name_of_methodNamed Bd.named Bd.method).1
  have X0 : Stand p l e ({ frames := 0, cells := 0, slots := 0, locals := 0 } : Room) s m #[(.ref a1)] below meth c s₁ [] 0 0 := Stand.of_body Bd
  have e0 : s₁.heap = h0 := by rw [← hh, Bd.state]; rfl
  have N0 := Fr.nil n0
  have pre0 : ∀ t, Steps p.tables e below (s₁.setTop (mkF m 0 #[.val (.ref a1)] [])) t → Steps p.tables e below (s₁.setTop (entryFrame m #[(.ref a1)] 1)) t := fun t k => castTop (ef_rm_lc0 m a1) k
  obtain ⟨T1, X1, e1, st1⟩ := getF X0 hx hZ hown (host := "") (Or.inl (hw _ (List.mem_of_getElem? (i := 14) rfl))) Via.refl e0 pr0 (g := (mkF m 1 #[.val (.ref a1)] [(.ref a1)])) rfl rfl (hb hby d5_1)
  obtain ⟨fs, hr, hrun, hended, hW, hsame⟩ := X1.leave (v := some (.int (1 : Int32))) (fun h => by rw [Bd.returns] at h; cases h)
  refine ⟨_, _, pre0 _ ?_, hrun, hended, _, _, rfl, ?_, ⟨_, rfl⟩, hW, hsame.mono (by decide) (by decide)⟩
  · show Steps p.tables e below (s₁.setTop (mkF m 0 #[.val (.ref a1)] [])) _
    refine XS.aloadN X0.here hx rfl (hb hby d5_0) rfl rfl ?_
    show Steps p.tables e below (s₁.setTop (mkF m 1 #[.val (.ref a1)] [(.ref a1)])) _
    refine st1 _ ?_
    show Steps p.tables e below (T1.setTop (mkF m 4 #[.val (.ref a1)] [.null])) _
    refine XS.ifnonnullNo X1.here hx rfl (hb hby d5_4) rfl ?_
    show Steps p.tables e below (T1.setTop (mkF m 7 #[.val (.ref a1)] [])) _
    refine XS.iconst X1.here hx rfl (hb hby d5_7) ?_
    show Steps p.tables e below (T1.setTop (mkF m 8 #[.val (.ref a1)] [(.int (1 : Int32))])) _
    refine XS.goto X1.here hx rfl (pc0 := 8) (pc' := 16) rfl (hb hby d5_8) (by decide) (by decide) ?_
    show Steps p.tables e below (T1.setTop (mkF m 16 #[.val (.ref a1)] [(.int (1 : Int32))])) _
    exact retI X1 hx Bd.returns (hb hby d5_16) hr
  · show Q_rm_lc0 Z a1 h0 n0 _ T1.heap _
    rw [e1]
    exact ⟨rfl, N0, rfl⟩
theorem d5_11 : decode prog_1_method_5_code 11 = .ok (.aload_n 0, 1) := by decide +kernel
theorem d5_12 : decode prog_1_method_5_code 12 = .ok (.getfield 7, 3) := by decide +kernel
theorem d5_15 : decode prog_1_method_5_code 15 = .ok (.arraylength, 1) := by decide +kernel
theorem ef_rm_lc (m : MethodId) (x0 : Addr) : entryFrame m #[(.ref x0)] 1 = mkF m 0 #[.val (.ref x0)] [] := by first | (simp [entryFrame, mkF, argsToLocals, Value.category]; done) | rfl
def Q_rm_lc (Z : State) (a1 : Addr) (a2 : Addr) (k2 : ClassId) (z2 : Int32) (vs2 : List Value) (h0 : Heap) (n0 : Nat) (v : Option Value) (h : Heap) (L : List Loc) : Prop := v = some (.int z2) ∧ Fr n0 L ∧ h = h0
set_option maxRecDepth 65536 in
set_option maxHeartbeats 40000000 in
theorem rm_lc (l : Launch) (Z : State) (a0 : Array Value) (hw : ∀ d ∈ tables_1, d.before a0 Z = true) (ws : List Jvm.Cond) (a1 : Addr) (a2 : Addr) (k2 : ClassId) (z2 : Int32) (vs2 : List Value) (h0 : Heap) (n0 : Nat) (Z0 : n0 ≤ h0.size) (pr0 : Fld Z h0 a1 "com/example/concordia/concordia/clause/Clause" "literals" "[I" (.ref a2)) (pr1 : Arv Z h0 a2 k2 .int z2 vs2 (.int (0 : Int32))) :
    MetFree l (⟨"com/example/concordia/concordia/clause/Clause", "literalCount", "()I"⟩ : MethodName) (head1 (Jvm.Cond.code (⟨"com/example/concordia/concordia/clause/Clause", "literalCount", "()I"⟩ : MethodName) prog_1_method_5_code 1 (some .int) :: ws) ({ frames := 0, cells := 0, slots := 0, locals := 0 } : Room)) (fun a U => a = #[(.ref a1)] ∧ Z.Warmed39 U.vm ∧ U.heap = h0) (fun _ _ _ _ _ => True) (fun _ U o U' => ∃ v L, o = .returned v ∧ Q_rm_lc Z a1 a2 k2 z2 vs2 h0 n0 v U'.heap L ∧ FrameEnd U o U' L ({ frames := 0, cells := 0, slots := 0, locals := 0 } : Room).cells ({ frames := 0, cells := 0, slots := 0, locals := 0 } : Room).slots) := by
  refine MetFree.of_bodySF (plainFor_of_name pn_com_example_concordia_concordia_clause_Clause) hisR ?_
  intro p e s m args below meth c s₁ Bd hml0 hP hK
  obtain ⟨rfl, hZ, hh⟩ := hP
  have hx := Bd.exec
  have hby := Bd.bytes
  have hml : c.maxLocals = 1 := hml0
  have hown : s.vm.findClass "com/example/concordia/concordia/clause/Clause" = some m.cls := findClass_of_methodNamed Bd.named
  have hnm := (name_of_methodNamed Bd.named Bd.method).1
  have X0 : Stand p l e ({ frames := 0, cells := 0, slots := 0, locals := 0 } : Room) s m #[(.ref a1)] below meth c s₁ [] 0 0 := Stand.of_body Bd
  have e0 : s₁.heap = h0 := by rw [← hh, Bd.state]; rfl
  have N0 := Fr.nil n0
  have pre0 : ∀ t, Steps p.tables e below (s₁.setTop (mkF m 0 #[.val (.ref a1)] [])) t → Steps p.tables e below (s₁.setTop (entryFrame m #[(.ref a1)] 1)) t := fun t k => castTop (ef_rm_lc m a1) k
  obtain ⟨T1, X1, e1, st1⟩ := getF X0 hx hZ hown (host := "") (Or.inl (hw _ (List.mem_of_getElem? (i := 14) rfl))) Via.refl e0 pr0 (g := (mkF m 1 #[.val (.ref a1)] [(.ref a1)])) rfl rfl (hb hby d5_1)
  obtain ⟨T2, X2, e2, st2⟩ := getF X1 hx hZ hown (host := "") (Or.inl (hw _ (List.mem_of_getElem? (i := 14) rfl))) Via.refl e1 pr0 (g := (mkF m 12 #[.val (.ref a1)] [(.ref a1)])) rfl rfl (hb hby d5_12)
  obtain ⟨cl3, Ar3, q3, Sz3, Ng3, Hs3, Ft3⟩ := id pr1
  obtain ⟨fs, hr, hrun, hended, hW, hsame⟩ := X2.leave (v := some (.int z2)) (fun h => by rw [Bd.returns] at h; cases h)
  refine ⟨_, _, pre0 _ ?_, hrun, hended, _, _, rfl, ?_, ⟨_, rfl⟩, hW, hsame.mono (by decide) (by decide)⟩
  · show Steps p.tables e below (s₁.setTop (mkF m 0 #[.val (.ref a1)] [])) _
    refine XS.aloadN X0.here hx rfl (hb hby d5_0) rfl rfl ?_
    show Steps p.tables e below (s₁.setTop (mkF m 1 #[.val (.ref a1)] [(.ref a1)])) _
    refine st1 _ ?_
    show Steps p.tables e below (T1.setTop (mkF m 4 #[.val (.ref a1)] [(.ref a2)])) _
    refine XS.ifnonnullYes X1.here hx rfl (pc0 := 4) (pc' := 11) rfl (hb hby d5_4) rfl (by decide) (by decide) ?_
    show Steps p.tables e below (T1.setTop (mkF m 11 #[.val (.ref a1)] [])) _
    refine XS.aloadN X1.here hx rfl (hb hby d5_11) rfl rfl ?_
    show Steps p.tables e below (T1.setTop (mkF m 12 #[.val (.ref a1)] [(.ref a1)])) _
    refine st2 _ ?_
    show Steps p.tables e below (T2.setTop (mkF m 15 #[.val (.ref a1)] [(.ref a2)])) _
    refine X2.arraylength hx (by rw [e2]; exact Ar3.1) (State.isArrayOf_alike hZ.alike Ar3.2.1) (g := (mkF m 15 #[.val (.ref a1)] [(.ref a2)])) rfl rfl (hb hby d5_15) _ ?_
    rw [len_of Sz3 Ng3]
    show Steps p.tables e below (T2.setTop (mkF m 16 #[.val (.ref a1)] [(.int z2)])) _
    exact retI X2 hx Bd.returns (hb hby d5_16) hr
  · show Q_rm_lc Z a1 a2 k2 z2 vs2 h0 n0 _ T2.heap _
    rw [e2]
    exact ⟨rfl, N0, rfl⟩
theorem pd__40IIII_41_91I : parseMethodDescriptor "(IIII)[I" = some ⟨[.int, .int, .int, .int], some (.array .int)⟩ := by decide +kernel
theorem pd__40_91IIIZJ_41V : parseMethodDescriptor "([IIIZJ)V" = some ⟨[(.array .int), .int, .int, .boolean, .long], none⟩ := by decide +kernel
theorem pd__40_41Z : parseMethodDescriptor "()Z" = some ⟨[], some .boolean⟩ := by decide +kernel
theorem pd__40_41I : parseMethodDescriptor "()I" = some ⟨[], some .int⟩ := by decide +kernel
theorem ef_rm0 (m : MethodId) (x0 : Int32) (x1 : Int32) (x2 : Int32) (x3 : Int32) (x4 : Int32) (x5 : Int64) : entryFrame m #[(.int x0), (.int x1), (.int x2), (.int x3), (.int x4), (.long x5)] maxLocals = mkF m 0 #[.val (.int x0), .val (.int x1), .val (.int x2), .val (.int x3), .val (.int x4), .val (.long x5), .second, .unset, .unset, .unset, .unset, .unset, .unset, .unset] [] := by first | (simp [entryFrame, mkF, argsToLocals, Value.category, maxLocals]; done) | rfl
def Q_rm0 (Z : State) (p1 : Int32) (p2 : Int32) (p3 : Int32) (p4 : Int32) (p5 : Int32) (q6 : Int64) (h0 : Heap) (n0 : Nat) (v : Option Value) (h : Heap) (L : List Loc) : Prop := v = some (.int (1 : Int32)) ∧ Fr n0 L
set_option maxRecDepth 65536 in
set_option maxHeartbeats 40000000 in
theorem rm0 (l : Launch) (Z : State) (a0 : Array Value) (hw : ∀ d ∈ tables_1, d.before a0 Z = true) (ws : List Jvm.Cond) (p1 : Int32) (p2 : Int32) (p3 : Int32) (p4 : Int32) (p5 : Int32) (q6 : Int64) (h0 : Heap) (n0 : Nat) (Z0 : n0 ≤ h0.size) :
    MetFree l x (head1 (Jvm.Cond.code x code maxLocals ret :: ws) room_1) (fun a U => a = #[(.int p1), (.int p2), (.int p3), (.int p4), (.int p5), (.long q6)] ∧ Z.Warmed39 U.vm ∧ U.heap = h0) (fun _ _ _ _ _ => True) (fun _ U o U' => ∃ v L, o = .returned v ∧ Q_rm0 Z p1 p2 p3 p4 p5 q6 h0 n0 v U'.heap L ∧ FrameEnd U o U' L room_1.cells room_1.slots) := by
  refine MetFree.of_bodySF (plainFor_of_name pn_com_example_concordia_concordia_clause_ClauseIsEmptyPinLaw) hisR ?_
  intro p e s m args below meth c s₁ Bd hml0 hP hK
  obtain ⟨rfl, hZ, hh⟩ := hP
  have hx := Bd.exec
  have hby := Bd.bytes
  have hml : c.maxLocals = 14 := hml0
  have hown : s.vm.findClass "com/example/concordia/concordia/clause/ClauseIsEmptyPinLaw" = some m.cls := findClass_of_methodNamed Bd.named
  have hnm := (name_of_methodNamed Bd.named Bd.method).1
  have X0 : Stand p l e room_1 s m #[(.int p1), (.int p2), (.int p3), (.int p4), (.int p5), (.long q6)] below meth c s₁ [] 0 0 := Stand.of_body Bd
  have e0 : s₁.heap = h0 := by rw [← hh, Bd.state]; rfl
  have N0 := Fr.nil n0
  have pre0 : ∀ t, Steps p.tables e below (s₁.setTop (mkF m 0 #[.val (.int p1), .val (.int p2), .val (.int p3), .val (.int p4), .val (.int p5), .val (.long q6), .second, .unset, .unset, .unset, .unset, .unset, .unset, .unset] [])) t → Steps p.tables e below (s₁.setTop (entryFrame m #[(.int p1), (.int p2), (.int p3), (.int p4), (.int p5), (.long q6)] maxLocals)) t := fun t k => castTop (ef_rm0 m p1 p2 p3 p4 p5 q6) k
  by_cases hc1 : (p1 &&& (4 : Int32)) = (0 : Int32)
  · by_cases hc2 : (p1 &&& (3 : Int32)) = (0 : Int32)
    · obtain ⟨_, _, ⟨T1, L1, k1, n1⟩, -, X1, ⟨Lc1, hQ1, l1, y1, z1⟩, st1⟩ := Jvm.LawKit.callS X0 hx (y := (⟨"com/example/concordia/concordia/clause/ClauseIsEmptyPinLaw", "literalsOf", "(IIII)[I"⟩ : MethodName)) hown (mvT hZ (hw _ (List.mem_of_getElem? (i := 0) rfl))) (mvT hZ (hw _ (List.mem_of_getElem? (i := 1) rfl))) (mvT hZ (hw _ (List.mem_of_getElem? (i := 2) rfl))) (mvT hZ (hw _ (List.mem_of_getElem? (i := 3) rfl))) (by decide) (backOf (W := 0) (rm_lit0 l Z a0 hw [] (p1 &&& (3 : Int32)) p2 p3 p4 h0 n0 Z0 hc2) hZ (hw _ (List.mem_of_getElem? (i := 3) rfl)) (hw _ (List.mem_of_getElem? (i := 2) rfl)) (by decide) (by decide)) (g := (mkF m 28 #[.val (.int p1), .val (.int p2), .val (.int p3), .val (.int p4), .val (.int p5), .val (.long q6), .second, .val (.int (p1 &&& (3 : Int32))), .val (.int (0 : Int32)), .val (.int (p1 >>> ((3 : Int32) &&& 31))), .unset, .unset, .unset, .unset] [(.int p4), (.int p3), (.int p2), (.int (p1 &&& (3 : Int32)))])) rfl (by rw [hml]; rfl) (argsL := [(.int (p1 &&& (3 : Int32))), (.int p2), (.int p3), (.int p4)]) (rest := []) (lenOf pd__40IIII_41_91I rfl) rfl (by show 2 * 0 + _ ≤ _; exact Nat.le_of_eq rfl) (hb hby at_28) (fun _ _ => ⟨rfl, e0, (by decide : 0 + 1 ≤ _), (by decide : 0 + 0 ≤ _)⟩)
      dsimp only [Pt.U, Pt.locs, Pt.cells, Pt.slots] at X1 l1 y1 z1 st1 hQ1
      subst l1 y1 z1
      obtain ⟨r_1, k_1, rfl, Nq1, Kc1, p1_0, p1_1⟩ := hQ1
      have gzr_1 : h0.size ≤ r_1 := Nat.le_trans (Keep.refl h0 []).1 p1_0
      have gnr_1 : n0 ≤ r_1 := Nat.le_trans Z0 gzr_1
      have K3 : Keep h0 T1.heap [] := (Keep.refl h0 []).trans Kc1 all0
      have N1 := Fr.app N0 Nq1
      obtain ⟨T4, h4, X4, e4, E4, A4, D4, -, st4⟩ := newO X1 hx hZ hown (hw _ (List.mem_of_getElem? (i := 5) rfl)) (hw _ (List.mem_of_getElem? (i := 6) rfl)) (hw _ (List.mem_of_getElem? (i := 7) rfl)) rfl (g := (mkF m 33 #[.val (.int p1), .val (.int p2), .val (.int p3), .val (.int p4), .val (.int p5), .val (.long q6), .second, .val (.int (p1 &&& (3 : Int32))), .val (.int (0 : Int32)), .val (.int (p1 >>> ((3 : Int32) &&& 31))), .val (.ref r_1), .unset, .unset, .unset] [])) rfl (hb hby at_33) (by decide) (by decide)
      obtain ⟨b4, g4⟩ : ∃ z, z = T1.heap.size := ⟨_, rfl⟩
      rw [← g4] at A4 D4 st4
      have gnb4 : n0 ≤ b4 := Nat.le_trans (Nat.le_trans Z0 K3.1) (Nat.le_of_eq g4.symm)
      have gzb4 : h0.size ≤ b4 := Nat.le_trans K3.1 (Nat.le_of_eq g4.symm)
      have K5 : Keep h0 h4 [] := K3.ext E4
      have f6 : Fld Z h4 b4 "com/example/concordia/concordia/clause/Clause" "literals" "[I" .null := D4 (Or.inr (hw _ (List.mem_of_getElem? (i := 15) rfl))) (ty := (.array .int)) (by decide)
      have f7 : Fld Z h4 b4 "com/example/concordia/concordia/clause/Clause" "unit" "I" (.int (0 : Int32)) := D4 (Or.inr (hw _ (List.mem_of_getElem? (i := 17) rfl))) (ty := .int) (by decide)
      have f8 : Fld Z h4 b4 "com/example/concordia/concordia/clause/Clause" "weight" "I" (.int (0 : Int32)) := D4 (Or.inr (hw _ (List.mem_of_getElem? (i := 19) rfl))) (ty := .int) (by decide)
      have f9 : Fld Z h4 b4 "com/example/concordia/concordia/clause/Clause" "variableCount" "I" (.int (0 : Int32)) := D4 (Or.inr (hw _ (List.mem_of_getElem? (i := 21) rfl))) (ty := .int) (by decide)
      have f10 : Fld Z h4 b4 "com/example/concordia/concordia/clause/Clause" "tautology" "Z" (.int (0 : Int32)) := D4 (Or.inr (hw _ (List.mem_of_getElem? (i := 23) rfl))) (ty := .boolean) (by decide)
      have f11 : Fld Z h4 b4 "com/example/concordia/concordia/clause/Clause" "signature" "J" (.long (0 : Int64)) := D4 (Or.inr (hw _ (List.mem_of_getElem? (i := 25) rfl))) (ty := .long) (by decide)
      have f12 : Arv Z h4 r_1 k_1 .int (0 : Int32) [] (.int (0 : Int32)) := (p1_1.ext E4)
      obtain ⟨_, _, ⟨T13, L13, k13, n13⟩, -, X13, ⟨Lc13, hQ13, l13, y13, z13⟩, st13⟩ := X4.specialBack hx (y := (⟨"com/example/concordia/concordia/clause/Clause", "<init>", "([IIIZJ)V"⟩ : MethodName)) rfl hown (mvT hZ (hw _ (List.mem_of_getElem? (i := 8) rfl))) (mvT hZ (hw _ (List.mem_of_getElem? (i := 9) rfl))) (mvT hZ (hw _ (List.mem_of_getElem? (i := 10) rfl))) (by decide) (backOf (W := 1) (rm_inin l Z a0 hw [] b4 r_1 p5 (p1 >>> ((3 : Int32) &&& 31)) (0 : Int32) q6 .null (.int (0 : Int32)) (.int (0 : Int32)) (.int (0 : Int32)) (.int (0 : Int32)) (.long (0 : Int64)) k_1 (0 : Int32) [] h4 n0 (Nat.le_trans Z0 K5.1) A4 f6 f7 f8 f9 f10 f11 gnb4 f12 (by decide : ¬ ((0 : Int32) = (1 : Int32)))) hZ (hw _ (List.mem_of_getElem? (i := 10) rfl)) (hw _ (List.mem_of_getElem? (i := 7) rfl)) (by decide) (by decide)) (g := (mkF m 47 #[.val (.int p1), .val (.int p2), .val (.int p3), .val (.int p4), .val (.int p5), .val (.long q6), .second, .val (.int (p1 &&& (3 : Int32))), .val (.int (0 : Int32)), .val (.int (p1 >>> ((3 : Int32) &&& 31))), .val (.ref r_1), .unset, .unset, .unset] [(.long q6), (.int (0 : Int32)), (.int (p1 >>> ((3 : Int32) &&& 31))), (.int p5), (.ref r_1), (.ref b4), (.ref b4)])) rfl (by rw [hml]; rfl) (Steps.refl _) (a := b4) (argsL := [(.ref r_1), (.int p5), (.int (p1 >>> ((3 : Int32) &&& 31))), (.int (0 : Int32)), (.long q6)]) (rest := [(.ref b4)]) (lenOf pd__40_91IIIZJ_41V rfl) rfl (by show 2 * 0 + _ ≤ _; exact Nat.le_of_eq rfl) (hb hby at_47) (fun _ _ => ⟨rfl, e4, (by decide : 2 + 0 ≤ _), (by decide : 6 + 0 ≤ _)⟩)
      dsimp only [Pt.U, Pt.locs, Pt.cells, Pt.slots] at X13 l13 y13 z13 st13 hQ13
      subst l13 y13 z13
      obtain ⟨rfl, Nq13, Kc13, p13_0⟩ := hQ13
      have K14 : Keep h0 T13.heap [] := K5.trans Kc13 (allS (Or.inr gzb4) all0)
      have N13 := Fr.app N1 Nq13
      have f15 : Arv Z T13.heap r_1 k_1 .int (0 : Int32) [] (.int (0 : Int32)) := (f12.keep Kc13 (ninS (Nat.ne_of_lt (Nat.lt_of_lt_of_le p1_1.lt (Nat.le_of_eq g4.symm))) nin0))
      have f17 : Exa Z T13.heap b4 "com/example/concordia/concordia/clause/Clause" := (A4.keep Kc13)
      obtain ⟨cq16, kq16, q16a, q16b, q16c⟩ := isOf hZ rfl f17
      obtain ⟨_, _, ⟨T16, L16, k16, n16⟩, -, X16, ⟨Lc16, hQ16, l16, y16, z16⟩, st16⟩ := X13.virtualBack hx (y := (⟨"com/example/concordia/concordia/clause/Clause", "isEmpty", "()Z"⟩ : MethodName)) (z := (⟨"com/example/concordia/concordia/clause/Clause", "isEmpty", "()Z"⟩ : MethodName)) hown (mvT hZ (hw _ (List.mem_of_getElem? (i := 26) rfl))) (mvT hZ (hw _ (List.mem_of_getElem? (i := 27) rfl))) (notFace_of_selects (args := #[]) (mvT hZ (hw _ (List.mem_of_getElem? (i := 29) rfl)))) (mvT hZ (hw _ (List.mem_of_getElem? (i := 29) rfl))) (mvT hZ (hw _ (List.mem_of_getElem? (i := 28) rfl))) (by decide) (backOf (W := 0) (rm_emz l Z a0 hw [] b4 r_1 k_1 (0 : Int32) [] T13.heap n0 (Nat.le_trans Z0 K14.1) p13_0 f15 (by decide : (0 : Int32) = (0 : Int32))) hZ (hw _ (List.mem_of_getElem? (i := 30) rfl)) (hw _ (List.mem_of_getElem? (i := 7) rfl)) (by decide) (by decide)) q16a q16c (g := (mkF m 54 #[.val (.int p1), .val (.int p2), .val (.int p3), .val (.int p4), .val (.int p5), .val (.long q6), .second, .val (.int (p1 &&& (3 : Int32))), .val (.int (0 : Int32)), .val (.int (p1 >>> ((3 : Int32) &&& 31))), .val (.ref r_1), .val (.ref b4), .unset, .unset] [(.ref b4)])) rfl (by rw [hml]; rfl) (Steps.refl _) (argsL := []) (rest := []) (lenOf pd__40_41Z rfl) rfl (by show 2 * 0 + _ ≤ _; exact Nat.le_of_eq rfl) (hb hby at_54) (fun _ _ => ⟨rfl, rfl, (by decide : 2 + 0 ≤ _), (by decide : 6 + 0 ≤ _)⟩)
      dsimp only [Pt.U, Pt.locs, Pt.cells, Pt.slots] at X16 l16 y16 z16 st16 hQ16
      subst l16 y16 z16
      obtain ⟨rfl, Nq16, e16⟩ := hQ16
      have N16 := Fr.app N13 Nq16
      obtain ⟨cq18, kq18, q18a, q18b, q18c⟩ := isOf hZ e16 f17
      obtain ⟨_, _, ⟨T18, L18, k18, n18⟩, -, X18, ⟨Lc18, hQ18, l18, y18, z18⟩, st18⟩ := X16.virtualBack hx (y := (⟨"com/example/concordia/concordia/clause/Clause", "literalCount", "()I"⟩ : MethodName)) (z := (⟨"com/example/concordia/concordia/clause/Clause", "literalCount", "()I"⟩ : MethodName)) hown (mvT hZ (hw _ (List.mem_of_getElem? (i := 31) rfl))) (mvT hZ (hw _ (List.mem_of_getElem? (i := 32) rfl))) (notFace_of_selects (args := #[]) (mvT hZ (hw _ (List.mem_of_getElem? (i := 34) rfl)))) (mvT hZ (hw _ (List.mem_of_getElem? (i := 34) rfl))) (mvT hZ (hw _ (List.mem_of_getElem? (i := 33) rfl))) (by decide) (backOf (W := 0) (rm_lc l Z a0 hw [] b4 r_1 k_1 (0 : Int32) [] T13.heap n0 (Nat.le_trans Z0 K14.1) p13_0 f15) hZ (hw _ (List.mem_of_getElem? (i := 35) rfl)) (hw _ (List.mem_of_getElem? (i := 7) rfl)) (by decide) (by decide)) q18a q18c (g := (mkF m 61 #[.val (.int p1), .val (.int p2), .val (.int p3), .val (.int p4), .val (.int p5), .val (.long q6), .second, .val (.int (p1 &&& (3 : Int32))), .val (.int (0 : Int32)), .val (.int (p1 >>> ((3 : Int32) &&& 31))), .val (.ref r_1), .val (.ref b4), .val (.int (1 : Int32)), .unset] [(.ref b4)])) rfl (by rw [hml]; rfl) (Steps.refl _) (argsL := []) (rest := []) (lenOf pd__40_41I rfl) rfl (by show 2 * 0 + _ ≤ _; exact Nat.le_of_eq rfl) (hb hby at_61) (fun _ _ => ⟨rfl, e16, (by decide : 2 + 0 ≤ _), (by decide : 6 + 0 ≤ _)⟩)
      dsimp only [Pt.U, Pt.locs, Pt.cells, Pt.slots] at X18 l18 y18 z18 st18 hQ18
      subst l18 y18 z18
      obtain ⟨rfl, Nq18, e18⟩ := hQ18
      have N18 := Fr.app N16 Nq18
      obtain ⟨fs, hr, hrun, hended, hW, hsame⟩ := X18.leave (v := some (.int (1 : Int32))) (fun h => by rw [Bd.returns] at h; cases h)
      refine ⟨_, _, pre0 _ ?_, hrun, hended, _, _, rfl, ?_, ⟨_, rfl⟩, hW, hsame.mono (by decide) (by decide)⟩
      · show Steps p.tables e below (s₁.setTop (mkF m 0 #[.val (.int p1), .val (.int p2), .val (.int p3), .val (.int p4), .val (.int p5), .val (.long q6), .second, .unset, .unset, .unset, .unset, .unset, .unset, .unset] [])) _
        refine XS.iloadN X0.here hx rfl (hb hby at_0) rfl ?_
        show Steps p.tables e below (s₁.setTop (mkF m 1 #[.val (.int p1), .val (.int p2), .val (.int p3), .val (.int p4), .val (.int p5), .val (.long q6), .second, .unset, .unset, .unset, .unset, .unset, .unset, .unset] [(.int p1)])) _
        refine XS.iconst X0.here hx rfl (hb hby at_1) ?_
        show Steps p.tables e below (s₁.setTop (mkF m 2 #[.val (.int p1), .val (.int p2), .val (.int p3), .val (.int p4), .val (.int p5), .val (.long q6), .second, .unset, .unset, .unset, .unset, .unset, .unset, .unset] [(.int (3 : Int32)), (.int p1)])) _
        refine XS.iand X0.here hx rfl (hb hby at_2) rfl ?_
        show Steps p.tables e below (s₁.setTop (mkF m 3 #[.val (.int p1), .val (.int p2), .val (.int p3), .val (.int p4), .val (.int p5), .val (.long q6), .second, .unset, .unset, .unset, .unset, .unset, .unset, .unset] [(.int (p1 &&& (3 : Int32)))])) _
        refine XS.istore X0.here hx rfl (hb hby at_3) rfl (l' := #[.val (.int p1), .val (.int p2), .val (.int p3), .val (.int p4), .val (.int p5), .val (.long q6), .second, .val (.int (p1 &&& (3 : Int32))), .unset, .unset, .unset, .unset, .unset, .unset]) rfl ?_
        show Steps p.tables e below (s₁.setTop (mkF m 5 #[.val (.int p1), .val (.int p2), .val (.int p3), .val (.int p4), .val (.int p5), .val (.long q6), .second, .val (.int (p1 &&& (3 : Int32))), .unset, .unset, .unset, .unset, .unset, .unset] [])) _
        refine XS.iloadN X0.here hx rfl (hb hby at_5) rfl ?_
        show Steps p.tables e below (s₁.setTop (mkF m 6 #[.val (.int p1), .val (.int p2), .val (.int p3), .val (.int p4), .val (.int p5), .val (.long q6), .second, .val (.int (p1 &&& (3 : Int32))), .unset, .unset, .unset, .unset, .unset, .unset] [(.int p1)])) _
        refine XS.iconst X0.here hx rfl (hb hby at_6) ?_
        show Steps p.tables e below (s₁.setTop (mkF m 7 #[.val (.int p1), .val (.int p2), .val (.int p3), .val (.int p4), .val (.int p5), .val (.long q6), .second, .val (.int (p1 &&& (3 : Int32))), .unset, .unset, .unset, .unset, .unset, .unset] [(.int (4 : Int32)), (.int p1)])) _
        refine XS.iand X0.here hx rfl (hb hby at_7) rfl ?_
        show Steps p.tables e below (s₁.setTop (mkF m 8 #[.val (.int p1), .val (.int p2), .val (.int p3), .val (.int p4), .val (.int p5), .val (.long q6), .second, .val (.int (p1 &&& (3 : Int32))), .unset, .unset, .unset, .unset, .unset, .unset] [(.int (p1 &&& (4 : Int32)))])) _
        refine XS.ifYes X0.here hx rfl (pc0 := 8) (pc' := 15) rfl (hb hby at_8) rfl ((if0 _ _).trans (teq hc1).1) (by decide) (by decide) ?_
        show Steps p.tables e below (s₁.setTop (mkF m 15 #[.val (.int p1), .val (.int p2), .val (.int p3), .val (.int p4), .val (.int p5), .val (.long q6), .second, .val (.int (p1 &&& (3 : Int32))), .unset, .unset, .unset, .unset, .unset, .unset] [])) _
        refine XS.iconst X0.here hx rfl (hb hby at_15) ?_
        show Steps p.tables e below (s₁.setTop (mkF m 16 #[.val (.int p1), .val (.int p2), .val (.int p3), .val (.int p4), .val (.int p5), .val (.long q6), .second, .val (.int (p1 &&& (3 : Int32))), .unset, .unset, .unset, .unset, .unset, .unset] [(.int (0 : Int32))])) _
        refine XS.istore X0.here hx rfl (hb hby at_16) rfl (l' := #[.val (.int p1), .val (.int p2), .val (.int p3), .val (.int p4), .val (.int p5), .val (.long q6), .second, .val (.int (p1 &&& (3 : Int32))), .val (.int (0 : Int32)), .unset, .unset, .unset, .unset, .unset]) rfl ?_
        show Steps p.tables e below (s₁.setTop (mkF m 18 #[.val (.int p1), .val (.int p2), .val (.int p3), .val (.int p4), .val (.int p5), .val (.long q6), .second, .val (.int (p1 &&& (3 : Int32))), .val (.int (0 : Int32)), .unset, .unset, .unset, .unset, .unset] [])) _
        refine XS.iloadN X0.here hx rfl (hb hby at_18) rfl ?_
        show Steps p.tables e below (s₁.setTop (mkF m 19 #[.val (.int p1), .val (.int p2), .val (.int p3), .val (.int p4), .val (.int p5), .val (.long q6), .second, .val (.int (p1 &&& (3 : Int32))), .val (.int (0 : Int32)), .unset, .unset, .unset, .unset, .unset] [(.int p1)])) _
        refine XS.iconst X0.here hx rfl (hb hby at_19) ?_
        show Steps p.tables e below (s₁.setTop (mkF m 20 #[.val (.int p1), .val (.int p2), .val (.int p3), .val (.int p4), .val (.int p5), .val (.long q6), .second, .val (.int (p1 &&& (3 : Int32))), .val (.int (0 : Int32)), .unset, .unset, .unset, .unset, .unset] [(.int (3 : Int32)), (.int p1)])) _
        refine XS.ishr X0.here hx rfl (hb hby at_20) rfl ?_
        show Steps p.tables e below (s₁.setTop (mkF m 21 #[.val (.int p1), .val (.int p2), .val (.int p3), .val (.int p4), .val (.int p5), .val (.long q6), .second, .val (.int (p1 &&& (3 : Int32))), .val (.int (0 : Int32)), .unset, .unset, .unset, .unset, .unset] [(.int (p1 >>> ((3 : Int32) &&& 31)))])) _
        refine XS.istore X0.here hx rfl (hb hby at_21) rfl (l' := #[.val (.int p1), .val (.int p2), .val (.int p3), .val (.int p4), .val (.int p5), .val (.long q6), .second, .val (.int (p1 &&& (3 : Int32))), .val (.int (0 : Int32)), .val (.int (p1 >>> ((3 : Int32) &&& 31))), .unset, .unset, .unset, .unset]) rfl ?_
        show Steps p.tables e below (s₁.setTop (mkF m 23 #[.val (.int p1), .val (.int p2), .val (.int p3), .val (.int p4), .val (.int p5), .val (.long q6), .second, .val (.int (p1 &&& (3 : Int32))), .val (.int (0 : Int32)), .val (.int (p1 >>> ((3 : Int32) &&& 31))), .unset, .unset, .unset, .unset] [])) _
        refine XS.iload X0.here hx rfl (hb hby at_23) rfl ?_
        show Steps p.tables e below (s₁.setTop (mkF m 25 #[.val (.int p1), .val (.int p2), .val (.int p3), .val (.int p4), .val (.int p5), .val (.long q6), .second, .val (.int (p1 &&& (3 : Int32))), .val (.int (0 : Int32)), .val (.int (p1 >>> ((3 : Int32) &&& 31))), .unset, .unset, .unset, .unset] [(.int (p1 &&& (3 : Int32)))])) _
        refine XS.iloadN X0.here hx rfl (hb hby at_25) rfl ?_
        show Steps p.tables e below (s₁.setTop (mkF m 26 #[.val (.int p1), .val (.int p2), .val (.int p3), .val (.int p4), .val (.int p5), .val (.long q6), .second, .val (.int (p1 &&& (3 : Int32))), .val (.int (0 : Int32)), .val (.int (p1 >>> ((3 : Int32) &&& 31))), .unset, .unset, .unset, .unset] [(.int p2), (.int (p1 &&& (3 : Int32)))])) _
        refine XS.iloadN X0.here hx rfl (hb hby at_26) rfl ?_
        show Steps p.tables e below (s₁.setTop (mkF m 27 #[.val (.int p1), .val (.int p2), .val (.int p3), .val (.int p4), .val (.int p5), .val (.long q6), .second, .val (.int (p1 &&& (3 : Int32))), .val (.int (0 : Int32)), .val (.int (p1 >>> ((3 : Int32) &&& 31))), .unset, .unset, .unset, .unset] [(.int p3), (.int p2), (.int (p1 &&& (3 : Int32)))])) _
        refine XS.iloadN X0.here hx rfl (hb hby at_27) rfl ?_
        show Steps p.tables e below (s₁.setTop (mkF m 28 #[.val (.int p1), .val (.int p2), .val (.int p3), .val (.int p4), .val (.int p5), .val (.long q6), .second, .val (.int (p1 &&& (3 : Int32))), .val (.int (0 : Int32)), .val (.int (p1 >>> ((3 : Int32) &&& 31))), .unset, .unset, .unset, .unset] [(.int p4), (.int p3), (.int p2), (.int (p1 &&& (3 : Int32)))])) _
        refine st1 _ ?_
        show Steps p.tables e below (T1.setTop (mkF m 31 #[.val (.int p1), .val (.int p2), .val (.int p3), .val (.int p4), .val (.int p5), .val (.long q6), .second, .val (.int (p1 &&& (3 : Int32))), .val (.int (0 : Int32)), .val (.int (p1 >>> ((3 : Int32) &&& 31))), .unset, .unset, .unset, .unset] [(.ref r_1)])) _
        refine XS.astore X1.here hx rfl (hb hby at_31) rfl rfl (l' := #[.val (.int p1), .val (.int p2), .val (.int p3), .val (.int p4), .val (.int p5), .val (.long q6), .second, .val (.int (p1 &&& (3 : Int32))), .val (.int (0 : Int32)), .val (.int (p1 >>> ((3 : Int32) &&& 31))), .val (.ref r_1), .unset, .unset, .unset]) rfl ?_
        show Steps p.tables e below (T1.setTop (mkF m 33 #[.val (.int p1), .val (.int p2), .val (.int p3), .val (.int p4), .val (.int p5), .val (.long q6), .second, .val (.int (p1 &&& (3 : Int32))), .val (.int (0 : Int32)), .val (.int (p1 >>> ((3 : Int32) &&& 31))), .val (.ref r_1), .unset, .unset, .unset] [])) _
        refine st4 _ ?_
        show Steps p.tables e below (T4.setTop (mkF m 36 #[.val (.int p1), .val (.int p2), .val (.int p3), .val (.int p4), .val (.int p5), .val (.long q6), .second, .val (.int (p1 &&& (3 : Int32))), .val (.int (0 : Int32)), .val (.int (p1 >>> ((3 : Int32) &&& 31))), .val (.ref r_1), .unset, .unset, .unset] [(.ref b4)])) _
        refine XS.dup X4.here hx rfl (hb hby at_36) rfl rfl ?_
        show Steps p.tables e below (T4.setTop (mkF m 37 #[.val (.int p1), .val (.int p2), .val (.int p3), .val (.int p4), .val (.int p5), .val (.long q6), .second, .val (.int (p1 &&& (3 : Int32))), .val (.int (0 : Int32)), .val (.int (p1 >>> ((3 : Int32) &&& 31))), .val (.ref r_1), .unset, .unset, .unset] [(.ref b4), (.ref b4)])) _
        refine XS.aload X4.here hx rfl (hb hby at_37) rfl rfl ?_
        show Steps p.tables e below (T4.setTop (mkF m 39 #[.val (.int p1), .val (.int p2), .val (.int p3), .val (.int p4), .val (.int p5), .val (.long q6), .second, .val (.int (p1 &&& (3 : Int32))), .val (.int (0 : Int32)), .val (.int (p1 >>> ((3 : Int32) &&& 31))), .val (.ref r_1), .unset, .unset, .unset] [(.ref r_1), (.ref b4), (.ref b4)])) _
        refine XS.iload X4.here hx rfl (hb hby at_39) rfl ?_
        show Steps p.tables e below (T4.setTop (mkF m 41 #[.val (.int p1), .val (.int p2), .val (.int p3), .val (.int p4), .val (.int p5), .val (.long q6), .second, .val (.int (p1 &&& (3 : Int32))), .val (.int (0 : Int32)), .val (.int (p1 >>> ((3 : Int32) &&& 31))), .val (.ref r_1), .unset, .unset, .unset] [(.int p5), (.ref r_1), (.ref b4), (.ref b4)])) _
        refine XS.iload X4.here hx rfl (hb hby at_41) rfl ?_
        show Steps p.tables e below (T4.setTop (mkF m 43 #[.val (.int p1), .val (.int p2), .val (.int p3), .val (.int p4), .val (.int p5), .val (.long q6), .second, .val (.int (p1 &&& (3 : Int32))), .val (.int (0 : Int32)), .val (.int (p1 >>> ((3 : Int32) &&& 31))), .val (.ref r_1), .unset, .unset, .unset] [(.int (p1 >>> ((3 : Int32) &&& 31))), (.int p5), (.ref r_1), (.ref b4), (.ref b4)])) _
        refine XS.iload X4.here hx rfl (hb hby at_43) rfl ?_
        show Steps p.tables e below (T4.setTop (mkF m 45 #[.val (.int p1), .val (.int p2), .val (.int p3), .val (.int p4), .val (.int p5), .val (.long q6), .second, .val (.int (p1 &&& (3 : Int32))), .val (.int (0 : Int32)), .val (.int (p1 >>> ((3 : Int32) &&& 31))), .val (.ref r_1), .unset, .unset, .unset] [(.int (0 : Int32)), (.int (p1 >>> ((3 : Int32) &&& 31))), (.int p5), (.ref r_1), (.ref b4), (.ref b4)])) _
        refine XS.lload X4.here hx rfl (hb hby at_45) rfl ?_
        show Steps p.tables e below (T4.setTop (mkF m 47 #[.val (.int p1), .val (.int p2), .val (.int p3), .val (.int p4), .val (.int p5), .val (.long q6), .second, .val (.int (p1 &&& (3 : Int32))), .val (.int (0 : Int32)), .val (.int (p1 >>> ((3 : Int32) &&& 31))), .val (.ref r_1), .unset, .unset, .unset] [(.long q6), (.int (0 : Int32)), (.int (p1 >>> ((3 : Int32) &&& 31))), (.int p5), (.ref r_1), (.ref b4), (.ref b4)])) _
        refine st13.trans ?_
        show Steps p.tables e below (T13.setTop (mkF m 50 #[.val (.int p1), .val (.int p2), .val (.int p3), .val (.int p4), .val (.int p5), .val (.long q6), .second, .val (.int (p1 &&& (3 : Int32))), .val (.int (0 : Int32)), .val (.int (p1 >>> ((3 : Int32) &&& 31))), .val (.ref r_1), .unset, .unset, .unset] [(.ref b4)])) _
        refine XS.astore X13.here hx rfl (hb hby at_50) rfl rfl (l' := #[.val (.int p1), .val (.int p2), .val (.int p3), .val (.int p4), .val (.int p5), .val (.long q6), .second, .val (.int (p1 &&& (3 : Int32))), .val (.int (0 : Int32)), .val (.int (p1 >>> ((3 : Int32) &&& 31))), .val (.ref r_1), .val (.ref b4), .unset, .unset]) rfl ?_
        show Steps p.tables e below (T13.setTop (mkF m 52 #[.val (.int p1), .val (.int p2), .val (.int p3), .val (.int p4), .val (.int p5), .val (.long q6), .second, .val (.int (p1 &&& (3 : Int32))), .val (.int (0 : Int32)), .val (.int (p1 >>> ((3 : Int32) &&& 31))), .val (.ref r_1), .val (.ref b4), .unset, .unset] [])) _
        refine XS.aload X13.here hx rfl (hb hby at_52) rfl rfl ?_
        show Steps p.tables e below (T13.setTop (mkF m 54 #[.val (.int p1), .val (.int p2), .val (.int p3), .val (.int p4), .val (.int p5), .val (.long q6), .second, .val (.int (p1 &&& (3 : Int32))), .val (.int (0 : Int32)), .val (.int (p1 >>> ((3 : Int32) &&& 31))), .val (.ref r_1), .val (.ref b4), .unset, .unset] [(.ref b4)])) _
        refine st16.trans ?_
        show Steps p.tables e below (T16.setTop (mkF m 57 #[.val (.int p1), .val (.int p2), .val (.int p3), .val (.int p4), .val (.int p5), .val (.long q6), .second, .val (.int (p1 &&& (3 : Int32))), .val (.int (0 : Int32)), .val (.int (p1 >>> ((3 : Int32) &&& 31))), .val (.ref r_1), .val (.ref b4), .unset, .unset] [(.int (1 : Int32))])) _
        refine XS.istore X16.here hx rfl (hb hby at_57) rfl (l' := #[.val (.int p1), .val (.int p2), .val (.int p3), .val (.int p4), .val (.int p5), .val (.long q6), .second, .val (.int (p1 &&& (3 : Int32))), .val (.int (0 : Int32)), .val (.int (p1 >>> ((3 : Int32) &&& 31))), .val (.ref r_1), .val (.ref b4), .val (.int (1 : Int32)), .unset]) rfl ?_
        show Steps p.tables e below (T16.setTop (mkF m 59 #[.val (.int p1), .val (.int p2), .val (.int p3), .val (.int p4), .val (.int p5), .val (.long q6), .second, .val (.int (p1 &&& (3 : Int32))), .val (.int (0 : Int32)), .val (.int (p1 >>> ((3 : Int32) &&& 31))), .val (.ref r_1), .val (.ref b4), .val (.int (1 : Int32)), .unset] [])) _
        refine XS.aload X16.here hx rfl (hb hby at_59) rfl rfl ?_
        show Steps p.tables e below (T16.setTop (mkF m 61 #[.val (.int p1), .val (.int p2), .val (.int p3), .val (.int p4), .val (.int p5), .val (.long q6), .second, .val (.int (p1 &&& (3 : Int32))), .val (.int (0 : Int32)), .val (.int (p1 >>> ((3 : Int32) &&& 31))), .val (.ref r_1), .val (.ref b4), .val (.int (1 : Int32)), .unset] [(.ref b4)])) _
        refine st18.trans ?_
        show Steps p.tables e below (T18.setTop (mkF m 64 #[.val (.int p1), .val (.int p2), .val (.int p3), .val (.int p4), .val (.int p5), .val (.long q6), .second, .val (.int (p1 &&& (3 : Int32))), .val (.int (0 : Int32)), .val (.int (p1 >>> ((3 : Int32) &&& 31))), .val (.ref r_1), .val (.ref b4), .val (.int (1 : Int32)), .unset] [(.int (0 : Int32))])) _
        refine XS.istore X18.here hx rfl (hb hby at_64) rfl (l' := #[.val (.int p1), .val (.int p2), .val (.int p3), .val (.int p4), .val (.int p5), .val (.long q6), .second, .val (.int (p1 &&& (3 : Int32))), .val (.int (0 : Int32)), .val (.int (p1 >>> ((3 : Int32) &&& 31))), .val (.ref r_1), .val (.ref b4), .val (.int (1 : Int32)), .val (.int (0 : Int32))]) rfl ?_
        show Steps p.tables e below (T18.setTop (mkF m 66 #[.val (.int p1), .val (.int p2), .val (.int p3), .val (.int p4), .val (.int p5), .val (.long q6), .second, .val (.int (p1 &&& (3 : Int32))), .val (.int (0 : Int32)), .val (.int (p1 >>> ((3 : Int32) &&& 31))), .val (.ref r_1), .val (.ref b4), .val (.int (1 : Int32)), .val (.int (0 : Int32))] [])) _
        refine XS.iload X18.here hx rfl (hb hby at_66) rfl ?_
        show Steps p.tables e below (T18.setTop (mkF m 68 #[.val (.int p1), .val (.int p2), .val (.int p3), .val (.int p4), .val (.int p5), .val (.long q6), .second, .val (.int (p1 &&& (3 : Int32))), .val (.int (0 : Int32)), .val (.int (p1 >>> ((3 : Int32) &&& 31))), .val (.ref r_1), .val (.ref b4), .val (.int (1 : Int32)), .val (.int (0 : Int32))] [(.int (1 : Int32))])) _
        refine XS.iload X18.here hx rfl (hb hby at_68) rfl ?_
        show Steps p.tables e below (T18.setTop (mkF m 70 #[.val (.int p1), .val (.int p2), .val (.int p3), .val (.int p4), .val (.int p5), .val (.long q6), .second, .val (.int (p1 &&& (3 : Int32))), .val (.int (0 : Int32)), .val (.int (p1 >>> ((3 : Int32) &&& 31))), .val (.ref r_1), .val (.ref b4), .val (.int (1 : Int32)), .val (.int (0 : Int32))] [(.int (p1 &&& (3 : Int32))), (.int (1 : Int32))])) _
        refine XS.ifNo X18.here hx rfl (hb hby at_70) rfl ((if0 _ _).trans (teq hc2).2) ?_
        show Steps p.tables e below (T18.setTop (mkF m 73 #[.val (.int p1), .val (.int p2), .val (.int p3), .val (.int p4), .val (.int p5), .val (.long q6), .second, .val (.int (p1 &&& (3 : Int32))), .val (.int (0 : Int32)), .val (.int (p1 >>> ((3 : Int32) &&& 31))), .val (.ref r_1), .val (.ref b4), .val (.int (1 : Int32)), .val (.int (0 : Int32))] [(.int (1 : Int32))])) _
        refine XS.iconst X18.here hx rfl (hb hby at_73) ?_
        show Steps p.tables e below (T18.setTop (mkF m 74 #[.val (.int p1), .val (.int p2), .val (.int p3), .val (.int p4), .val (.int p5), .val (.long q6), .second, .val (.int (p1 &&& (3 : Int32))), .val (.int (0 : Int32)), .val (.int (p1 >>> ((3 : Int32) &&& 31))), .val (.ref r_1), .val (.ref b4), .val (.int (1 : Int32)), .val (.int (0 : Int32))] [(.int (1 : Int32)), (.int (1 : Int32))])) _
        refine XS.goto X18.here hx rfl (pc0 := 74) (pc' := 78) rfl (hb hby at_74) (by decide) (by decide) ?_
        show Steps p.tables e below (T18.setTop (mkF m 78 #[.val (.int p1), .val (.int p2), .val (.int p3), .val (.int p4), .val (.int p5), .val (.long q6), .second, .val (.int (p1 &&& (3 : Int32))), .val (.int (0 : Int32)), .val (.int (p1 >>> ((3 : Int32) &&& 31))), .val (.ref r_1), .val (.ref b4), .val (.int (1 : Int32)), .val (.int (0 : Int32))] [(.int (1 : Int32)), (.int (1 : Int32))])) _
        refine XS.icmpNo X18.here hx rfl (hb hby at_78) rfl (teq (by decide : (1 : Int32) = (1 : Int32))).2 ?_
        show Steps p.tables e below (T18.setTop (mkF m 81 #[.val (.int p1), .val (.int p2), .val (.int p3), .val (.int p4), .val (.int p5), .val (.long q6), .second, .val (.int (p1 &&& (3 : Int32))), .val (.int (0 : Int32)), .val (.int (p1 >>> ((3 : Int32) &&& 31))), .val (.ref r_1), .val (.ref b4), .val (.int (1 : Int32)), .val (.int (0 : Int32))] [])) _
        refine XS.iload X18.here hx rfl (hb hby at_81) rfl ?_
        show Steps p.tables e below (T18.setTop (mkF m 83 #[.val (.int p1), .val (.int p2), .val (.int p3), .val (.int p4), .val (.int p5), .val (.long q6), .second, .val (.int (p1 &&& (3 : Int32))), .val (.int (0 : Int32)), .val (.int (p1 >>> ((3 : Int32) &&& 31))), .val (.ref r_1), .val (.ref b4), .val (.int (1 : Int32)), .val (.int (0 : Int32))] [(.int (0 : Int32))])) _
        refine XS.iload X18.here hx rfl (hb hby at_83) rfl ?_
        show Steps p.tables e below (T18.setTop (mkF m 85 #[.val (.int p1), .val (.int p2), .val (.int p3), .val (.int p4), .val (.int p5), .val (.long q6), .second, .val (.int (p1 &&& (3 : Int32))), .val (.int (0 : Int32)), .val (.int (p1 >>> ((3 : Int32) &&& 31))), .val (.ref r_1), .val (.ref b4), .val (.int (1 : Int32)), .val (.int (0 : Int32))] [(.int (p1 &&& (3 : Int32))), (.int (0 : Int32))])) _
        refine XS.icmpNo X18.here hx rfl (hb hby at_85) rfl (teq (Eq.symm hc2)).2 ?_
        show Steps p.tables e below (T18.setTop (mkF m 88 #[.val (.int p1), .val (.int p2), .val (.int p3), .val (.int p4), .val (.int p5), .val (.long q6), .second, .val (.int (p1 &&& (3 : Int32))), .val (.int (0 : Int32)), .val (.int (p1 >>> ((3 : Int32) &&& 31))), .val (.ref r_1), .val (.ref b4), .val (.int (1 : Int32)), .val (.int (0 : Int32))] [])) _
        refine XS.iload X18.here hx rfl (hb hby at_88) rfl ?_
        show Steps p.tables e below (T18.setTop (mkF m 90 #[.val (.int p1), .val (.int p2), .val (.int p3), .val (.int p4), .val (.int p5), .val (.long q6), .second, .val (.int (p1 &&& (3 : Int32))), .val (.int (0 : Int32)), .val (.int (p1 >>> ((3 : Int32) &&& 31))), .val (.ref r_1), .val (.ref b4), .val (.int (1 : Int32)), .val (.int (0 : Int32))] [(.int (1 : Int32))])) _
        refine XS.iload X18.here hx rfl (hb hby at_90) rfl ?_
        show Steps p.tables e below (T18.setTop (mkF m 92 #[.val (.int p1), .val (.int p2), .val (.int p3), .val (.int p4), .val (.int p5), .val (.long q6), .second, .val (.int (p1 &&& (3 : Int32))), .val (.int (0 : Int32)), .val (.int (p1 >>> ((3 : Int32) &&& 31))), .val (.ref r_1), .val (.ref b4), .val (.int (1 : Int32)), .val (.int (0 : Int32))] [(.int (0 : Int32)), (.int (1 : Int32))])) _
        refine XS.ifNo X18.here hx rfl (hb hby at_92) rfl ((if0 _ _).trans (teq (by decide : (0 : Int32) = (0 : Int32))).2) ?_
        show Steps p.tables e below (T18.setTop (mkF m 95 #[.val (.int p1), .val (.int p2), .val (.int p3), .val (.int p4), .val (.int p5), .val (.long q6), .second, .val (.int (p1 &&& (3 : Int32))), .val (.int (0 : Int32)), .val (.int (p1 >>> ((3 : Int32) &&& 31))), .val (.ref r_1), .val (.ref b4), .val (.int (1 : Int32)), .val (.int (0 : Int32))] [(.int (1 : Int32))])) _
        refine XS.iconst X18.here hx rfl (hb hby at_95) ?_
        show Steps p.tables e below (T18.setTop (mkF m 96 #[.val (.int p1), .val (.int p2), .val (.int p3), .val (.int p4), .val (.int p5), .val (.long q6), .second, .val (.int (p1 &&& (3 : Int32))), .val (.int (0 : Int32)), .val (.int (p1 >>> ((3 : Int32) &&& 31))), .val (.ref r_1), .val (.ref b4), .val (.int (1 : Int32)), .val (.int (0 : Int32))] [(.int (1 : Int32)), (.int (1 : Int32))])) _
        refine XS.goto X18.here hx rfl (pc0 := 96) (pc' := 100) rfl (hb hby at_96) (by decide) (by decide) ?_
        show Steps p.tables e below (T18.setTop (mkF m 100 #[.val (.int p1), .val (.int p2), .val (.int p3), .val (.int p4), .val (.int p5), .val (.long q6), .second, .val (.int (p1 &&& (3 : Int32))), .val (.int (0 : Int32)), .val (.int (p1 >>> ((3 : Int32) &&& 31))), .val (.ref r_1), .val (.ref b4), .val (.int (1 : Int32)), .val (.int (0 : Int32))] [(.int (1 : Int32)), (.int (1 : Int32))])) _
        refine XS.icmpNo X18.here hx rfl (hb hby at_100) rfl (teq (by decide : (1 : Int32) = (1 : Int32))).2 ?_
        show Steps p.tables e below (T18.setTop (mkF m 103 #[.val (.int p1), .val (.int p2), .val (.int p3), .val (.int p4), .val (.int p5), .val (.long q6), .second, .val (.int (p1 &&& (3 : Int32))), .val (.int (0 : Int32)), .val (.int (p1 >>> ((3 : Int32) &&& 31))), .val (.ref r_1), .val (.ref b4), .val (.int (1 : Int32)), .val (.int (0 : Int32))] [])) _
        refine XS.iconst X18.here hx rfl (hb hby at_103) ?_
        show Steps p.tables e below (T18.setTop (mkF m 104 #[.val (.int p1), .val (.int p2), .val (.int p3), .val (.int p4), .val (.int p5), .val (.long q6), .second, .val (.int (p1 &&& (3 : Int32))), .val (.int (0 : Int32)), .val (.int (p1 >>> ((3 : Int32) &&& 31))), .val (.ref r_1), .val (.ref b4), .val (.int (1 : Int32)), .val (.int (0 : Int32))] [(.int (1 : Int32))])) _
        refine XS.goto X18.here hx rfl (pc0 := 104) (pc' := 108) rfl (hb hby at_104) (by decide) (by decide) ?_
        show Steps p.tables e below (T18.setTop (mkF m 108 #[.val (.int p1), .val (.int p2), .val (.int p3), .val (.int p4), .val (.int p5), .val (.long q6), .second, .val (.int (p1 &&& (3 : Int32))), .val (.int (0 : Int32)), .val (.int (p1 >>> ((3 : Int32) &&& 31))), .val (.ref r_1), .val (.ref b4), .val (.int (1 : Int32)), .val (.int (0 : Int32))] [(.int (1 : Int32))])) _
        exact retN X18 hx (t := .boolean) Bd.returns (by simp) (hb hby at_108) hr
      · show Q_rm0 Z p1 p2 p3 p4 p5 q6 h0 n0 _ T18.heap _
        exact ⟨rfl, N18⟩
    · by_cases hc3 : (p1 &&& (3 : Int32)) = (1 : Int32)
      · obtain ⟨_, _, ⟨T19, L19, k19, n19⟩, -, X19, ⟨Lc19, hQ19, l19, y19, z19⟩, st19⟩ := Jvm.LawKit.callS X0 hx (y := (⟨"com/example/concordia/concordia/clause/ClauseIsEmptyPinLaw", "literalsOf", "(IIII)[I"⟩ : MethodName)) hown (mvT hZ (hw _ (List.mem_of_getElem? (i := 0) rfl))) (mvT hZ (hw _ (List.mem_of_getElem? (i := 1) rfl))) (mvT hZ (hw _ (List.mem_of_getElem? (i := 2) rfl))) (mvT hZ (hw _ (List.mem_of_getElem? (i := 3) rfl))) (by decide) (backOf (W := 0) (rm_lit1 l Z a0 hw [] (p1 &&& (3 : Int32)) p2 p3 p4 h0 n0 Z0 hc2 hc3) hZ (hw _ (List.mem_of_getElem? (i := 3) rfl)) (hw _ (List.mem_of_getElem? (i := 2) rfl)) (by decide) (by decide)) (g := (mkF m 28 #[.val (.int p1), .val (.int p2), .val (.int p3), .val (.int p4), .val (.int p5), .val (.long q6), .second, .val (.int (p1 &&& (3 : Int32))), .val (.int (0 : Int32)), .val (.int (p1 >>> ((3 : Int32) &&& 31))), .unset, .unset, .unset, .unset] [(.int p4), (.int p3), (.int p2), (.int (p1 &&& (3 : Int32)))])) rfl (by rw [hml]; rfl) (argsL := [(.int (p1 &&& (3 : Int32))), (.int p2), (.int p3), (.int p4)]) (rest := []) (lenOf pd__40IIII_41_91I rfl) rfl (by show 2 * 0 + _ ≤ _; exact Nat.le_of_eq rfl) (hb hby at_28) (fun _ _ => ⟨rfl, e0, (by decide : 0 + 1 ≤ _), (by decide : 0 + 1 ≤ _)⟩)
        dsimp only [Pt.U, Pt.locs, Pt.cells, Pt.slots] at X19 l19 y19 z19 st19 hQ19
        subst l19 y19 z19
        obtain ⟨r_19, k_19, rfl, Nq19, Kc19, p19_0, p19_1⟩ := hQ19
        have gzr_19 : h0.size ≤ r_19 := Nat.le_trans (Keep.refl h0 []).1 p19_0
        have gnr_19 : n0 ≤ r_19 := Nat.le_trans Z0 gzr_19
        have K21 : Keep h0 T19.heap [] := (Keep.refl h0 []).trans Kc19 all0
        have N19 := Fr.app N0 Nq19
        obtain ⟨T22, h22, X22, e22, E22, A22, D22, -, st22⟩ := newO X19 hx hZ hown (hw _ (List.mem_of_getElem? (i := 5) rfl)) (hw _ (List.mem_of_getElem? (i := 6) rfl)) (hw _ (List.mem_of_getElem? (i := 7) rfl)) rfl (g := (mkF m 33 #[.val (.int p1), .val (.int p2), .val (.int p3), .val (.int p4), .val (.int p5), .val (.long q6), .second, .val (.int (p1 &&& (3 : Int32))), .val (.int (0 : Int32)), .val (.int (p1 >>> ((3 : Int32) &&& 31))), .val (.ref r_19), .unset, .unset, .unset] [])) rfl (hb hby at_33) (by decide) (by decide)
        obtain ⟨b22, g22⟩ : ∃ z, z = T19.heap.size := ⟨_, rfl⟩
        rw [← g22] at A22 D22 st22
        have gnb22 : n0 ≤ b22 := Nat.le_trans (Nat.le_trans Z0 K21.1) (Nat.le_of_eq g22.symm)
        have gzb22 : h0.size ≤ b22 := Nat.le_trans K21.1 (Nat.le_of_eq g22.symm)
        have K23 : Keep h0 h22 [] := K21.ext E22
        have f24 : Fld Z h22 b22 "com/example/concordia/concordia/clause/Clause" "literals" "[I" .null := D22 (Or.inr (hw _ (List.mem_of_getElem? (i := 15) rfl))) (ty := (.array .int)) (by decide)
        have f25 : Fld Z h22 b22 "com/example/concordia/concordia/clause/Clause" "unit" "I" (.int (0 : Int32)) := D22 (Or.inr (hw _ (List.mem_of_getElem? (i := 17) rfl))) (ty := .int) (by decide)
        have f26 : Fld Z h22 b22 "com/example/concordia/concordia/clause/Clause" "weight" "I" (.int (0 : Int32)) := D22 (Or.inr (hw _ (List.mem_of_getElem? (i := 19) rfl))) (ty := .int) (by decide)
        have f27 : Fld Z h22 b22 "com/example/concordia/concordia/clause/Clause" "variableCount" "I" (.int (0 : Int32)) := D22 (Or.inr (hw _ (List.mem_of_getElem? (i := 21) rfl))) (ty := .int) (by decide)
        have f28 : Fld Z h22 b22 "com/example/concordia/concordia/clause/Clause" "tautology" "Z" (.int (0 : Int32)) := D22 (Or.inr (hw _ (List.mem_of_getElem? (i := 23) rfl))) (ty := .boolean) (by decide)
        have f29 : Fld Z h22 b22 "com/example/concordia/concordia/clause/Clause" "signature" "J" (.long (0 : Int64)) := D22 (Or.inr (hw _ (List.mem_of_getElem? (i := 25) rfl))) (ty := .long) (by decide)
        have f30 : Arv Z h22 r_19 k_19 .int (1 : Int32) [(.int p2)] (.int (0 : Int32)) := (p19_1.ext E22)
        obtain ⟨_, _, ⟨T31, L31, k31, n31⟩, -, X31, ⟨Lc31, hQ31, l31, y31, z31⟩, st31⟩ := X22.specialBack hx (y := (⟨"com/example/concordia/concordia/clause/Clause", "<init>", "([IIIZJ)V"⟩ : MethodName)) rfl hown (mvT hZ (hw _ (List.mem_of_getElem? (i := 8) rfl))) (mvT hZ (hw _ (List.mem_of_getElem? (i := 9) rfl))) (mvT hZ (hw _ (List.mem_of_getElem? (i := 10) rfl))) (by decide) (backOf (W := 1) (rm_ini1 l Z a0 hw [] b22 r_19 p5 (p1 >>> ((3 : Int32) &&& 31)) (0 : Int32) q6 .null (.int (0 : Int32)) (.int (0 : Int32)) (.int (0 : Int32)) (.int (0 : Int32)) (.long (0 : Int64)) k_19 p2 h22 n0 (Nat.le_trans Z0 K23.1) A22 f24 f25 f26 f27 f28 f29 gnb22 f30) hZ (hw _ (List.mem_of_getElem? (i := 10) rfl)) (hw _ (List.mem_of_getElem? (i := 7) rfl)) (by decide) (by decide)) (g := (mkF m 47 #[.val (.int p1), .val (.int p2), .val (.int p3), .val (.int p4), .val (.int p5), .val (.long q6), .second, .val (.int (p1 &&& (3 : Int32))), .val (.int (0 : Int32)), .val (.int (p1 >>> ((3 : Int32) &&& 31))), .val (.ref r_19), .unset, .unset, .unset] [(.long q6), (.int (0 : Int32)), (.int (p1 >>> ((3 : Int32) &&& 31))), (.int p5), (.ref r_19), (.ref b22), (.ref b22)])) rfl (by rw [hml]; rfl) (Steps.refl _) (a := b22) (argsL := [(.ref r_19), (.int p5), (.int (p1 >>> ((3 : Int32) &&& 31))), (.int (0 : Int32)), (.long q6)]) (rest := [(.ref b22)]) (lenOf pd__40_91IIIZJ_41V rfl) rfl (by show 2 * 0 + _ ≤ _; exact Nat.le_of_eq rfl) (hb hby at_47) (fun _ _ => ⟨rfl, e22, (by decide : 2 + 0 ≤ _), (by decide : 7 + 0 ≤ _)⟩)
        dsimp only [Pt.U, Pt.locs, Pt.cells, Pt.slots] at X31 l31 y31 z31 st31 hQ31
        subst l31 y31 z31
        obtain ⟨rfl, Nq31, Kc31, p31_0⟩ := hQ31
        have K32 : Keep h0 T31.heap [] := K23.trans Kc31 (allS (Or.inr gzb22) all0)
        have N31 := Fr.app N19 Nq31
        have f34 : Exa Z T31.heap b22 "com/example/concordia/concordia/clause/Clause" := (A22.keep Kc31)
        obtain ⟨cq33, kq33, q33a, q33b, q33c⟩ := isOf hZ rfl f34
        obtain ⟨_, _, ⟨T33, L33, k33, n33⟩, -, X33, ⟨Lc33, hQ33, l33, y33, z33⟩, st33⟩ := X31.virtualBack hx (y := (⟨"com/example/concordia/concordia/clause/Clause", "isEmpty", "()Z"⟩ : MethodName)) (z := (⟨"com/example/concordia/concordia/clause/Clause", "isEmpty", "()Z"⟩ : MethodName)) hown (mvT hZ (hw _ (List.mem_of_getElem? (i := 26) rfl))) (mvT hZ (hw _ (List.mem_of_getElem? (i := 27) rfl))) (notFace_of_selects (args := #[]) (mvT hZ (hw _ (List.mem_of_getElem? (i := 29) rfl)))) (mvT hZ (hw _ (List.mem_of_getElem? (i := 29) rfl))) (mvT hZ (hw _ (List.mem_of_getElem? (i := 28) rfl))) (by decide) (backOf (W := 0) (rm_em0 l Z a0 hw [] b22 T31.heap n0 (Nat.le_trans Z0 K32.1) p31_0) hZ (hw _ (List.mem_of_getElem? (i := 30) rfl)) (hw _ (List.mem_of_getElem? (i := 7) rfl)) (by decide) (by decide)) q33a q33c (g := (mkF m 54 #[.val (.int p1), .val (.int p2), .val (.int p3), .val (.int p4), .val (.int p5), .val (.long q6), .second, .val (.int (p1 &&& (3 : Int32))), .val (.int (0 : Int32)), .val (.int (p1 >>> ((3 : Int32) &&& 31))), .val (.ref r_19), .val (.ref b22), .unset, .unset] [(.ref b22)])) rfl (by rw [hml]; rfl) (Steps.refl _) (argsL := []) (rest := []) (lenOf pd__40_41Z rfl) rfl (by show 2 * 0 + _ ≤ _; exact Nat.le_of_eq rfl) (hb hby at_54) (fun _ _ => ⟨rfl, rfl, (by decide : 2 + 0 ≤ _), (by decide : 7 + 0 ≤ _)⟩)
        dsimp only [Pt.U, Pt.locs, Pt.cells, Pt.slots] at X33 l33 y33 z33 st33 hQ33
        subst l33 y33 z33
        obtain ⟨rfl, Nq33, e33⟩ := hQ33
        have N33 := Fr.app N31 Nq33
        obtain ⟨cq35, kq35, q35a, q35b, q35c⟩ := isOf hZ e33 f34
        obtain ⟨_, _, ⟨T35, L35, k35, n35⟩, -, X35, ⟨Lc35, hQ35, l35, y35, z35⟩, st35⟩ := X33.virtualBack hx (y := (⟨"com/example/concordia/concordia/clause/Clause", "literalCount", "()I"⟩ : MethodName)) (z := (⟨"com/example/concordia/concordia/clause/Clause", "literalCount", "()I"⟩ : MethodName)) hown (mvT hZ (hw _ (List.mem_of_getElem? (i := 31) rfl))) (mvT hZ (hw _ (List.mem_of_getElem? (i := 32) rfl))) (notFace_of_selects (args := #[]) (mvT hZ (hw _ (List.mem_of_getElem? (i := 34) rfl)))) (mvT hZ (hw _ (List.mem_of_getElem? (i := 34) rfl))) (mvT hZ (hw _ (List.mem_of_getElem? (i := 33) rfl))) (by decide) (backOf (W := 0) (rm_lc0 l Z a0 hw [] b22 T31.heap n0 (Nat.le_trans Z0 K32.1) p31_0) hZ (hw _ (List.mem_of_getElem? (i := 35) rfl)) (hw _ (List.mem_of_getElem? (i := 7) rfl)) (by decide) (by decide)) q35a q35c (g := (mkF m 61 #[.val (.int p1), .val (.int p2), .val (.int p3), .val (.int p4), .val (.int p5), .val (.long q6), .second, .val (.int (p1 &&& (3 : Int32))), .val (.int (0 : Int32)), .val (.int (p1 >>> ((3 : Int32) &&& 31))), .val (.ref r_19), .val (.ref b22), .val (.int (0 : Int32)), .unset] [(.ref b22)])) rfl (by rw [hml]; rfl) (Steps.refl _) (argsL := []) (rest := []) (lenOf pd__40_41I rfl) rfl (by show 2 * 0 + _ ≤ _; exact Nat.le_of_eq rfl) (hb hby at_61) (fun _ _ => ⟨rfl, e33, (by decide : 2 + 0 ≤ _), (by decide : 7 + 0 ≤ _)⟩)
        dsimp only [Pt.U, Pt.locs, Pt.cells, Pt.slots] at X35 l35 y35 z35 st35 hQ35
        subst l35 y35 z35
        obtain ⟨rfl, Nq35, e35⟩ := hQ35
        have N35 := Fr.app N33 Nq35
        obtain ⟨fs, hr, hrun, hended, hW, hsame⟩ := X35.leave (v := some (.int (1 : Int32))) (fun h => by rw [Bd.returns] at h; cases h)
        refine ⟨_, _, pre0 _ ?_, hrun, hended, _, _, rfl, ?_, ⟨_, rfl⟩, hW, hsame.mono (by decide) (by decide)⟩
        · show Steps p.tables e below (s₁.setTop (mkF m 0 #[.val (.int p1), .val (.int p2), .val (.int p3), .val (.int p4), .val (.int p5), .val (.long q6), .second, .unset, .unset, .unset, .unset, .unset, .unset, .unset] [])) _
          refine XS.iloadN X0.here hx rfl (hb hby at_0) rfl ?_
          show Steps p.tables e below (s₁.setTop (mkF m 1 #[.val (.int p1), .val (.int p2), .val (.int p3), .val (.int p4), .val (.int p5), .val (.long q6), .second, .unset, .unset, .unset, .unset, .unset, .unset, .unset] [(.int p1)])) _
          refine XS.iconst X0.here hx rfl (hb hby at_1) ?_
          show Steps p.tables e below (s₁.setTop (mkF m 2 #[.val (.int p1), .val (.int p2), .val (.int p3), .val (.int p4), .val (.int p5), .val (.long q6), .second, .unset, .unset, .unset, .unset, .unset, .unset, .unset] [(.int (3 : Int32)), (.int p1)])) _
          refine XS.iand X0.here hx rfl (hb hby at_2) rfl ?_
          show Steps p.tables e below (s₁.setTop (mkF m 3 #[.val (.int p1), .val (.int p2), .val (.int p3), .val (.int p4), .val (.int p5), .val (.long q6), .second, .unset, .unset, .unset, .unset, .unset, .unset, .unset] [(.int (p1 &&& (3 : Int32)))])) _
          refine XS.istore X0.here hx rfl (hb hby at_3) rfl (l' := #[.val (.int p1), .val (.int p2), .val (.int p3), .val (.int p4), .val (.int p5), .val (.long q6), .second, .val (.int (p1 &&& (3 : Int32))), .unset, .unset, .unset, .unset, .unset, .unset]) rfl ?_
          show Steps p.tables e below (s₁.setTop (mkF m 5 #[.val (.int p1), .val (.int p2), .val (.int p3), .val (.int p4), .val (.int p5), .val (.long q6), .second, .val (.int (p1 &&& (3 : Int32))), .unset, .unset, .unset, .unset, .unset, .unset] [])) _
          refine XS.iloadN X0.here hx rfl (hb hby at_5) rfl ?_
          show Steps p.tables e below (s₁.setTop (mkF m 6 #[.val (.int p1), .val (.int p2), .val (.int p3), .val (.int p4), .val (.int p5), .val (.long q6), .second, .val (.int (p1 &&& (3 : Int32))), .unset, .unset, .unset, .unset, .unset, .unset] [(.int p1)])) _
          refine XS.iconst X0.here hx rfl (hb hby at_6) ?_
          show Steps p.tables e below (s₁.setTop (mkF m 7 #[.val (.int p1), .val (.int p2), .val (.int p3), .val (.int p4), .val (.int p5), .val (.long q6), .second, .val (.int (p1 &&& (3 : Int32))), .unset, .unset, .unset, .unset, .unset, .unset] [(.int (4 : Int32)), (.int p1)])) _
          refine XS.iand X0.here hx rfl (hb hby at_7) rfl ?_
          show Steps p.tables e below (s₁.setTop (mkF m 8 #[.val (.int p1), .val (.int p2), .val (.int p3), .val (.int p4), .val (.int p5), .val (.long q6), .second, .val (.int (p1 &&& (3 : Int32))), .unset, .unset, .unset, .unset, .unset, .unset] [(.int (p1 &&& (4 : Int32)))])) _
          refine XS.ifYes X0.here hx rfl (pc0 := 8) (pc' := 15) rfl (hb hby at_8) rfl ((if0 _ _).trans (teq hc1).1) (by decide) (by decide) ?_
          show Steps p.tables e below (s₁.setTop (mkF m 15 #[.val (.int p1), .val (.int p2), .val (.int p3), .val (.int p4), .val (.int p5), .val (.long q6), .second, .val (.int (p1 &&& (3 : Int32))), .unset, .unset, .unset, .unset, .unset, .unset] [])) _
          refine XS.iconst X0.here hx rfl (hb hby at_15) ?_
          show Steps p.tables e below (s₁.setTop (mkF m 16 #[.val (.int p1), .val (.int p2), .val (.int p3), .val (.int p4), .val (.int p5), .val (.long q6), .second, .val (.int (p1 &&& (3 : Int32))), .unset, .unset, .unset, .unset, .unset, .unset] [(.int (0 : Int32))])) _
          refine XS.istore X0.here hx rfl (hb hby at_16) rfl (l' := #[.val (.int p1), .val (.int p2), .val (.int p3), .val (.int p4), .val (.int p5), .val (.long q6), .second, .val (.int (p1 &&& (3 : Int32))), .val (.int (0 : Int32)), .unset, .unset, .unset, .unset, .unset]) rfl ?_
          show Steps p.tables e below (s₁.setTop (mkF m 18 #[.val (.int p1), .val (.int p2), .val (.int p3), .val (.int p4), .val (.int p5), .val (.long q6), .second, .val (.int (p1 &&& (3 : Int32))), .val (.int (0 : Int32)), .unset, .unset, .unset, .unset, .unset] [])) _
          refine XS.iloadN X0.here hx rfl (hb hby at_18) rfl ?_
          show Steps p.tables e below (s₁.setTop (mkF m 19 #[.val (.int p1), .val (.int p2), .val (.int p3), .val (.int p4), .val (.int p5), .val (.long q6), .second, .val (.int (p1 &&& (3 : Int32))), .val (.int (0 : Int32)), .unset, .unset, .unset, .unset, .unset] [(.int p1)])) _
          refine XS.iconst X0.here hx rfl (hb hby at_19) ?_
          show Steps p.tables e below (s₁.setTop (mkF m 20 #[.val (.int p1), .val (.int p2), .val (.int p3), .val (.int p4), .val (.int p5), .val (.long q6), .second, .val (.int (p1 &&& (3 : Int32))), .val (.int (0 : Int32)), .unset, .unset, .unset, .unset, .unset] [(.int (3 : Int32)), (.int p1)])) _
          refine XS.ishr X0.here hx rfl (hb hby at_20) rfl ?_
          show Steps p.tables e below (s₁.setTop (mkF m 21 #[.val (.int p1), .val (.int p2), .val (.int p3), .val (.int p4), .val (.int p5), .val (.long q6), .second, .val (.int (p1 &&& (3 : Int32))), .val (.int (0 : Int32)), .unset, .unset, .unset, .unset, .unset] [(.int (p1 >>> ((3 : Int32) &&& 31)))])) _
          refine XS.istore X0.here hx rfl (hb hby at_21) rfl (l' := #[.val (.int p1), .val (.int p2), .val (.int p3), .val (.int p4), .val (.int p5), .val (.long q6), .second, .val (.int (p1 &&& (3 : Int32))), .val (.int (0 : Int32)), .val (.int (p1 >>> ((3 : Int32) &&& 31))), .unset, .unset, .unset, .unset]) rfl ?_
          show Steps p.tables e below (s₁.setTop (mkF m 23 #[.val (.int p1), .val (.int p2), .val (.int p3), .val (.int p4), .val (.int p5), .val (.long q6), .second, .val (.int (p1 &&& (3 : Int32))), .val (.int (0 : Int32)), .val (.int (p1 >>> ((3 : Int32) &&& 31))), .unset, .unset, .unset, .unset] [])) _
          refine XS.iload X0.here hx rfl (hb hby at_23) rfl ?_
          show Steps p.tables e below (s₁.setTop (mkF m 25 #[.val (.int p1), .val (.int p2), .val (.int p3), .val (.int p4), .val (.int p5), .val (.long q6), .second, .val (.int (p1 &&& (3 : Int32))), .val (.int (0 : Int32)), .val (.int (p1 >>> ((3 : Int32) &&& 31))), .unset, .unset, .unset, .unset] [(.int (p1 &&& (3 : Int32)))])) _
          refine XS.iloadN X0.here hx rfl (hb hby at_25) rfl ?_
          show Steps p.tables e below (s₁.setTop (mkF m 26 #[.val (.int p1), .val (.int p2), .val (.int p3), .val (.int p4), .val (.int p5), .val (.long q6), .second, .val (.int (p1 &&& (3 : Int32))), .val (.int (0 : Int32)), .val (.int (p1 >>> ((3 : Int32) &&& 31))), .unset, .unset, .unset, .unset] [(.int p2), (.int (p1 &&& (3 : Int32)))])) _
          refine XS.iloadN X0.here hx rfl (hb hby at_26) rfl ?_
          show Steps p.tables e below (s₁.setTop (mkF m 27 #[.val (.int p1), .val (.int p2), .val (.int p3), .val (.int p4), .val (.int p5), .val (.long q6), .second, .val (.int (p1 &&& (3 : Int32))), .val (.int (0 : Int32)), .val (.int (p1 >>> ((3 : Int32) &&& 31))), .unset, .unset, .unset, .unset] [(.int p3), (.int p2), (.int (p1 &&& (3 : Int32)))])) _
          refine XS.iloadN X0.here hx rfl (hb hby at_27) rfl ?_
          show Steps p.tables e below (s₁.setTop (mkF m 28 #[.val (.int p1), .val (.int p2), .val (.int p3), .val (.int p4), .val (.int p5), .val (.long q6), .second, .val (.int (p1 &&& (3 : Int32))), .val (.int (0 : Int32)), .val (.int (p1 >>> ((3 : Int32) &&& 31))), .unset, .unset, .unset, .unset] [(.int p4), (.int p3), (.int p2), (.int (p1 &&& (3 : Int32)))])) _
          refine st19 _ ?_
          show Steps p.tables e below (T19.setTop (mkF m 31 #[.val (.int p1), .val (.int p2), .val (.int p3), .val (.int p4), .val (.int p5), .val (.long q6), .second, .val (.int (p1 &&& (3 : Int32))), .val (.int (0 : Int32)), .val (.int (p1 >>> ((3 : Int32) &&& 31))), .unset, .unset, .unset, .unset] [(.ref r_19)])) _
          refine XS.astore X19.here hx rfl (hb hby at_31) rfl rfl (l' := #[.val (.int p1), .val (.int p2), .val (.int p3), .val (.int p4), .val (.int p5), .val (.long q6), .second, .val (.int (p1 &&& (3 : Int32))), .val (.int (0 : Int32)), .val (.int (p1 >>> ((3 : Int32) &&& 31))), .val (.ref r_19), .unset, .unset, .unset]) rfl ?_
          show Steps p.tables e below (T19.setTop (mkF m 33 #[.val (.int p1), .val (.int p2), .val (.int p3), .val (.int p4), .val (.int p5), .val (.long q6), .second, .val (.int (p1 &&& (3 : Int32))), .val (.int (0 : Int32)), .val (.int (p1 >>> ((3 : Int32) &&& 31))), .val (.ref r_19), .unset, .unset, .unset] [])) _
          refine st22 _ ?_
          show Steps p.tables e below (T22.setTop (mkF m 36 #[.val (.int p1), .val (.int p2), .val (.int p3), .val (.int p4), .val (.int p5), .val (.long q6), .second, .val (.int (p1 &&& (3 : Int32))), .val (.int (0 : Int32)), .val (.int (p1 >>> ((3 : Int32) &&& 31))), .val (.ref r_19), .unset, .unset, .unset] [(.ref b22)])) _
          refine XS.dup X22.here hx rfl (hb hby at_36) rfl rfl ?_
          show Steps p.tables e below (T22.setTop (mkF m 37 #[.val (.int p1), .val (.int p2), .val (.int p3), .val (.int p4), .val (.int p5), .val (.long q6), .second, .val (.int (p1 &&& (3 : Int32))), .val (.int (0 : Int32)), .val (.int (p1 >>> ((3 : Int32) &&& 31))), .val (.ref r_19), .unset, .unset, .unset] [(.ref b22), (.ref b22)])) _
          refine XS.aload X22.here hx rfl (hb hby at_37) rfl rfl ?_
          show Steps p.tables e below (T22.setTop (mkF m 39 #[.val (.int p1), .val (.int p2), .val (.int p3), .val (.int p4), .val (.int p5), .val (.long q6), .second, .val (.int (p1 &&& (3 : Int32))), .val (.int (0 : Int32)), .val (.int (p1 >>> ((3 : Int32) &&& 31))), .val (.ref r_19), .unset, .unset, .unset] [(.ref r_19), (.ref b22), (.ref b22)])) _
          refine XS.iload X22.here hx rfl (hb hby at_39) rfl ?_
          show Steps p.tables e below (T22.setTop (mkF m 41 #[.val (.int p1), .val (.int p2), .val (.int p3), .val (.int p4), .val (.int p5), .val (.long q6), .second, .val (.int (p1 &&& (3 : Int32))), .val (.int (0 : Int32)), .val (.int (p1 >>> ((3 : Int32) &&& 31))), .val (.ref r_19), .unset, .unset, .unset] [(.int p5), (.ref r_19), (.ref b22), (.ref b22)])) _
          refine XS.iload X22.here hx rfl (hb hby at_41) rfl ?_
          show Steps p.tables e below (T22.setTop (mkF m 43 #[.val (.int p1), .val (.int p2), .val (.int p3), .val (.int p4), .val (.int p5), .val (.long q6), .second, .val (.int (p1 &&& (3 : Int32))), .val (.int (0 : Int32)), .val (.int (p1 >>> ((3 : Int32) &&& 31))), .val (.ref r_19), .unset, .unset, .unset] [(.int (p1 >>> ((3 : Int32) &&& 31))), (.int p5), (.ref r_19), (.ref b22), (.ref b22)])) _
          refine XS.iload X22.here hx rfl (hb hby at_43) rfl ?_
          show Steps p.tables e below (T22.setTop (mkF m 45 #[.val (.int p1), .val (.int p2), .val (.int p3), .val (.int p4), .val (.int p5), .val (.long q6), .second, .val (.int (p1 &&& (3 : Int32))), .val (.int (0 : Int32)), .val (.int (p1 >>> ((3 : Int32) &&& 31))), .val (.ref r_19), .unset, .unset, .unset] [(.int (0 : Int32)), (.int (p1 >>> ((3 : Int32) &&& 31))), (.int p5), (.ref r_19), (.ref b22), (.ref b22)])) _
          refine XS.lload X22.here hx rfl (hb hby at_45) rfl ?_
          show Steps p.tables e below (T22.setTop (mkF m 47 #[.val (.int p1), .val (.int p2), .val (.int p3), .val (.int p4), .val (.int p5), .val (.long q6), .second, .val (.int (p1 &&& (3 : Int32))), .val (.int (0 : Int32)), .val (.int (p1 >>> ((3 : Int32) &&& 31))), .val (.ref r_19), .unset, .unset, .unset] [(.long q6), (.int (0 : Int32)), (.int (p1 >>> ((3 : Int32) &&& 31))), (.int p5), (.ref r_19), (.ref b22), (.ref b22)])) _
          refine st31.trans ?_
          show Steps p.tables e below (T31.setTop (mkF m 50 #[.val (.int p1), .val (.int p2), .val (.int p3), .val (.int p4), .val (.int p5), .val (.long q6), .second, .val (.int (p1 &&& (3 : Int32))), .val (.int (0 : Int32)), .val (.int (p1 >>> ((3 : Int32) &&& 31))), .val (.ref r_19), .unset, .unset, .unset] [(.ref b22)])) _
          refine XS.astore X31.here hx rfl (hb hby at_50) rfl rfl (l' := #[.val (.int p1), .val (.int p2), .val (.int p3), .val (.int p4), .val (.int p5), .val (.long q6), .second, .val (.int (p1 &&& (3 : Int32))), .val (.int (0 : Int32)), .val (.int (p1 >>> ((3 : Int32) &&& 31))), .val (.ref r_19), .val (.ref b22), .unset, .unset]) rfl ?_
          show Steps p.tables e below (T31.setTop (mkF m 52 #[.val (.int p1), .val (.int p2), .val (.int p3), .val (.int p4), .val (.int p5), .val (.long q6), .second, .val (.int (p1 &&& (3 : Int32))), .val (.int (0 : Int32)), .val (.int (p1 >>> ((3 : Int32) &&& 31))), .val (.ref r_19), .val (.ref b22), .unset, .unset] [])) _
          refine XS.aload X31.here hx rfl (hb hby at_52) rfl rfl ?_
          show Steps p.tables e below (T31.setTop (mkF m 54 #[.val (.int p1), .val (.int p2), .val (.int p3), .val (.int p4), .val (.int p5), .val (.long q6), .second, .val (.int (p1 &&& (3 : Int32))), .val (.int (0 : Int32)), .val (.int (p1 >>> ((3 : Int32) &&& 31))), .val (.ref r_19), .val (.ref b22), .unset, .unset] [(.ref b22)])) _
          refine st33.trans ?_
          show Steps p.tables e below (T33.setTop (mkF m 57 #[.val (.int p1), .val (.int p2), .val (.int p3), .val (.int p4), .val (.int p5), .val (.long q6), .second, .val (.int (p1 &&& (3 : Int32))), .val (.int (0 : Int32)), .val (.int (p1 >>> ((3 : Int32) &&& 31))), .val (.ref r_19), .val (.ref b22), .unset, .unset] [(.int (0 : Int32))])) _
          refine XS.istore X33.here hx rfl (hb hby at_57) rfl (l' := #[.val (.int p1), .val (.int p2), .val (.int p3), .val (.int p4), .val (.int p5), .val (.long q6), .second, .val (.int (p1 &&& (3 : Int32))), .val (.int (0 : Int32)), .val (.int (p1 >>> ((3 : Int32) &&& 31))), .val (.ref r_19), .val (.ref b22), .val (.int (0 : Int32)), .unset]) rfl ?_
          show Steps p.tables e below (T33.setTop (mkF m 59 #[.val (.int p1), .val (.int p2), .val (.int p3), .val (.int p4), .val (.int p5), .val (.long q6), .second, .val (.int (p1 &&& (3 : Int32))), .val (.int (0 : Int32)), .val (.int (p1 >>> ((3 : Int32) &&& 31))), .val (.ref r_19), .val (.ref b22), .val (.int (0 : Int32)), .unset] [])) _
          refine XS.aload X33.here hx rfl (hb hby at_59) rfl rfl ?_
          show Steps p.tables e below (T33.setTop (mkF m 61 #[.val (.int p1), .val (.int p2), .val (.int p3), .val (.int p4), .val (.int p5), .val (.long q6), .second, .val (.int (p1 &&& (3 : Int32))), .val (.int (0 : Int32)), .val (.int (p1 >>> ((3 : Int32) &&& 31))), .val (.ref r_19), .val (.ref b22), .val (.int (0 : Int32)), .unset] [(.ref b22)])) _
          refine st35.trans ?_
          show Steps p.tables e below (T35.setTop (mkF m 64 #[.val (.int p1), .val (.int p2), .val (.int p3), .val (.int p4), .val (.int p5), .val (.long q6), .second, .val (.int (p1 &&& (3 : Int32))), .val (.int (0 : Int32)), .val (.int (p1 >>> ((3 : Int32) &&& 31))), .val (.ref r_19), .val (.ref b22), .val (.int (0 : Int32)), .unset] [(.int (1 : Int32))])) _
          refine XS.istore X35.here hx rfl (hb hby at_64) rfl (l' := #[.val (.int p1), .val (.int p2), .val (.int p3), .val (.int p4), .val (.int p5), .val (.long q6), .second, .val (.int (p1 &&& (3 : Int32))), .val (.int (0 : Int32)), .val (.int (p1 >>> ((3 : Int32) &&& 31))), .val (.ref r_19), .val (.ref b22), .val (.int (0 : Int32)), .val (.int (1 : Int32))]) rfl ?_
          show Steps p.tables e below (T35.setTop (mkF m 66 #[.val (.int p1), .val (.int p2), .val (.int p3), .val (.int p4), .val (.int p5), .val (.long q6), .second, .val (.int (p1 &&& (3 : Int32))), .val (.int (0 : Int32)), .val (.int (p1 >>> ((3 : Int32) &&& 31))), .val (.ref r_19), .val (.ref b22), .val (.int (0 : Int32)), .val (.int (1 : Int32))] [])) _
          refine XS.iload X35.here hx rfl (hb hby at_66) rfl ?_
          show Steps p.tables e below (T35.setTop (mkF m 68 #[.val (.int p1), .val (.int p2), .val (.int p3), .val (.int p4), .val (.int p5), .val (.long q6), .second, .val (.int (p1 &&& (3 : Int32))), .val (.int (0 : Int32)), .val (.int (p1 >>> ((3 : Int32) &&& 31))), .val (.ref r_19), .val (.ref b22), .val (.int (0 : Int32)), .val (.int (1 : Int32))] [(.int (0 : Int32))])) _
          refine XS.iload X35.here hx rfl (hb hby at_68) rfl ?_
          show Steps p.tables e below (T35.setTop (mkF m 70 #[.val (.int p1), .val (.int p2), .val (.int p3), .val (.int p4), .val (.int p5), .val (.long q6), .second, .val (.int (p1 &&& (3 : Int32))), .val (.int (0 : Int32)), .val (.int (p1 >>> ((3 : Int32) &&& 31))), .val (.ref r_19), .val (.ref b22), .val (.int (0 : Int32)), .val (.int (1 : Int32))] [(.int (p1 &&& (3 : Int32))), (.int (0 : Int32))])) _
          refine XS.ifYes X35.here hx rfl (pc0 := 70) (pc' := 77) rfl (hb hby at_70) rfl ((if0 _ _).trans (feq hc2).2) (by decide) (by decide) ?_
          show Steps p.tables e below (T35.setTop (mkF m 77 #[.val (.int p1), .val (.int p2), .val (.int p3), .val (.int p4), .val (.int p5), .val (.long q6), .second, .val (.int (p1 &&& (3 : Int32))), .val (.int (0 : Int32)), .val (.int (p1 >>> ((3 : Int32) &&& 31))), .val (.ref r_19), .val (.ref b22), .val (.int (0 : Int32)), .val (.int (1 : Int32))] [(.int (0 : Int32))])) _
          refine XS.iconst X35.here hx rfl (hb hby at_77) ?_
          show Steps p.tables e below (T35.setTop (mkF m 78 #[.val (.int p1), .val (.int p2), .val (.int p3), .val (.int p4), .val (.int p5), .val (.long q6), .second, .val (.int (p1 &&& (3 : Int32))), .val (.int (0 : Int32)), .val (.int (p1 >>> ((3 : Int32) &&& 31))), .val (.ref r_19), .val (.ref b22), .val (.int (0 : Int32)), .val (.int (1 : Int32))] [(.int (0 : Int32)), (.int (0 : Int32))])) _
          refine XS.icmpNo X35.here hx rfl (hb hby at_78) rfl (teq (by decide : (0 : Int32) = (0 : Int32))).2 ?_
          show Steps p.tables e below (T35.setTop (mkF m 81 #[.val (.int p1), .val (.int p2), .val (.int p3), .val (.int p4), .val (.int p5), .val (.long q6), .second, .val (.int (p1 &&& (3 : Int32))), .val (.int (0 : Int32)), .val (.int (p1 >>> ((3 : Int32) &&& 31))), .val (.ref r_19), .val (.ref b22), .val (.int (0 : Int32)), .val (.int (1 : Int32))] [])) _
          refine XS.iload X35.here hx rfl (hb hby at_81) rfl ?_
          show Steps p.tables e below (T35.setTop (mkF m 83 #[.val (.int p1), .val (.int p2), .val (.int p3), .val (.int p4), .val (.int p5), .val (.long q6), .second, .val (.int (p1 &&& (3 : Int32))), .val (.int (0 : Int32)), .val (.int (p1 >>> ((3 : Int32) &&& 31))), .val (.ref r_19), .val (.ref b22), .val (.int (0 : Int32)), .val (.int (1 : Int32))] [(.int (1 : Int32))])) _
          refine XS.iload X35.here hx rfl (hb hby at_83) rfl ?_
          show Steps p.tables e below (T35.setTop (mkF m 85 #[.val (.int p1), .val (.int p2), .val (.int p3), .val (.int p4), .val (.int p5), .val (.long q6), .second, .val (.int (p1 &&& (3 : Int32))), .val (.int (0 : Int32)), .val (.int (p1 >>> ((3 : Int32) &&& 31))), .val (.ref r_19), .val (.ref b22), .val (.int (0 : Int32)), .val (.int (1 : Int32))] [(.int (p1 &&& (3 : Int32))), (.int (1 : Int32))])) _
          refine XS.icmpNo X35.here hx rfl (hb hby at_85) rfl (teq (Eq.symm hc3)).2 ?_
          show Steps p.tables e below (T35.setTop (mkF m 88 #[.val (.int p1), .val (.int p2), .val (.int p3), .val (.int p4), .val (.int p5), .val (.long q6), .second, .val (.int (p1 &&& (3 : Int32))), .val (.int (0 : Int32)), .val (.int (p1 >>> ((3 : Int32) &&& 31))), .val (.ref r_19), .val (.ref b22), .val (.int (0 : Int32)), .val (.int (1 : Int32))] [])) _
          refine XS.iload X35.here hx rfl (hb hby at_88) rfl ?_
          show Steps p.tables e below (T35.setTop (mkF m 90 #[.val (.int p1), .val (.int p2), .val (.int p3), .val (.int p4), .val (.int p5), .val (.long q6), .second, .val (.int (p1 &&& (3 : Int32))), .val (.int (0 : Int32)), .val (.int (p1 >>> ((3 : Int32) &&& 31))), .val (.ref r_19), .val (.ref b22), .val (.int (0 : Int32)), .val (.int (1 : Int32))] [(.int (0 : Int32))])) _
          refine XS.iload X35.here hx rfl (hb hby at_90) rfl ?_
          show Steps p.tables e below (T35.setTop (mkF m 92 #[.val (.int p1), .val (.int p2), .val (.int p3), .val (.int p4), .val (.int p5), .val (.long q6), .second, .val (.int (p1 &&& (3 : Int32))), .val (.int (0 : Int32)), .val (.int (p1 >>> ((3 : Int32) &&& 31))), .val (.ref r_19), .val (.ref b22), .val (.int (0 : Int32)), .val (.int (1 : Int32))] [(.int (1 : Int32)), (.int (0 : Int32))])) _
          refine XS.ifYes X35.here hx rfl (pc0 := 92) (pc' := 99) rfl (hb hby at_92) rfl ((if0 _ _).trans (feq (by decide : ¬ ((1 : Int32) = (0 : Int32)))).2) (by decide) (by decide) ?_
          show Steps p.tables e below (T35.setTop (mkF m 99 #[.val (.int p1), .val (.int p2), .val (.int p3), .val (.int p4), .val (.int p5), .val (.long q6), .second, .val (.int (p1 &&& (3 : Int32))), .val (.int (0 : Int32)), .val (.int (p1 >>> ((3 : Int32) &&& 31))), .val (.ref r_19), .val (.ref b22), .val (.int (0 : Int32)), .val (.int (1 : Int32))] [(.int (0 : Int32))])) _
          refine XS.iconst X35.here hx rfl (hb hby at_99) ?_
          show Steps p.tables e below (T35.setTop (mkF m 100 #[.val (.int p1), .val (.int p2), .val (.int p3), .val (.int p4), .val (.int p5), .val (.long q6), .second, .val (.int (p1 &&& (3 : Int32))), .val (.int (0 : Int32)), .val (.int (p1 >>> ((3 : Int32) &&& 31))), .val (.ref r_19), .val (.ref b22), .val (.int (0 : Int32)), .val (.int (1 : Int32))] [(.int (0 : Int32)), (.int (0 : Int32))])) _
          refine XS.icmpNo X35.here hx rfl (hb hby at_100) rfl (teq (by decide : (0 : Int32) = (0 : Int32))).2 ?_
          show Steps p.tables e below (T35.setTop (mkF m 103 #[.val (.int p1), .val (.int p2), .val (.int p3), .val (.int p4), .val (.int p5), .val (.long q6), .second, .val (.int (p1 &&& (3 : Int32))), .val (.int (0 : Int32)), .val (.int (p1 >>> ((3 : Int32) &&& 31))), .val (.ref r_19), .val (.ref b22), .val (.int (0 : Int32)), .val (.int (1 : Int32))] [])) _
          refine XS.iconst X35.here hx rfl (hb hby at_103) ?_
          show Steps p.tables e below (T35.setTop (mkF m 104 #[.val (.int p1), .val (.int p2), .val (.int p3), .val (.int p4), .val (.int p5), .val (.long q6), .second, .val (.int (p1 &&& (3 : Int32))), .val (.int (0 : Int32)), .val (.int (p1 >>> ((3 : Int32) &&& 31))), .val (.ref r_19), .val (.ref b22), .val (.int (0 : Int32)), .val (.int (1 : Int32))] [(.int (1 : Int32))])) _
          refine XS.goto X35.here hx rfl (pc0 := 104) (pc' := 108) rfl (hb hby at_104) (by decide) (by decide) ?_
          show Steps p.tables e below (T35.setTop (mkF m 108 #[.val (.int p1), .val (.int p2), .val (.int p3), .val (.int p4), .val (.int p5), .val (.long q6), .second, .val (.int (p1 &&& (3 : Int32))), .val (.int (0 : Int32)), .val (.int (p1 >>> ((3 : Int32) &&& 31))), .val (.ref r_19), .val (.ref b22), .val (.int (0 : Int32)), .val (.int (1 : Int32))] [(.int (1 : Int32))])) _
          exact retN X35 hx (t := .boolean) Bd.returns (by simp) (hb hby at_108) hr
        · show Q_rm0 Z p1 p2 p3 p4 p5 q6 h0 n0 _ T35.heap _
          exact ⟨rfl, N35⟩
      · by_cases hc4 : (p1 &&& (3 : Int32)) = (2 : Int32)
        · obtain ⟨_, _, ⟨T36, L36, k36, n36⟩, -, X36, ⟨Lc36, hQ36, l36, y36, z36⟩, st36⟩ := Jvm.LawKit.callS X0 hx (y := (⟨"com/example/concordia/concordia/clause/ClauseIsEmptyPinLaw", "literalsOf", "(IIII)[I"⟩ : MethodName)) hown (mvT hZ (hw _ (List.mem_of_getElem? (i := 0) rfl))) (mvT hZ (hw _ (List.mem_of_getElem? (i := 1) rfl))) (mvT hZ (hw _ (List.mem_of_getElem? (i := 2) rfl))) (mvT hZ (hw _ (List.mem_of_getElem? (i := 3) rfl))) (by decide) (backOf (W := 0) (rm_lit2 l Z a0 hw [] (p1 &&& (3 : Int32)) p2 p3 p4 h0 n0 Z0 hc2 hc3 hc4) hZ (hw _ (List.mem_of_getElem? (i := 3) rfl)) (hw _ (List.mem_of_getElem? (i := 2) rfl)) (by decide) (by decide)) (g := (mkF m 28 #[.val (.int p1), .val (.int p2), .val (.int p3), .val (.int p4), .val (.int p5), .val (.long q6), .second, .val (.int (p1 &&& (3 : Int32))), .val (.int (0 : Int32)), .val (.int (p1 >>> ((3 : Int32) &&& 31))), .unset, .unset, .unset, .unset] [(.int p4), (.int p3), (.int p2), (.int (p1 &&& (3 : Int32)))])) rfl (by rw [hml]; rfl) (argsL := [(.int (p1 &&& (3 : Int32))), (.int p2), (.int p3), (.int p4)]) (rest := []) (lenOf pd__40IIII_41_91I rfl) rfl (by show 2 * 0 + _ ≤ _; exact Nat.le_of_eq rfl) (hb hby at_28) (fun _ _ => ⟨rfl, e0, (by decide : 0 + 1 ≤ _), (by decide : 0 + 2 ≤ _)⟩)
          dsimp only [Pt.U, Pt.locs, Pt.cells, Pt.slots] at X36 l36 y36 z36 st36 hQ36
          subst l36 y36 z36
          obtain ⟨r_36, k_36, rfl, Nq36, Kc36, p36_0, p36_1⟩ := hQ36
          have gzr_36 : h0.size ≤ r_36 := Nat.le_trans (Keep.refl h0 []).1 p36_0
          have gnr_36 : n0 ≤ r_36 := Nat.le_trans Z0 gzr_36
          have K38 : Keep h0 T36.heap [] := (Keep.refl h0 []).trans Kc36 all0
          have N36 := Fr.app N0 Nq36
          obtain ⟨T39, h39, X39, e39, E39, A39, D39, -, st39⟩ := newO X36 hx hZ hown (hw _ (List.mem_of_getElem? (i := 5) rfl)) (hw _ (List.mem_of_getElem? (i := 6) rfl)) (hw _ (List.mem_of_getElem? (i := 7) rfl)) rfl (g := (mkF m 33 #[.val (.int p1), .val (.int p2), .val (.int p3), .val (.int p4), .val (.int p5), .val (.long q6), .second, .val (.int (p1 &&& (3 : Int32))), .val (.int (0 : Int32)), .val (.int (p1 >>> ((3 : Int32) &&& 31))), .val (.ref r_36), .unset, .unset, .unset] [])) rfl (hb hby at_33) (by decide) (by decide)
          obtain ⟨b39, g39⟩ : ∃ z, z = T36.heap.size := ⟨_, rfl⟩
          rw [← g39] at A39 D39 st39
          have gnb39 : n0 ≤ b39 := Nat.le_trans (Nat.le_trans Z0 K38.1) (Nat.le_of_eq g39.symm)
          have gzb39 : h0.size ≤ b39 := Nat.le_trans K38.1 (Nat.le_of_eq g39.symm)
          have K40 : Keep h0 h39 [] := K38.ext E39
          have f41 : Fld Z h39 b39 "com/example/concordia/concordia/clause/Clause" "literals" "[I" .null := D39 (Or.inr (hw _ (List.mem_of_getElem? (i := 15) rfl))) (ty := (.array .int)) (by decide)
          have f42 : Fld Z h39 b39 "com/example/concordia/concordia/clause/Clause" "unit" "I" (.int (0 : Int32)) := D39 (Or.inr (hw _ (List.mem_of_getElem? (i := 17) rfl))) (ty := .int) (by decide)
          have f43 : Fld Z h39 b39 "com/example/concordia/concordia/clause/Clause" "weight" "I" (.int (0 : Int32)) := D39 (Or.inr (hw _ (List.mem_of_getElem? (i := 19) rfl))) (ty := .int) (by decide)
          have f44 : Fld Z h39 b39 "com/example/concordia/concordia/clause/Clause" "variableCount" "I" (.int (0 : Int32)) := D39 (Or.inr (hw _ (List.mem_of_getElem? (i := 21) rfl))) (ty := .int) (by decide)
          have f45 : Fld Z h39 b39 "com/example/concordia/concordia/clause/Clause" "tautology" "Z" (.int (0 : Int32)) := D39 (Or.inr (hw _ (List.mem_of_getElem? (i := 23) rfl))) (ty := .boolean) (by decide)
          have f46 : Fld Z h39 b39 "com/example/concordia/concordia/clause/Clause" "signature" "J" (.long (0 : Int64)) := D39 (Or.inr (hw _ (List.mem_of_getElem? (i := 25) rfl))) (ty := .long) (by decide)
          have f47 : Arv Z h39 r_36 k_36 .int (2 : Int32) [(.int p2), (.int p3)] (.int (0 : Int32)) := (p36_1.ext E39)
          obtain ⟨_, _, ⟨T48, L48, k48, n48⟩, -, X48, ⟨Lc48, hQ48, l48, y48, z48⟩, st48⟩ := X39.specialBack hx (y := (⟨"com/example/concordia/concordia/clause/Clause", "<init>", "([IIIZJ)V"⟩ : MethodName)) rfl hown (mvT hZ (hw _ (List.mem_of_getElem? (i := 8) rfl))) (mvT hZ (hw _ (List.mem_of_getElem? (i := 9) rfl))) (mvT hZ (hw _ (List.mem_of_getElem? (i := 10) rfl))) (by decide) (backOf (W := 1) (rm_inin l Z a0 hw [] b39 r_36 p5 (p1 >>> ((3 : Int32) &&& 31)) (0 : Int32) q6 .null (.int (0 : Int32)) (.int (0 : Int32)) (.int (0 : Int32)) (.int (0 : Int32)) (.long (0 : Int64)) k_36 (2 : Int32) [(.int p2), (.int p3)] h39 n0 (Nat.le_trans Z0 K40.1) A39 f41 f42 f43 f44 f45 f46 gnb39 f47 (by decide : ¬ ((2 : Int32) = (1 : Int32)))) hZ (hw _ (List.mem_of_getElem? (i := 10) rfl)) (hw _ (List.mem_of_getElem? (i := 7) rfl)) (by decide) (by decide)) (g := (mkF m 47 #[.val (.int p1), .val (.int p2), .val (.int p3), .val (.int p4), .val (.int p5), .val (.long q6), .second, .val (.int (p1 &&& (3 : Int32))), .val (.int (0 : Int32)), .val (.int (p1 >>> ((3 : Int32) &&& 31))), .val (.ref r_36), .unset, .unset, .unset] [(.long q6), (.int (0 : Int32)), (.int (p1 >>> ((3 : Int32) &&& 31))), (.int p5), (.ref r_36), (.ref b39), (.ref b39)])) rfl (by rw [hml]; rfl) (Steps.refl _) (a := b39) (argsL := [(.ref r_36), (.int p5), (.int (p1 >>> ((3 : Int32) &&& 31))), (.int (0 : Int32)), (.long q6)]) (rest := [(.ref b39)]) (lenOf pd__40_91IIIZJ_41V rfl) rfl (by show 2 * 0 + _ ≤ _; exact Nat.le_of_eq rfl) (hb hby at_47) (fun _ _ => ⟨rfl, e39, (by decide : 2 + 0 ≤ _), (by decide : 8 + 0 ≤ _)⟩)
          dsimp only [Pt.U, Pt.locs, Pt.cells, Pt.slots] at X48 l48 y48 z48 st48 hQ48
          subst l48 y48 z48
          obtain ⟨rfl, Nq48, Kc48, p48_0⟩ := hQ48
          have K49 : Keep h0 T48.heap [] := K40.trans Kc48 (allS (Or.inr gzb39) all0)
          have N48 := Fr.app N36 Nq48
          have f50 : Arv Z T48.heap r_36 k_36 .int (2 : Int32) [(.int p2), (.int p3)] (.int (0 : Int32)) := (f47.keep Kc48 (ninS (Nat.ne_of_lt (Nat.lt_of_lt_of_le p36_1.lt (Nat.le_of_eq g39.symm))) nin0))
          have f52 : Exa Z T48.heap b39 "com/example/concordia/concordia/clause/Clause" := (A39.keep Kc48)
          obtain ⟨cq51, kq51, q51a, q51b, q51c⟩ := isOf hZ rfl f52
          obtain ⟨_, _, ⟨T51, L51, k51, n51⟩, -, X51, ⟨Lc51, hQ51, l51, y51, z51⟩, st51⟩ := X48.virtualBack hx (y := (⟨"com/example/concordia/concordia/clause/Clause", "isEmpty", "()Z"⟩ : MethodName)) (z := (⟨"com/example/concordia/concordia/clause/Clause", "isEmpty", "()Z"⟩ : MethodName)) hown (mvT hZ (hw _ (List.mem_of_getElem? (i := 26) rfl))) (mvT hZ (hw _ (List.mem_of_getElem? (i := 27) rfl))) (notFace_of_selects (args := #[]) (mvT hZ (hw _ (List.mem_of_getElem? (i := 29) rfl)))) (mvT hZ (hw _ (List.mem_of_getElem? (i := 29) rfl))) (mvT hZ (hw _ (List.mem_of_getElem? (i := 28) rfl))) (by decide) (backOf (W := 0) (rm_emn l Z a0 hw [] b39 r_36 k_36 (2 : Int32) [(.int p2), (.int p3)] T48.heap n0 (Nat.le_trans Z0 K49.1) p48_0 f50 (by decide : ¬ ((2 : Int32) = (0 : Int32)))) hZ (hw _ (List.mem_of_getElem? (i := 30) rfl)) (hw _ (List.mem_of_getElem? (i := 7) rfl)) (by decide) (by decide)) q51a q51c (g := (mkF m 54 #[.val (.int p1), .val (.int p2), .val (.int p3), .val (.int p4), .val (.int p5), .val (.long q6), .second, .val (.int (p1 &&& (3 : Int32))), .val (.int (0 : Int32)), .val (.int (p1 >>> ((3 : Int32) &&& 31))), .val (.ref r_36), .val (.ref b39), .unset, .unset] [(.ref b39)])) rfl (by rw [hml]; rfl) (Steps.refl _) (argsL := []) (rest := []) (lenOf pd__40_41Z rfl) rfl (by show 2 * 0 + _ ≤ _; exact Nat.le_of_eq rfl) (hb hby at_54) (fun _ _ => ⟨rfl, rfl, (by decide : 2 + 0 ≤ _), (by decide : 8 + 0 ≤ _)⟩)
          dsimp only [Pt.U, Pt.locs, Pt.cells, Pt.slots] at X51 l51 y51 z51 st51 hQ51
          subst l51 y51 z51
          obtain ⟨rfl, Nq51, e51⟩ := hQ51
          have N51 := Fr.app N48 Nq51
          obtain ⟨cq53, kq53, q53a, q53b, q53c⟩ := isOf hZ e51 f52
          obtain ⟨_, _, ⟨T53, L53, k53, n53⟩, -, X53, ⟨Lc53, hQ53, l53, y53, z53⟩, st53⟩ := X51.virtualBack hx (y := (⟨"com/example/concordia/concordia/clause/Clause", "literalCount", "()I"⟩ : MethodName)) (z := (⟨"com/example/concordia/concordia/clause/Clause", "literalCount", "()I"⟩ : MethodName)) hown (mvT hZ (hw _ (List.mem_of_getElem? (i := 31) rfl))) (mvT hZ (hw _ (List.mem_of_getElem? (i := 32) rfl))) (notFace_of_selects (args := #[]) (mvT hZ (hw _ (List.mem_of_getElem? (i := 34) rfl)))) (mvT hZ (hw _ (List.mem_of_getElem? (i := 34) rfl))) (mvT hZ (hw _ (List.mem_of_getElem? (i := 33) rfl))) (by decide) (backOf (W := 0) (rm_lc l Z a0 hw [] b39 r_36 k_36 (2 : Int32) [(.int p2), (.int p3)] T48.heap n0 (Nat.le_trans Z0 K49.1) p48_0 f50) hZ (hw _ (List.mem_of_getElem? (i := 35) rfl)) (hw _ (List.mem_of_getElem? (i := 7) rfl)) (by decide) (by decide)) q53a q53c (g := (mkF m 61 #[.val (.int p1), .val (.int p2), .val (.int p3), .val (.int p4), .val (.int p5), .val (.long q6), .second, .val (.int (p1 &&& (3 : Int32))), .val (.int (0 : Int32)), .val (.int (p1 >>> ((3 : Int32) &&& 31))), .val (.ref r_36), .val (.ref b39), .val (.int (0 : Int32)), .unset] [(.ref b39)])) rfl (by rw [hml]; rfl) (Steps.refl _) (argsL := []) (rest := []) (lenOf pd__40_41I rfl) rfl (by show 2 * 0 + _ ≤ _; exact Nat.le_of_eq rfl) (hb hby at_61) (fun _ _ => ⟨rfl, e51, (by decide : 2 + 0 ≤ _), (by decide : 8 + 0 ≤ _)⟩)
          dsimp only [Pt.U, Pt.locs, Pt.cells, Pt.slots] at X53 l53 y53 z53 st53 hQ53
          subst l53 y53 z53
          obtain ⟨rfl, Nq53, e53⟩ := hQ53
          have N53 := Fr.app N51 Nq53
          obtain ⟨fs, hr, hrun, hended, hW, hsame⟩ := X53.leave (v := some (.int (1 : Int32))) (fun h => by rw [Bd.returns] at h; cases h)
          refine ⟨_, _, pre0 _ ?_, hrun, hended, _, _, rfl, ?_, ⟨_, rfl⟩, hW, hsame.mono (by decide) (by decide)⟩
          · show Steps p.tables e below (s₁.setTop (mkF m 0 #[.val (.int p1), .val (.int p2), .val (.int p3), .val (.int p4), .val (.int p5), .val (.long q6), .second, .unset, .unset, .unset, .unset, .unset, .unset, .unset] [])) _
            refine XS.iloadN X0.here hx rfl (hb hby at_0) rfl ?_
            show Steps p.tables e below (s₁.setTop (mkF m 1 #[.val (.int p1), .val (.int p2), .val (.int p3), .val (.int p4), .val (.int p5), .val (.long q6), .second, .unset, .unset, .unset, .unset, .unset, .unset, .unset] [(.int p1)])) _
            refine XS.iconst X0.here hx rfl (hb hby at_1) ?_
            show Steps p.tables e below (s₁.setTop (mkF m 2 #[.val (.int p1), .val (.int p2), .val (.int p3), .val (.int p4), .val (.int p5), .val (.long q6), .second, .unset, .unset, .unset, .unset, .unset, .unset, .unset] [(.int (3 : Int32)), (.int p1)])) _
            refine XS.iand X0.here hx rfl (hb hby at_2) rfl ?_
            show Steps p.tables e below (s₁.setTop (mkF m 3 #[.val (.int p1), .val (.int p2), .val (.int p3), .val (.int p4), .val (.int p5), .val (.long q6), .second, .unset, .unset, .unset, .unset, .unset, .unset, .unset] [(.int (p1 &&& (3 : Int32)))])) _
            refine XS.istore X0.here hx rfl (hb hby at_3) rfl (l' := #[.val (.int p1), .val (.int p2), .val (.int p3), .val (.int p4), .val (.int p5), .val (.long q6), .second, .val (.int (p1 &&& (3 : Int32))), .unset, .unset, .unset, .unset, .unset, .unset]) rfl ?_
            show Steps p.tables e below (s₁.setTop (mkF m 5 #[.val (.int p1), .val (.int p2), .val (.int p3), .val (.int p4), .val (.int p5), .val (.long q6), .second, .val (.int (p1 &&& (3 : Int32))), .unset, .unset, .unset, .unset, .unset, .unset] [])) _
            refine XS.iloadN X0.here hx rfl (hb hby at_5) rfl ?_
            show Steps p.tables e below (s₁.setTop (mkF m 6 #[.val (.int p1), .val (.int p2), .val (.int p3), .val (.int p4), .val (.int p5), .val (.long q6), .second, .val (.int (p1 &&& (3 : Int32))), .unset, .unset, .unset, .unset, .unset, .unset] [(.int p1)])) _
            refine XS.iconst X0.here hx rfl (hb hby at_6) ?_
            show Steps p.tables e below (s₁.setTop (mkF m 7 #[.val (.int p1), .val (.int p2), .val (.int p3), .val (.int p4), .val (.int p5), .val (.long q6), .second, .val (.int (p1 &&& (3 : Int32))), .unset, .unset, .unset, .unset, .unset, .unset] [(.int (4 : Int32)), (.int p1)])) _
            refine XS.iand X0.here hx rfl (hb hby at_7) rfl ?_
            show Steps p.tables e below (s₁.setTop (mkF m 8 #[.val (.int p1), .val (.int p2), .val (.int p3), .val (.int p4), .val (.int p5), .val (.long q6), .second, .val (.int (p1 &&& (3 : Int32))), .unset, .unset, .unset, .unset, .unset, .unset] [(.int (p1 &&& (4 : Int32)))])) _
            refine XS.ifYes X0.here hx rfl (pc0 := 8) (pc' := 15) rfl (hb hby at_8) rfl ((if0 _ _).trans (teq hc1).1) (by decide) (by decide) ?_
            show Steps p.tables e below (s₁.setTop (mkF m 15 #[.val (.int p1), .val (.int p2), .val (.int p3), .val (.int p4), .val (.int p5), .val (.long q6), .second, .val (.int (p1 &&& (3 : Int32))), .unset, .unset, .unset, .unset, .unset, .unset] [])) _
            refine XS.iconst X0.here hx rfl (hb hby at_15) ?_
            show Steps p.tables e below (s₁.setTop (mkF m 16 #[.val (.int p1), .val (.int p2), .val (.int p3), .val (.int p4), .val (.int p5), .val (.long q6), .second, .val (.int (p1 &&& (3 : Int32))), .unset, .unset, .unset, .unset, .unset, .unset] [(.int (0 : Int32))])) _
            refine XS.istore X0.here hx rfl (hb hby at_16) rfl (l' := #[.val (.int p1), .val (.int p2), .val (.int p3), .val (.int p4), .val (.int p5), .val (.long q6), .second, .val (.int (p1 &&& (3 : Int32))), .val (.int (0 : Int32)), .unset, .unset, .unset, .unset, .unset]) rfl ?_
            show Steps p.tables e below (s₁.setTop (mkF m 18 #[.val (.int p1), .val (.int p2), .val (.int p3), .val (.int p4), .val (.int p5), .val (.long q6), .second, .val (.int (p1 &&& (3 : Int32))), .val (.int (0 : Int32)), .unset, .unset, .unset, .unset, .unset] [])) _
            refine XS.iloadN X0.here hx rfl (hb hby at_18) rfl ?_
            show Steps p.tables e below (s₁.setTop (mkF m 19 #[.val (.int p1), .val (.int p2), .val (.int p3), .val (.int p4), .val (.int p5), .val (.long q6), .second, .val (.int (p1 &&& (3 : Int32))), .val (.int (0 : Int32)), .unset, .unset, .unset, .unset, .unset] [(.int p1)])) _
            refine XS.iconst X0.here hx rfl (hb hby at_19) ?_
            show Steps p.tables e below (s₁.setTop (mkF m 20 #[.val (.int p1), .val (.int p2), .val (.int p3), .val (.int p4), .val (.int p5), .val (.long q6), .second, .val (.int (p1 &&& (3 : Int32))), .val (.int (0 : Int32)), .unset, .unset, .unset, .unset, .unset] [(.int (3 : Int32)), (.int p1)])) _
            refine XS.ishr X0.here hx rfl (hb hby at_20) rfl ?_
            show Steps p.tables e below (s₁.setTop (mkF m 21 #[.val (.int p1), .val (.int p2), .val (.int p3), .val (.int p4), .val (.int p5), .val (.long q6), .second, .val (.int (p1 &&& (3 : Int32))), .val (.int (0 : Int32)), .unset, .unset, .unset, .unset, .unset] [(.int (p1 >>> ((3 : Int32) &&& 31)))])) _
            refine XS.istore X0.here hx rfl (hb hby at_21) rfl (l' := #[.val (.int p1), .val (.int p2), .val (.int p3), .val (.int p4), .val (.int p5), .val (.long q6), .second, .val (.int (p1 &&& (3 : Int32))), .val (.int (0 : Int32)), .val (.int (p1 >>> ((3 : Int32) &&& 31))), .unset, .unset, .unset, .unset]) rfl ?_
            show Steps p.tables e below (s₁.setTop (mkF m 23 #[.val (.int p1), .val (.int p2), .val (.int p3), .val (.int p4), .val (.int p5), .val (.long q6), .second, .val (.int (p1 &&& (3 : Int32))), .val (.int (0 : Int32)), .val (.int (p1 >>> ((3 : Int32) &&& 31))), .unset, .unset, .unset, .unset] [])) _
            refine XS.iload X0.here hx rfl (hb hby at_23) rfl ?_
            show Steps p.tables e below (s₁.setTop (mkF m 25 #[.val (.int p1), .val (.int p2), .val (.int p3), .val (.int p4), .val (.int p5), .val (.long q6), .second, .val (.int (p1 &&& (3 : Int32))), .val (.int (0 : Int32)), .val (.int (p1 >>> ((3 : Int32) &&& 31))), .unset, .unset, .unset, .unset] [(.int (p1 &&& (3 : Int32)))])) _
            refine XS.iloadN X0.here hx rfl (hb hby at_25) rfl ?_
            show Steps p.tables e below (s₁.setTop (mkF m 26 #[.val (.int p1), .val (.int p2), .val (.int p3), .val (.int p4), .val (.int p5), .val (.long q6), .second, .val (.int (p1 &&& (3 : Int32))), .val (.int (0 : Int32)), .val (.int (p1 >>> ((3 : Int32) &&& 31))), .unset, .unset, .unset, .unset] [(.int p2), (.int (p1 &&& (3 : Int32)))])) _
            refine XS.iloadN X0.here hx rfl (hb hby at_26) rfl ?_
            show Steps p.tables e below (s₁.setTop (mkF m 27 #[.val (.int p1), .val (.int p2), .val (.int p3), .val (.int p4), .val (.int p5), .val (.long q6), .second, .val (.int (p1 &&& (3 : Int32))), .val (.int (0 : Int32)), .val (.int (p1 >>> ((3 : Int32) &&& 31))), .unset, .unset, .unset, .unset] [(.int p3), (.int p2), (.int (p1 &&& (3 : Int32)))])) _
            refine XS.iloadN X0.here hx rfl (hb hby at_27) rfl ?_
            show Steps p.tables e below (s₁.setTop (mkF m 28 #[.val (.int p1), .val (.int p2), .val (.int p3), .val (.int p4), .val (.int p5), .val (.long q6), .second, .val (.int (p1 &&& (3 : Int32))), .val (.int (0 : Int32)), .val (.int (p1 >>> ((3 : Int32) &&& 31))), .unset, .unset, .unset, .unset] [(.int p4), (.int p3), (.int p2), (.int (p1 &&& (3 : Int32)))])) _
            refine st36 _ ?_
            show Steps p.tables e below (T36.setTop (mkF m 31 #[.val (.int p1), .val (.int p2), .val (.int p3), .val (.int p4), .val (.int p5), .val (.long q6), .second, .val (.int (p1 &&& (3 : Int32))), .val (.int (0 : Int32)), .val (.int (p1 >>> ((3 : Int32) &&& 31))), .unset, .unset, .unset, .unset] [(.ref r_36)])) _
            refine XS.astore X36.here hx rfl (hb hby at_31) rfl rfl (l' := #[.val (.int p1), .val (.int p2), .val (.int p3), .val (.int p4), .val (.int p5), .val (.long q6), .second, .val (.int (p1 &&& (3 : Int32))), .val (.int (0 : Int32)), .val (.int (p1 >>> ((3 : Int32) &&& 31))), .val (.ref r_36), .unset, .unset, .unset]) rfl ?_
            show Steps p.tables e below (T36.setTop (mkF m 33 #[.val (.int p1), .val (.int p2), .val (.int p3), .val (.int p4), .val (.int p5), .val (.long q6), .second, .val (.int (p1 &&& (3 : Int32))), .val (.int (0 : Int32)), .val (.int (p1 >>> ((3 : Int32) &&& 31))), .val (.ref r_36), .unset, .unset, .unset] [])) _
            refine st39 _ ?_
            show Steps p.tables e below (T39.setTop (mkF m 36 #[.val (.int p1), .val (.int p2), .val (.int p3), .val (.int p4), .val (.int p5), .val (.long q6), .second, .val (.int (p1 &&& (3 : Int32))), .val (.int (0 : Int32)), .val (.int (p1 >>> ((3 : Int32) &&& 31))), .val (.ref r_36), .unset, .unset, .unset] [(.ref b39)])) _
            refine XS.dup X39.here hx rfl (hb hby at_36) rfl rfl ?_
            show Steps p.tables e below (T39.setTop (mkF m 37 #[.val (.int p1), .val (.int p2), .val (.int p3), .val (.int p4), .val (.int p5), .val (.long q6), .second, .val (.int (p1 &&& (3 : Int32))), .val (.int (0 : Int32)), .val (.int (p1 >>> ((3 : Int32) &&& 31))), .val (.ref r_36), .unset, .unset, .unset] [(.ref b39), (.ref b39)])) _
            refine XS.aload X39.here hx rfl (hb hby at_37) rfl rfl ?_
            show Steps p.tables e below (T39.setTop (mkF m 39 #[.val (.int p1), .val (.int p2), .val (.int p3), .val (.int p4), .val (.int p5), .val (.long q6), .second, .val (.int (p1 &&& (3 : Int32))), .val (.int (0 : Int32)), .val (.int (p1 >>> ((3 : Int32) &&& 31))), .val (.ref r_36), .unset, .unset, .unset] [(.ref r_36), (.ref b39), (.ref b39)])) _
            refine XS.iload X39.here hx rfl (hb hby at_39) rfl ?_
            show Steps p.tables e below (T39.setTop (mkF m 41 #[.val (.int p1), .val (.int p2), .val (.int p3), .val (.int p4), .val (.int p5), .val (.long q6), .second, .val (.int (p1 &&& (3 : Int32))), .val (.int (0 : Int32)), .val (.int (p1 >>> ((3 : Int32) &&& 31))), .val (.ref r_36), .unset, .unset, .unset] [(.int p5), (.ref r_36), (.ref b39), (.ref b39)])) _
            refine XS.iload X39.here hx rfl (hb hby at_41) rfl ?_
            show Steps p.tables e below (T39.setTop (mkF m 43 #[.val (.int p1), .val (.int p2), .val (.int p3), .val (.int p4), .val (.int p5), .val (.long q6), .second, .val (.int (p1 &&& (3 : Int32))), .val (.int (0 : Int32)), .val (.int (p1 >>> ((3 : Int32) &&& 31))), .val (.ref r_36), .unset, .unset, .unset] [(.int (p1 >>> ((3 : Int32) &&& 31))), (.int p5), (.ref r_36), (.ref b39), (.ref b39)])) _
            refine XS.iload X39.here hx rfl (hb hby at_43) rfl ?_
            show Steps p.tables e below (T39.setTop (mkF m 45 #[.val (.int p1), .val (.int p2), .val (.int p3), .val (.int p4), .val (.int p5), .val (.long q6), .second, .val (.int (p1 &&& (3 : Int32))), .val (.int (0 : Int32)), .val (.int (p1 >>> ((3 : Int32) &&& 31))), .val (.ref r_36), .unset, .unset, .unset] [(.int (0 : Int32)), (.int (p1 >>> ((3 : Int32) &&& 31))), (.int p5), (.ref r_36), (.ref b39), (.ref b39)])) _
            refine XS.lload X39.here hx rfl (hb hby at_45) rfl ?_
            show Steps p.tables e below (T39.setTop (mkF m 47 #[.val (.int p1), .val (.int p2), .val (.int p3), .val (.int p4), .val (.int p5), .val (.long q6), .second, .val (.int (p1 &&& (3 : Int32))), .val (.int (0 : Int32)), .val (.int (p1 >>> ((3 : Int32) &&& 31))), .val (.ref r_36), .unset, .unset, .unset] [(.long q6), (.int (0 : Int32)), (.int (p1 >>> ((3 : Int32) &&& 31))), (.int p5), (.ref r_36), (.ref b39), (.ref b39)])) _
            refine st48.trans ?_
            show Steps p.tables e below (T48.setTop (mkF m 50 #[.val (.int p1), .val (.int p2), .val (.int p3), .val (.int p4), .val (.int p5), .val (.long q6), .second, .val (.int (p1 &&& (3 : Int32))), .val (.int (0 : Int32)), .val (.int (p1 >>> ((3 : Int32) &&& 31))), .val (.ref r_36), .unset, .unset, .unset] [(.ref b39)])) _
            refine XS.astore X48.here hx rfl (hb hby at_50) rfl rfl (l' := #[.val (.int p1), .val (.int p2), .val (.int p3), .val (.int p4), .val (.int p5), .val (.long q6), .second, .val (.int (p1 &&& (3 : Int32))), .val (.int (0 : Int32)), .val (.int (p1 >>> ((3 : Int32) &&& 31))), .val (.ref r_36), .val (.ref b39), .unset, .unset]) rfl ?_
            show Steps p.tables e below (T48.setTop (mkF m 52 #[.val (.int p1), .val (.int p2), .val (.int p3), .val (.int p4), .val (.int p5), .val (.long q6), .second, .val (.int (p1 &&& (3 : Int32))), .val (.int (0 : Int32)), .val (.int (p1 >>> ((3 : Int32) &&& 31))), .val (.ref r_36), .val (.ref b39), .unset, .unset] [])) _
            refine XS.aload X48.here hx rfl (hb hby at_52) rfl rfl ?_
            show Steps p.tables e below (T48.setTop (mkF m 54 #[.val (.int p1), .val (.int p2), .val (.int p3), .val (.int p4), .val (.int p5), .val (.long q6), .second, .val (.int (p1 &&& (3 : Int32))), .val (.int (0 : Int32)), .val (.int (p1 >>> ((3 : Int32) &&& 31))), .val (.ref r_36), .val (.ref b39), .unset, .unset] [(.ref b39)])) _
            refine st51.trans ?_
            show Steps p.tables e below (T51.setTop (mkF m 57 #[.val (.int p1), .val (.int p2), .val (.int p3), .val (.int p4), .val (.int p5), .val (.long q6), .second, .val (.int (p1 &&& (3 : Int32))), .val (.int (0 : Int32)), .val (.int (p1 >>> ((3 : Int32) &&& 31))), .val (.ref r_36), .val (.ref b39), .unset, .unset] [(.int (0 : Int32))])) _
            refine XS.istore X51.here hx rfl (hb hby at_57) rfl (l' := #[.val (.int p1), .val (.int p2), .val (.int p3), .val (.int p4), .val (.int p5), .val (.long q6), .second, .val (.int (p1 &&& (3 : Int32))), .val (.int (0 : Int32)), .val (.int (p1 >>> ((3 : Int32) &&& 31))), .val (.ref r_36), .val (.ref b39), .val (.int (0 : Int32)), .unset]) rfl ?_
            show Steps p.tables e below (T51.setTop (mkF m 59 #[.val (.int p1), .val (.int p2), .val (.int p3), .val (.int p4), .val (.int p5), .val (.long q6), .second, .val (.int (p1 &&& (3 : Int32))), .val (.int (0 : Int32)), .val (.int (p1 >>> ((3 : Int32) &&& 31))), .val (.ref r_36), .val (.ref b39), .val (.int (0 : Int32)), .unset] [])) _
            refine XS.aload X51.here hx rfl (hb hby at_59) rfl rfl ?_
            show Steps p.tables e below (T51.setTop (mkF m 61 #[.val (.int p1), .val (.int p2), .val (.int p3), .val (.int p4), .val (.int p5), .val (.long q6), .second, .val (.int (p1 &&& (3 : Int32))), .val (.int (0 : Int32)), .val (.int (p1 >>> ((3 : Int32) &&& 31))), .val (.ref r_36), .val (.ref b39), .val (.int (0 : Int32)), .unset] [(.ref b39)])) _
            refine st53.trans ?_
            show Steps p.tables e below (T53.setTop (mkF m 64 #[.val (.int p1), .val (.int p2), .val (.int p3), .val (.int p4), .val (.int p5), .val (.long q6), .second, .val (.int (p1 &&& (3 : Int32))), .val (.int (0 : Int32)), .val (.int (p1 >>> ((3 : Int32) &&& 31))), .val (.ref r_36), .val (.ref b39), .val (.int (0 : Int32)), .unset] [(.int (2 : Int32))])) _
            refine XS.istore X53.here hx rfl (hb hby at_64) rfl (l' := #[.val (.int p1), .val (.int p2), .val (.int p3), .val (.int p4), .val (.int p5), .val (.long q6), .second, .val (.int (p1 &&& (3 : Int32))), .val (.int (0 : Int32)), .val (.int (p1 >>> ((3 : Int32) &&& 31))), .val (.ref r_36), .val (.ref b39), .val (.int (0 : Int32)), .val (.int (2 : Int32))]) rfl ?_
            show Steps p.tables e below (T53.setTop (mkF m 66 #[.val (.int p1), .val (.int p2), .val (.int p3), .val (.int p4), .val (.int p5), .val (.long q6), .second, .val (.int (p1 &&& (3 : Int32))), .val (.int (0 : Int32)), .val (.int (p1 >>> ((3 : Int32) &&& 31))), .val (.ref r_36), .val (.ref b39), .val (.int (0 : Int32)), .val (.int (2 : Int32))] [])) _
            refine XS.iload X53.here hx rfl (hb hby at_66) rfl ?_
            show Steps p.tables e below (T53.setTop (mkF m 68 #[.val (.int p1), .val (.int p2), .val (.int p3), .val (.int p4), .val (.int p5), .val (.long q6), .second, .val (.int (p1 &&& (3 : Int32))), .val (.int (0 : Int32)), .val (.int (p1 >>> ((3 : Int32) &&& 31))), .val (.ref r_36), .val (.ref b39), .val (.int (0 : Int32)), .val (.int (2 : Int32))] [(.int (0 : Int32))])) _
            refine XS.iload X53.here hx rfl (hb hby at_68) rfl ?_
            show Steps p.tables e below (T53.setTop (mkF m 70 #[.val (.int p1), .val (.int p2), .val (.int p3), .val (.int p4), .val (.int p5), .val (.long q6), .second, .val (.int (p1 &&& (3 : Int32))), .val (.int (0 : Int32)), .val (.int (p1 >>> ((3 : Int32) &&& 31))), .val (.ref r_36), .val (.ref b39), .val (.int (0 : Int32)), .val (.int (2 : Int32))] [(.int (p1 &&& (3 : Int32))), (.int (0 : Int32))])) _
            refine XS.ifYes X53.here hx rfl (pc0 := 70) (pc' := 77) rfl (hb hby at_70) rfl ((if0 _ _).trans (feq hc2).2) (by decide) (by decide) ?_
            show Steps p.tables e below (T53.setTop (mkF m 77 #[.val (.int p1), .val (.int p2), .val (.int p3), .val (.int p4), .val (.int p5), .val (.long q6), .second, .val (.int (p1 &&& (3 : Int32))), .val (.int (0 : Int32)), .val (.int (p1 >>> ((3 : Int32) &&& 31))), .val (.ref r_36), .val (.ref b39), .val (.int (0 : Int32)), .val (.int (2 : Int32))] [(.int (0 : Int32))])) _
            refine XS.iconst X53.here hx rfl (hb hby at_77) ?_
            show Steps p.tables e below (T53.setTop (mkF m 78 #[.val (.int p1), .val (.int p2), .val (.int p3), .val (.int p4), .val (.int p5), .val (.long q6), .second, .val (.int (p1 &&& (3 : Int32))), .val (.int (0 : Int32)), .val (.int (p1 >>> ((3 : Int32) &&& 31))), .val (.ref r_36), .val (.ref b39), .val (.int (0 : Int32)), .val (.int (2 : Int32))] [(.int (0 : Int32)), (.int (0 : Int32))])) _
            refine XS.icmpNo X53.here hx rfl (hb hby at_78) rfl (teq (by decide : (0 : Int32) = (0 : Int32))).2 ?_
            show Steps p.tables e below (T53.setTop (mkF m 81 #[.val (.int p1), .val (.int p2), .val (.int p3), .val (.int p4), .val (.int p5), .val (.long q6), .second, .val (.int (p1 &&& (3 : Int32))), .val (.int (0 : Int32)), .val (.int (p1 >>> ((3 : Int32) &&& 31))), .val (.ref r_36), .val (.ref b39), .val (.int (0 : Int32)), .val (.int (2 : Int32))] [])) _
            refine XS.iload X53.here hx rfl (hb hby at_81) rfl ?_
            show Steps p.tables e below (T53.setTop (mkF m 83 #[.val (.int p1), .val (.int p2), .val (.int p3), .val (.int p4), .val (.int p5), .val (.long q6), .second, .val (.int (p1 &&& (3 : Int32))), .val (.int (0 : Int32)), .val (.int (p1 >>> ((3 : Int32) &&& 31))), .val (.ref r_36), .val (.ref b39), .val (.int (0 : Int32)), .val (.int (2 : Int32))] [(.int (2 : Int32))])) _
            refine XS.iload X53.here hx rfl (hb hby at_83) rfl ?_
            show Steps p.tables e below (T53.setTop (mkF m 85 #[.val (.int p1), .val (.int p2), .val (.int p3), .val (.int p4), .val (.int p5), .val (.long q6), .second, .val (.int (p1 &&& (3 : Int32))), .val (.int (0 : Int32)), .val (.int (p1 >>> ((3 : Int32) &&& 31))), .val (.ref r_36), .val (.ref b39), .val (.int (0 : Int32)), .val (.int (2 : Int32))] [(.int (p1 &&& (3 : Int32))), (.int (2 : Int32))])) _
            refine XS.icmpNo X53.here hx rfl (hb hby at_85) rfl (teq (Eq.symm hc4)).2 ?_
            show Steps p.tables e below (T53.setTop (mkF m 88 #[.val (.int p1), .val (.int p2), .val (.int p3), .val (.int p4), .val (.int p5), .val (.long q6), .second, .val (.int (p1 &&& (3 : Int32))), .val (.int (0 : Int32)), .val (.int (p1 >>> ((3 : Int32) &&& 31))), .val (.ref r_36), .val (.ref b39), .val (.int (0 : Int32)), .val (.int (2 : Int32))] [])) _
            refine XS.iload X53.here hx rfl (hb hby at_88) rfl ?_
            show Steps p.tables e below (T53.setTop (mkF m 90 #[.val (.int p1), .val (.int p2), .val (.int p3), .val (.int p4), .val (.int p5), .val (.long q6), .second, .val (.int (p1 &&& (3 : Int32))), .val (.int (0 : Int32)), .val (.int (p1 >>> ((3 : Int32) &&& 31))), .val (.ref r_36), .val (.ref b39), .val (.int (0 : Int32)), .val (.int (2 : Int32))] [(.int (0 : Int32))])) _
            refine XS.iload X53.here hx rfl (hb hby at_90) rfl ?_
            show Steps p.tables e below (T53.setTop (mkF m 92 #[.val (.int p1), .val (.int p2), .val (.int p3), .val (.int p4), .val (.int p5), .val (.long q6), .second, .val (.int (p1 &&& (3 : Int32))), .val (.int (0 : Int32)), .val (.int (p1 >>> ((3 : Int32) &&& 31))), .val (.ref r_36), .val (.ref b39), .val (.int (0 : Int32)), .val (.int (2 : Int32))] [(.int (2 : Int32)), (.int (0 : Int32))])) _
            refine XS.ifYes X53.here hx rfl (pc0 := 92) (pc' := 99) rfl (hb hby at_92) rfl ((if0 _ _).trans (feq (by decide : ¬ ((2 : Int32) = (0 : Int32)))).2) (by decide) (by decide) ?_
            show Steps p.tables e below (T53.setTop (mkF m 99 #[.val (.int p1), .val (.int p2), .val (.int p3), .val (.int p4), .val (.int p5), .val (.long q6), .second, .val (.int (p1 &&& (3 : Int32))), .val (.int (0 : Int32)), .val (.int (p1 >>> ((3 : Int32) &&& 31))), .val (.ref r_36), .val (.ref b39), .val (.int (0 : Int32)), .val (.int (2 : Int32))] [(.int (0 : Int32))])) _
            refine XS.iconst X53.here hx rfl (hb hby at_99) ?_
            show Steps p.tables e below (T53.setTop (mkF m 100 #[.val (.int p1), .val (.int p2), .val (.int p3), .val (.int p4), .val (.int p5), .val (.long q6), .second, .val (.int (p1 &&& (3 : Int32))), .val (.int (0 : Int32)), .val (.int (p1 >>> ((3 : Int32) &&& 31))), .val (.ref r_36), .val (.ref b39), .val (.int (0 : Int32)), .val (.int (2 : Int32))] [(.int (0 : Int32)), (.int (0 : Int32))])) _
            refine XS.icmpNo X53.here hx rfl (hb hby at_100) rfl (teq (by decide : (0 : Int32) = (0 : Int32))).2 ?_
            show Steps p.tables e below (T53.setTop (mkF m 103 #[.val (.int p1), .val (.int p2), .val (.int p3), .val (.int p4), .val (.int p5), .val (.long q6), .second, .val (.int (p1 &&& (3 : Int32))), .val (.int (0 : Int32)), .val (.int (p1 >>> ((3 : Int32) &&& 31))), .val (.ref r_36), .val (.ref b39), .val (.int (0 : Int32)), .val (.int (2 : Int32))] [])) _
            refine XS.iconst X53.here hx rfl (hb hby at_103) ?_
            show Steps p.tables e below (T53.setTop (mkF m 104 #[.val (.int p1), .val (.int p2), .val (.int p3), .val (.int p4), .val (.int p5), .val (.long q6), .second, .val (.int (p1 &&& (3 : Int32))), .val (.int (0 : Int32)), .val (.int (p1 >>> ((3 : Int32) &&& 31))), .val (.ref r_36), .val (.ref b39), .val (.int (0 : Int32)), .val (.int (2 : Int32))] [(.int (1 : Int32))])) _
            refine XS.goto X53.here hx rfl (pc0 := 104) (pc' := 108) rfl (hb hby at_104) (by decide) (by decide) ?_
            show Steps p.tables e below (T53.setTop (mkF m 108 #[.val (.int p1), .val (.int p2), .val (.int p3), .val (.int p4), .val (.int p5), .val (.long q6), .second, .val (.int (p1 &&& (3 : Int32))), .val (.int (0 : Int32)), .val (.int (p1 >>> ((3 : Int32) &&& 31))), .val (.ref r_36), .val (.ref b39), .val (.int (0 : Int32)), .val (.int (2 : Int32))] [(.int (1 : Int32))])) _
            exact retN X53 hx (t := .boolean) Bd.returns (by simp) (hb hby at_108) hr
          · show Q_rm0 Z p1 p2 p3 p4 p5 q6 h0 n0 _ T53.heap _
            exact ⟨rfl, N53⟩
        · obtain ⟨_, _, ⟨T54, L54, k54, n54⟩, -, X54, ⟨Lc54, hQ54, l54, y54, z54⟩, st54⟩ := Jvm.LawKit.callS X0 hx (y := (⟨"com/example/concordia/concordia/clause/ClauseIsEmptyPinLaw", "literalsOf", "(IIII)[I"⟩ : MethodName)) hown (mvT hZ (hw _ (List.mem_of_getElem? (i := 0) rfl))) (mvT hZ (hw _ (List.mem_of_getElem? (i := 1) rfl))) (mvT hZ (hw _ (List.mem_of_getElem? (i := 2) rfl))) (mvT hZ (hw _ (List.mem_of_getElem? (i := 3) rfl))) (by decide) (backOf (W := 0) (rm_lit3 l Z a0 hw [] (p1 &&& (3 : Int32)) p2 p3 p4 h0 n0 Z0 hc2 hc3 hc4) hZ (hw _ (List.mem_of_getElem? (i := 3) rfl)) (hw _ (List.mem_of_getElem? (i := 2) rfl)) (by decide) (by decide)) (g := (mkF m 28 #[.val (.int p1), .val (.int p2), .val (.int p3), .val (.int p4), .val (.int p5), .val (.long q6), .second, .val (.int (p1 &&& (3 : Int32))), .val (.int (0 : Int32)), .val (.int (p1 >>> ((3 : Int32) &&& 31))), .unset, .unset, .unset, .unset] [(.int p4), (.int p3), (.int p2), (.int (p1 &&& (3 : Int32)))])) rfl (by rw [hml]; rfl) (argsL := [(.int (p1 &&& (3 : Int32))), (.int p2), (.int p3), (.int p4)]) (rest := []) (lenOf pd__40IIII_41_91I rfl) rfl (by show 2 * 0 + _ ≤ _; exact Nat.le_of_eq rfl) (hb hby at_28) (fun _ _ => ⟨rfl, e0, (by decide : 0 + 1 ≤ _), (by decide : 0 + 3 ≤ _)⟩)
          dsimp only [Pt.U, Pt.locs, Pt.cells, Pt.slots] at X54 l54 y54 z54 st54 hQ54
          subst l54 y54 z54
          obtain ⟨r_54, k_54, rfl, Nq54, Kc54, p54_0, p54_1⟩ := hQ54
          have gzr_54 : h0.size ≤ r_54 := Nat.le_trans (Keep.refl h0 []).1 p54_0
          have gnr_54 : n0 ≤ r_54 := Nat.le_trans Z0 gzr_54
          have K56 : Keep h0 T54.heap [] := (Keep.refl h0 []).trans Kc54 all0
          have N54 := Fr.app N0 Nq54
          obtain ⟨T57, h57, X57, e57, E57, A57, D57, -, st57⟩ := newO X54 hx hZ hown (hw _ (List.mem_of_getElem? (i := 5) rfl)) (hw _ (List.mem_of_getElem? (i := 6) rfl)) (hw _ (List.mem_of_getElem? (i := 7) rfl)) rfl (g := (mkF m 33 #[.val (.int p1), .val (.int p2), .val (.int p3), .val (.int p4), .val (.int p5), .val (.long q6), .second, .val (.int (p1 &&& (3 : Int32))), .val (.int (0 : Int32)), .val (.int (p1 >>> ((3 : Int32) &&& 31))), .val (.ref r_54), .unset, .unset, .unset] [])) rfl (hb hby at_33) (by decide) (by decide)
          obtain ⟨b57, g57⟩ : ∃ z, z = T54.heap.size := ⟨_, rfl⟩
          rw [← g57] at A57 D57 st57
          have gnb57 : n0 ≤ b57 := Nat.le_trans (Nat.le_trans Z0 K56.1) (Nat.le_of_eq g57.symm)
          have gzb57 : h0.size ≤ b57 := Nat.le_trans K56.1 (Nat.le_of_eq g57.symm)
          have K58 : Keep h0 h57 [] := K56.ext E57
          have f59 : Fld Z h57 b57 "com/example/concordia/concordia/clause/Clause" "literals" "[I" .null := D57 (Or.inr (hw _ (List.mem_of_getElem? (i := 15) rfl))) (ty := (.array .int)) (by decide)
          have f60 : Fld Z h57 b57 "com/example/concordia/concordia/clause/Clause" "unit" "I" (.int (0 : Int32)) := D57 (Or.inr (hw _ (List.mem_of_getElem? (i := 17) rfl))) (ty := .int) (by decide)
          have f61 : Fld Z h57 b57 "com/example/concordia/concordia/clause/Clause" "weight" "I" (.int (0 : Int32)) := D57 (Or.inr (hw _ (List.mem_of_getElem? (i := 19) rfl))) (ty := .int) (by decide)
          have f62 : Fld Z h57 b57 "com/example/concordia/concordia/clause/Clause" "variableCount" "I" (.int (0 : Int32)) := D57 (Or.inr (hw _ (List.mem_of_getElem? (i := 21) rfl))) (ty := .int) (by decide)
          have f63 : Fld Z h57 b57 "com/example/concordia/concordia/clause/Clause" "tautology" "Z" (.int (0 : Int32)) := D57 (Or.inr (hw _ (List.mem_of_getElem? (i := 23) rfl))) (ty := .boolean) (by decide)
          have f64 : Fld Z h57 b57 "com/example/concordia/concordia/clause/Clause" "signature" "J" (.long (0 : Int64)) := D57 (Or.inr (hw _ (List.mem_of_getElem? (i := 25) rfl))) (ty := .long) (by decide)
          have f65 : Arv Z h57 r_54 k_54 .int (3 : Int32) [(.int p2), (.int p3), (.int p4)] (.int (0 : Int32)) := (p54_1.ext E57)
          obtain ⟨_, _, ⟨T66, L66, k66, n66⟩, -, X66, ⟨Lc66, hQ66, l66, y66, z66⟩, st66⟩ := X57.specialBack hx (y := (⟨"com/example/concordia/concordia/clause/Clause", "<init>", "([IIIZJ)V"⟩ : MethodName)) rfl hown (mvT hZ (hw _ (List.mem_of_getElem? (i := 8) rfl))) (mvT hZ (hw _ (List.mem_of_getElem? (i := 9) rfl))) (mvT hZ (hw _ (List.mem_of_getElem? (i := 10) rfl))) (by decide) (backOf (W := 1) (rm_inin l Z a0 hw [] b57 r_54 p5 (p1 >>> ((3 : Int32) &&& 31)) (0 : Int32) q6 .null (.int (0 : Int32)) (.int (0 : Int32)) (.int (0 : Int32)) (.int (0 : Int32)) (.long (0 : Int64)) k_54 (3 : Int32) [(.int p2), (.int p3), (.int p4)] h57 n0 (Nat.le_trans Z0 K58.1) A57 f59 f60 f61 f62 f63 f64 gnb57 f65 (by decide : ¬ ((3 : Int32) = (1 : Int32)))) hZ (hw _ (List.mem_of_getElem? (i := 10) rfl)) (hw _ (List.mem_of_getElem? (i := 7) rfl)) (by decide) (by decide)) (g := (mkF m 47 #[.val (.int p1), .val (.int p2), .val (.int p3), .val (.int p4), .val (.int p5), .val (.long q6), .second, .val (.int (p1 &&& (3 : Int32))), .val (.int (0 : Int32)), .val (.int (p1 >>> ((3 : Int32) &&& 31))), .val (.ref r_54), .unset, .unset, .unset] [(.long q6), (.int (0 : Int32)), (.int (p1 >>> ((3 : Int32) &&& 31))), (.int p5), (.ref r_54), (.ref b57), (.ref b57)])) rfl (by rw [hml]; rfl) (Steps.refl _) (a := b57) (argsL := [(.ref r_54), (.int p5), (.int (p1 >>> ((3 : Int32) &&& 31))), (.int (0 : Int32)), (.long q6)]) (rest := [(.ref b57)]) (lenOf pd__40_91IIIZJ_41V rfl) rfl (by show 2 * 0 + _ ≤ _; exact Nat.le_of_eq rfl) (hb hby at_47) (fun _ _ => ⟨rfl, e57, (by decide : 2 + 0 ≤ _), (by decide : 9 + 0 ≤ _)⟩)
          dsimp only [Pt.U, Pt.locs, Pt.cells, Pt.slots] at X66 l66 y66 z66 st66 hQ66
          subst l66 y66 z66
          obtain ⟨rfl, Nq66, Kc66, p66_0⟩ := hQ66
          have K67 : Keep h0 T66.heap [] := K58.trans Kc66 (allS (Or.inr gzb57) all0)
          have N66 := Fr.app N54 Nq66
          have f68 : Arv Z T66.heap r_54 k_54 .int (3 : Int32) [(.int p2), (.int p3), (.int p4)] (.int (0 : Int32)) := (f65.keep Kc66 (ninS (Nat.ne_of_lt (Nat.lt_of_lt_of_le p54_1.lt (Nat.le_of_eq g57.symm))) nin0))
          have f70 : Exa Z T66.heap b57 "com/example/concordia/concordia/clause/Clause" := (A57.keep Kc66)
          obtain ⟨cq69, kq69, q69a, q69b, q69c⟩ := isOf hZ rfl f70
          obtain ⟨_, _, ⟨T69, L69, k69, n69⟩, -, X69, ⟨Lc69, hQ69, l69, y69, z69⟩, st69⟩ := X66.virtualBack hx (y := (⟨"com/example/concordia/concordia/clause/Clause", "isEmpty", "()Z"⟩ : MethodName)) (z := (⟨"com/example/concordia/concordia/clause/Clause", "isEmpty", "()Z"⟩ : MethodName)) hown (mvT hZ (hw _ (List.mem_of_getElem? (i := 26) rfl))) (mvT hZ (hw _ (List.mem_of_getElem? (i := 27) rfl))) (notFace_of_selects (args := #[]) (mvT hZ (hw _ (List.mem_of_getElem? (i := 29) rfl)))) (mvT hZ (hw _ (List.mem_of_getElem? (i := 29) rfl))) (mvT hZ (hw _ (List.mem_of_getElem? (i := 28) rfl))) (by decide) (backOf (W := 0) (rm_emn l Z a0 hw [] b57 r_54 k_54 (3 : Int32) [(.int p2), (.int p3), (.int p4)] T66.heap n0 (Nat.le_trans Z0 K67.1) p66_0 f68 (by decide : ¬ ((3 : Int32) = (0 : Int32)))) hZ (hw _ (List.mem_of_getElem? (i := 30) rfl)) (hw _ (List.mem_of_getElem? (i := 7) rfl)) (by decide) (by decide)) q69a q69c (g := (mkF m 54 #[.val (.int p1), .val (.int p2), .val (.int p3), .val (.int p4), .val (.int p5), .val (.long q6), .second, .val (.int (p1 &&& (3 : Int32))), .val (.int (0 : Int32)), .val (.int (p1 >>> ((3 : Int32) &&& 31))), .val (.ref r_54), .val (.ref b57), .unset, .unset] [(.ref b57)])) rfl (by rw [hml]; rfl) (Steps.refl _) (argsL := []) (rest := []) (lenOf pd__40_41Z rfl) rfl (by show 2 * 0 + _ ≤ _; exact Nat.le_of_eq rfl) (hb hby at_54) (fun _ _ => ⟨rfl, rfl, (by decide : 2 + 0 ≤ _), (by decide : 9 + 0 ≤ _)⟩)
          dsimp only [Pt.U, Pt.locs, Pt.cells, Pt.slots] at X69 l69 y69 z69 st69 hQ69
          subst l69 y69 z69
          obtain ⟨rfl, Nq69, e69⟩ := hQ69
          have N69 := Fr.app N66 Nq69
          obtain ⟨cq71, kq71, q71a, q71b, q71c⟩ := isOf hZ e69 f70
          obtain ⟨_, _, ⟨T71, L71, k71, n71⟩, -, X71, ⟨Lc71, hQ71, l71, y71, z71⟩, st71⟩ := X69.virtualBack hx (y := (⟨"com/example/concordia/concordia/clause/Clause", "literalCount", "()I"⟩ : MethodName)) (z := (⟨"com/example/concordia/concordia/clause/Clause", "literalCount", "()I"⟩ : MethodName)) hown (mvT hZ (hw _ (List.mem_of_getElem? (i := 31) rfl))) (mvT hZ (hw _ (List.mem_of_getElem? (i := 32) rfl))) (notFace_of_selects (args := #[]) (mvT hZ (hw _ (List.mem_of_getElem? (i := 34) rfl)))) (mvT hZ (hw _ (List.mem_of_getElem? (i := 34) rfl))) (mvT hZ (hw _ (List.mem_of_getElem? (i := 33) rfl))) (by decide) (backOf (W := 0) (rm_lc l Z a0 hw [] b57 r_54 k_54 (3 : Int32) [(.int p2), (.int p3), (.int p4)] T66.heap n0 (Nat.le_trans Z0 K67.1) p66_0 f68) hZ (hw _ (List.mem_of_getElem? (i := 35) rfl)) (hw _ (List.mem_of_getElem? (i := 7) rfl)) (by decide) (by decide)) q71a q71c (g := (mkF m 61 #[.val (.int p1), .val (.int p2), .val (.int p3), .val (.int p4), .val (.int p5), .val (.long q6), .second, .val (.int (p1 &&& (3 : Int32))), .val (.int (0 : Int32)), .val (.int (p1 >>> ((3 : Int32) &&& 31))), .val (.ref r_54), .val (.ref b57), .val (.int (0 : Int32)), .unset] [(.ref b57)])) rfl (by rw [hml]; rfl) (Steps.refl _) (argsL := []) (rest := []) (lenOf pd__40_41I rfl) rfl (by show 2 * 0 + _ ≤ _; exact Nat.le_of_eq rfl) (hb hby at_61) (fun _ _ => ⟨rfl, e69, (by decide : 2 + 0 ≤ _), (by decide : 9 + 0 ≤ _)⟩)
          dsimp only [Pt.U, Pt.locs, Pt.cells, Pt.slots] at X71 l71 y71 z71 st71 hQ71
          subst l71 y71 z71
          obtain ⟨rfl, Nq71, e71⟩ := hQ71
          have N71 := Fr.app N69 Nq71
          obtain ⟨fs, hr, hrun, hended, hW, hsame⟩ := X71.leave (v := some (.int (1 : Int32))) (fun h => by rw [Bd.returns] at h; cases h)
          refine ⟨_, _, pre0 _ ?_, hrun, hended, _, _, rfl, ?_, ⟨_, rfl⟩, hW, hsame.mono (by decide) (by decide)⟩
          · show Steps p.tables e below (s₁.setTop (mkF m 0 #[.val (.int p1), .val (.int p2), .val (.int p3), .val (.int p4), .val (.int p5), .val (.long q6), .second, .unset, .unset, .unset, .unset, .unset, .unset, .unset] [])) _
            refine XS.iloadN X0.here hx rfl (hb hby at_0) rfl ?_
            show Steps p.tables e below (s₁.setTop (mkF m 1 #[.val (.int p1), .val (.int p2), .val (.int p3), .val (.int p4), .val (.int p5), .val (.long q6), .second, .unset, .unset, .unset, .unset, .unset, .unset, .unset] [(.int p1)])) _
            refine XS.iconst X0.here hx rfl (hb hby at_1) ?_
            show Steps p.tables e below (s₁.setTop (mkF m 2 #[.val (.int p1), .val (.int p2), .val (.int p3), .val (.int p4), .val (.int p5), .val (.long q6), .second, .unset, .unset, .unset, .unset, .unset, .unset, .unset] [(.int (3 : Int32)), (.int p1)])) _
            refine XS.iand X0.here hx rfl (hb hby at_2) rfl ?_
            show Steps p.tables e below (s₁.setTop (mkF m 3 #[.val (.int p1), .val (.int p2), .val (.int p3), .val (.int p4), .val (.int p5), .val (.long q6), .second, .unset, .unset, .unset, .unset, .unset, .unset, .unset] [(.int (p1 &&& (3 : Int32)))])) _
            refine XS.istore X0.here hx rfl (hb hby at_3) rfl (l' := #[.val (.int p1), .val (.int p2), .val (.int p3), .val (.int p4), .val (.int p5), .val (.long q6), .second, .val (.int (p1 &&& (3 : Int32))), .unset, .unset, .unset, .unset, .unset, .unset]) rfl ?_
            show Steps p.tables e below (s₁.setTop (mkF m 5 #[.val (.int p1), .val (.int p2), .val (.int p3), .val (.int p4), .val (.int p5), .val (.long q6), .second, .val (.int (p1 &&& (3 : Int32))), .unset, .unset, .unset, .unset, .unset, .unset] [])) _
            refine XS.iloadN X0.here hx rfl (hb hby at_5) rfl ?_
            show Steps p.tables e below (s₁.setTop (mkF m 6 #[.val (.int p1), .val (.int p2), .val (.int p3), .val (.int p4), .val (.int p5), .val (.long q6), .second, .val (.int (p1 &&& (3 : Int32))), .unset, .unset, .unset, .unset, .unset, .unset] [(.int p1)])) _
            refine XS.iconst X0.here hx rfl (hb hby at_6) ?_
            show Steps p.tables e below (s₁.setTop (mkF m 7 #[.val (.int p1), .val (.int p2), .val (.int p3), .val (.int p4), .val (.int p5), .val (.long q6), .second, .val (.int (p1 &&& (3 : Int32))), .unset, .unset, .unset, .unset, .unset, .unset] [(.int (4 : Int32)), (.int p1)])) _
            refine XS.iand X0.here hx rfl (hb hby at_7) rfl ?_
            show Steps p.tables e below (s₁.setTop (mkF m 8 #[.val (.int p1), .val (.int p2), .val (.int p3), .val (.int p4), .val (.int p5), .val (.long q6), .second, .val (.int (p1 &&& (3 : Int32))), .unset, .unset, .unset, .unset, .unset, .unset] [(.int (p1 &&& (4 : Int32)))])) _
            refine XS.ifYes X0.here hx rfl (pc0 := 8) (pc' := 15) rfl (hb hby at_8) rfl ((if0 _ _).trans (teq hc1).1) (by decide) (by decide) ?_
            show Steps p.tables e below (s₁.setTop (mkF m 15 #[.val (.int p1), .val (.int p2), .val (.int p3), .val (.int p4), .val (.int p5), .val (.long q6), .second, .val (.int (p1 &&& (3 : Int32))), .unset, .unset, .unset, .unset, .unset, .unset] [])) _
            refine XS.iconst X0.here hx rfl (hb hby at_15) ?_
            show Steps p.tables e below (s₁.setTop (mkF m 16 #[.val (.int p1), .val (.int p2), .val (.int p3), .val (.int p4), .val (.int p5), .val (.long q6), .second, .val (.int (p1 &&& (3 : Int32))), .unset, .unset, .unset, .unset, .unset, .unset] [(.int (0 : Int32))])) _
            refine XS.istore X0.here hx rfl (hb hby at_16) rfl (l' := #[.val (.int p1), .val (.int p2), .val (.int p3), .val (.int p4), .val (.int p5), .val (.long q6), .second, .val (.int (p1 &&& (3 : Int32))), .val (.int (0 : Int32)), .unset, .unset, .unset, .unset, .unset]) rfl ?_
            show Steps p.tables e below (s₁.setTop (mkF m 18 #[.val (.int p1), .val (.int p2), .val (.int p3), .val (.int p4), .val (.int p5), .val (.long q6), .second, .val (.int (p1 &&& (3 : Int32))), .val (.int (0 : Int32)), .unset, .unset, .unset, .unset, .unset] [])) _
            refine XS.iloadN X0.here hx rfl (hb hby at_18) rfl ?_
            show Steps p.tables e below (s₁.setTop (mkF m 19 #[.val (.int p1), .val (.int p2), .val (.int p3), .val (.int p4), .val (.int p5), .val (.long q6), .second, .val (.int (p1 &&& (3 : Int32))), .val (.int (0 : Int32)), .unset, .unset, .unset, .unset, .unset] [(.int p1)])) _
            refine XS.iconst X0.here hx rfl (hb hby at_19) ?_
            show Steps p.tables e below (s₁.setTop (mkF m 20 #[.val (.int p1), .val (.int p2), .val (.int p3), .val (.int p4), .val (.int p5), .val (.long q6), .second, .val (.int (p1 &&& (3 : Int32))), .val (.int (0 : Int32)), .unset, .unset, .unset, .unset, .unset] [(.int (3 : Int32)), (.int p1)])) _
            refine XS.ishr X0.here hx rfl (hb hby at_20) rfl ?_
            show Steps p.tables e below (s₁.setTop (mkF m 21 #[.val (.int p1), .val (.int p2), .val (.int p3), .val (.int p4), .val (.int p5), .val (.long q6), .second, .val (.int (p1 &&& (3 : Int32))), .val (.int (0 : Int32)), .unset, .unset, .unset, .unset, .unset] [(.int (p1 >>> ((3 : Int32) &&& 31)))])) _
            refine XS.istore X0.here hx rfl (hb hby at_21) rfl (l' := #[.val (.int p1), .val (.int p2), .val (.int p3), .val (.int p4), .val (.int p5), .val (.long q6), .second, .val (.int (p1 &&& (3 : Int32))), .val (.int (0 : Int32)), .val (.int (p1 >>> ((3 : Int32) &&& 31))), .unset, .unset, .unset, .unset]) rfl ?_
            show Steps p.tables e below (s₁.setTop (mkF m 23 #[.val (.int p1), .val (.int p2), .val (.int p3), .val (.int p4), .val (.int p5), .val (.long q6), .second, .val (.int (p1 &&& (3 : Int32))), .val (.int (0 : Int32)), .val (.int (p1 >>> ((3 : Int32) &&& 31))), .unset, .unset, .unset, .unset] [])) _
            refine XS.iload X0.here hx rfl (hb hby at_23) rfl ?_
            show Steps p.tables e below (s₁.setTop (mkF m 25 #[.val (.int p1), .val (.int p2), .val (.int p3), .val (.int p4), .val (.int p5), .val (.long q6), .second, .val (.int (p1 &&& (3 : Int32))), .val (.int (0 : Int32)), .val (.int (p1 >>> ((3 : Int32) &&& 31))), .unset, .unset, .unset, .unset] [(.int (p1 &&& (3 : Int32)))])) _
            refine XS.iloadN X0.here hx rfl (hb hby at_25) rfl ?_
            show Steps p.tables e below (s₁.setTop (mkF m 26 #[.val (.int p1), .val (.int p2), .val (.int p3), .val (.int p4), .val (.int p5), .val (.long q6), .second, .val (.int (p1 &&& (3 : Int32))), .val (.int (0 : Int32)), .val (.int (p1 >>> ((3 : Int32) &&& 31))), .unset, .unset, .unset, .unset] [(.int p2), (.int (p1 &&& (3 : Int32)))])) _
            refine XS.iloadN X0.here hx rfl (hb hby at_26) rfl ?_
            show Steps p.tables e below (s₁.setTop (mkF m 27 #[.val (.int p1), .val (.int p2), .val (.int p3), .val (.int p4), .val (.int p5), .val (.long q6), .second, .val (.int (p1 &&& (3 : Int32))), .val (.int (0 : Int32)), .val (.int (p1 >>> ((3 : Int32) &&& 31))), .unset, .unset, .unset, .unset] [(.int p3), (.int p2), (.int (p1 &&& (3 : Int32)))])) _
            refine XS.iloadN X0.here hx rfl (hb hby at_27) rfl ?_
            show Steps p.tables e below (s₁.setTop (mkF m 28 #[.val (.int p1), .val (.int p2), .val (.int p3), .val (.int p4), .val (.int p5), .val (.long q6), .second, .val (.int (p1 &&& (3 : Int32))), .val (.int (0 : Int32)), .val (.int (p1 >>> ((3 : Int32) &&& 31))), .unset, .unset, .unset, .unset] [(.int p4), (.int p3), (.int p2), (.int (p1 &&& (3 : Int32)))])) _
            refine st54 _ ?_
            show Steps p.tables e below (T54.setTop (mkF m 31 #[.val (.int p1), .val (.int p2), .val (.int p3), .val (.int p4), .val (.int p5), .val (.long q6), .second, .val (.int (p1 &&& (3 : Int32))), .val (.int (0 : Int32)), .val (.int (p1 >>> ((3 : Int32) &&& 31))), .unset, .unset, .unset, .unset] [(.ref r_54)])) _
            refine XS.astore X54.here hx rfl (hb hby at_31) rfl rfl (l' := #[.val (.int p1), .val (.int p2), .val (.int p3), .val (.int p4), .val (.int p5), .val (.long q6), .second, .val (.int (p1 &&& (3 : Int32))), .val (.int (0 : Int32)), .val (.int (p1 >>> ((3 : Int32) &&& 31))), .val (.ref r_54), .unset, .unset, .unset]) rfl ?_
            show Steps p.tables e below (T54.setTop (mkF m 33 #[.val (.int p1), .val (.int p2), .val (.int p3), .val (.int p4), .val (.int p5), .val (.long q6), .second, .val (.int (p1 &&& (3 : Int32))), .val (.int (0 : Int32)), .val (.int (p1 >>> ((3 : Int32) &&& 31))), .val (.ref r_54), .unset, .unset, .unset] [])) _
            refine st57 _ ?_
            show Steps p.tables e below (T57.setTop (mkF m 36 #[.val (.int p1), .val (.int p2), .val (.int p3), .val (.int p4), .val (.int p5), .val (.long q6), .second, .val (.int (p1 &&& (3 : Int32))), .val (.int (0 : Int32)), .val (.int (p1 >>> ((3 : Int32) &&& 31))), .val (.ref r_54), .unset, .unset, .unset] [(.ref b57)])) _
            refine XS.dup X57.here hx rfl (hb hby at_36) rfl rfl ?_
            show Steps p.tables e below (T57.setTop (mkF m 37 #[.val (.int p1), .val (.int p2), .val (.int p3), .val (.int p4), .val (.int p5), .val (.long q6), .second, .val (.int (p1 &&& (3 : Int32))), .val (.int (0 : Int32)), .val (.int (p1 >>> ((3 : Int32) &&& 31))), .val (.ref r_54), .unset, .unset, .unset] [(.ref b57), (.ref b57)])) _
            refine XS.aload X57.here hx rfl (hb hby at_37) rfl rfl ?_
            show Steps p.tables e below (T57.setTop (mkF m 39 #[.val (.int p1), .val (.int p2), .val (.int p3), .val (.int p4), .val (.int p5), .val (.long q6), .second, .val (.int (p1 &&& (3 : Int32))), .val (.int (0 : Int32)), .val (.int (p1 >>> ((3 : Int32) &&& 31))), .val (.ref r_54), .unset, .unset, .unset] [(.ref r_54), (.ref b57), (.ref b57)])) _
            refine XS.iload X57.here hx rfl (hb hby at_39) rfl ?_
            show Steps p.tables e below (T57.setTop (mkF m 41 #[.val (.int p1), .val (.int p2), .val (.int p3), .val (.int p4), .val (.int p5), .val (.long q6), .second, .val (.int (p1 &&& (3 : Int32))), .val (.int (0 : Int32)), .val (.int (p1 >>> ((3 : Int32) &&& 31))), .val (.ref r_54), .unset, .unset, .unset] [(.int p5), (.ref r_54), (.ref b57), (.ref b57)])) _
            refine XS.iload X57.here hx rfl (hb hby at_41) rfl ?_
            show Steps p.tables e below (T57.setTop (mkF m 43 #[.val (.int p1), .val (.int p2), .val (.int p3), .val (.int p4), .val (.int p5), .val (.long q6), .second, .val (.int (p1 &&& (3 : Int32))), .val (.int (0 : Int32)), .val (.int (p1 >>> ((3 : Int32) &&& 31))), .val (.ref r_54), .unset, .unset, .unset] [(.int (p1 >>> ((3 : Int32) &&& 31))), (.int p5), (.ref r_54), (.ref b57), (.ref b57)])) _
            refine XS.iload X57.here hx rfl (hb hby at_43) rfl ?_
            show Steps p.tables e below (T57.setTop (mkF m 45 #[.val (.int p1), .val (.int p2), .val (.int p3), .val (.int p4), .val (.int p5), .val (.long q6), .second, .val (.int (p1 &&& (3 : Int32))), .val (.int (0 : Int32)), .val (.int (p1 >>> ((3 : Int32) &&& 31))), .val (.ref r_54), .unset, .unset, .unset] [(.int (0 : Int32)), (.int (p1 >>> ((3 : Int32) &&& 31))), (.int p5), (.ref r_54), (.ref b57), (.ref b57)])) _
            refine XS.lload X57.here hx rfl (hb hby at_45) rfl ?_
            show Steps p.tables e below (T57.setTop (mkF m 47 #[.val (.int p1), .val (.int p2), .val (.int p3), .val (.int p4), .val (.int p5), .val (.long q6), .second, .val (.int (p1 &&& (3 : Int32))), .val (.int (0 : Int32)), .val (.int (p1 >>> ((3 : Int32) &&& 31))), .val (.ref r_54), .unset, .unset, .unset] [(.long q6), (.int (0 : Int32)), (.int (p1 >>> ((3 : Int32) &&& 31))), (.int p5), (.ref r_54), (.ref b57), (.ref b57)])) _
            refine st66.trans ?_
            show Steps p.tables e below (T66.setTop (mkF m 50 #[.val (.int p1), .val (.int p2), .val (.int p3), .val (.int p4), .val (.int p5), .val (.long q6), .second, .val (.int (p1 &&& (3 : Int32))), .val (.int (0 : Int32)), .val (.int (p1 >>> ((3 : Int32) &&& 31))), .val (.ref r_54), .unset, .unset, .unset] [(.ref b57)])) _
            refine XS.astore X66.here hx rfl (hb hby at_50) rfl rfl (l' := #[.val (.int p1), .val (.int p2), .val (.int p3), .val (.int p4), .val (.int p5), .val (.long q6), .second, .val (.int (p1 &&& (3 : Int32))), .val (.int (0 : Int32)), .val (.int (p1 >>> ((3 : Int32) &&& 31))), .val (.ref r_54), .val (.ref b57), .unset, .unset]) rfl ?_
            show Steps p.tables e below (T66.setTop (mkF m 52 #[.val (.int p1), .val (.int p2), .val (.int p3), .val (.int p4), .val (.int p5), .val (.long q6), .second, .val (.int (p1 &&& (3 : Int32))), .val (.int (0 : Int32)), .val (.int (p1 >>> ((3 : Int32) &&& 31))), .val (.ref r_54), .val (.ref b57), .unset, .unset] [])) _
            refine XS.aload X66.here hx rfl (hb hby at_52) rfl rfl ?_
            show Steps p.tables e below (T66.setTop (mkF m 54 #[.val (.int p1), .val (.int p2), .val (.int p3), .val (.int p4), .val (.int p5), .val (.long q6), .second, .val (.int (p1 &&& (3 : Int32))), .val (.int (0 : Int32)), .val (.int (p1 >>> ((3 : Int32) &&& 31))), .val (.ref r_54), .val (.ref b57), .unset, .unset] [(.ref b57)])) _
            refine st69.trans ?_
            show Steps p.tables e below (T69.setTop (mkF m 57 #[.val (.int p1), .val (.int p2), .val (.int p3), .val (.int p4), .val (.int p5), .val (.long q6), .second, .val (.int (p1 &&& (3 : Int32))), .val (.int (0 : Int32)), .val (.int (p1 >>> ((3 : Int32) &&& 31))), .val (.ref r_54), .val (.ref b57), .unset, .unset] [(.int (0 : Int32))])) _
            refine XS.istore X69.here hx rfl (hb hby at_57) rfl (l' := #[.val (.int p1), .val (.int p2), .val (.int p3), .val (.int p4), .val (.int p5), .val (.long q6), .second, .val (.int (p1 &&& (3 : Int32))), .val (.int (0 : Int32)), .val (.int (p1 >>> ((3 : Int32) &&& 31))), .val (.ref r_54), .val (.ref b57), .val (.int (0 : Int32)), .unset]) rfl ?_
            show Steps p.tables e below (T69.setTop (mkF m 59 #[.val (.int p1), .val (.int p2), .val (.int p3), .val (.int p4), .val (.int p5), .val (.long q6), .second, .val (.int (p1 &&& (3 : Int32))), .val (.int (0 : Int32)), .val (.int (p1 >>> ((3 : Int32) &&& 31))), .val (.ref r_54), .val (.ref b57), .val (.int (0 : Int32)), .unset] [])) _
            refine XS.aload X69.here hx rfl (hb hby at_59) rfl rfl ?_
            show Steps p.tables e below (T69.setTop (mkF m 61 #[.val (.int p1), .val (.int p2), .val (.int p3), .val (.int p4), .val (.int p5), .val (.long q6), .second, .val (.int (p1 &&& (3 : Int32))), .val (.int (0 : Int32)), .val (.int (p1 >>> ((3 : Int32) &&& 31))), .val (.ref r_54), .val (.ref b57), .val (.int (0 : Int32)), .unset] [(.ref b57)])) _
            refine st71.trans ?_
            show Steps p.tables e below (T71.setTop (mkF m 64 #[.val (.int p1), .val (.int p2), .val (.int p3), .val (.int p4), .val (.int p5), .val (.long q6), .second, .val (.int (p1 &&& (3 : Int32))), .val (.int (0 : Int32)), .val (.int (p1 >>> ((3 : Int32) &&& 31))), .val (.ref r_54), .val (.ref b57), .val (.int (0 : Int32)), .unset] [(.int (3 : Int32))])) _
            refine XS.istore X71.here hx rfl (hb hby at_64) rfl (l' := #[.val (.int p1), .val (.int p2), .val (.int p3), .val (.int p4), .val (.int p5), .val (.long q6), .second, .val (.int (p1 &&& (3 : Int32))), .val (.int (0 : Int32)), .val (.int (p1 >>> ((3 : Int32) &&& 31))), .val (.ref r_54), .val (.ref b57), .val (.int (0 : Int32)), .val (.int (3 : Int32))]) rfl ?_
            show Steps p.tables e below (T71.setTop (mkF m 66 #[.val (.int p1), .val (.int p2), .val (.int p3), .val (.int p4), .val (.int p5), .val (.long q6), .second, .val (.int (p1 &&& (3 : Int32))), .val (.int (0 : Int32)), .val (.int (p1 >>> ((3 : Int32) &&& 31))), .val (.ref r_54), .val (.ref b57), .val (.int (0 : Int32)), .val (.int (3 : Int32))] [])) _
            refine XS.iload X71.here hx rfl (hb hby at_66) rfl ?_
            show Steps p.tables e below (T71.setTop (mkF m 68 #[.val (.int p1), .val (.int p2), .val (.int p3), .val (.int p4), .val (.int p5), .val (.long q6), .second, .val (.int (p1 &&& (3 : Int32))), .val (.int (0 : Int32)), .val (.int (p1 >>> ((3 : Int32) &&& 31))), .val (.ref r_54), .val (.ref b57), .val (.int (0 : Int32)), .val (.int (3 : Int32))] [(.int (0 : Int32))])) _
            refine XS.iload X71.here hx rfl (hb hby at_68) rfl ?_
            show Steps p.tables e below (T71.setTop (mkF m 70 #[.val (.int p1), .val (.int p2), .val (.int p3), .val (.int p4), .val (.int p5), .val (.long q6), .second, .val (.int (p1 &&& (3 : Int32))), .val (.int (0 : Int32)), .val (.int (p1 >>> ((3 : Int32) &&& 31))), .val (.ref r_54), .val (.ref b57), .val (.int (0 : Int32)), .val (.int (3 : Int32))] [(.int (p1 &&& (3 : Int32))), (.int (0 : Int32))])) _
            refine XS.ifYes X71.here hx rfl (pc0 := 70) (pc' := 77) rfl (hb hby at_70) rfl ((if0 _ _).trans (feq hc2).2) (by decide) (by decide) ?_
            show Steps p.tables e below (T71.setTop (mkF m 77 #[.val (.int p1), .val (.int p2), .val (.int p3), .val (.int p4), .val (.int p5), .val (.long q6), .second, .val (.int (p1 &&& (3 : Int32))), .val (.int (0 : Int32)), .val (.int (p1 >>> ((3 : Int32) &&& 31))), .val (.ref r_54), .val (.ref b57), .val (.int (0 : Int32)), .val (.int (3 : Int32))] [(.int (0 : Int32))])) _
            refine XS.iconst X71.here hx rfl (hb hby at_77) ?_
            show Steps p.tables e below (T71.setTop (mkF m 78 #[.val (.int p1), .val (.int p2), .val (.int p3), .val (.int p4), .val (.int p5), .val (.long q6), .second, .val (.int (p1 &&& (3 : Int32))), .val (.int (0 : Int32)), .val (.int (p1 >>> ((3 : Int32) &&& 31))), .val (.ref r_54), .val (.ref b57), .val (.int (0 : Int32)), .val (.int (3 : Int32))] [(.int (0 : Int32)), (.int (0 : Int32))])) _
            refine XS.icmpNo X71.here hx rfl (hb hby at_78) rfl (teq (by decide : (0 : Int32) = (0 : Int32))).2 ?_
            show Steps p.tables e below (T71.setTop (mkF m 81 #[.val (.int p1), .val (.int p2), .val (.int p3), .val (.int p4), .val (.int p5), .val (.long q6), .second, .val (.int (p1 &&& (3 : Int32))), .val (.int (0 : Int32)), .val (.int (p1 >>> ((3 : Int32) &&& 31))), .val (.ref r_54), .val (.ref b57), .val (.int (0 : Int32)), .val (.int (3 : Int32))] [])) _
            refine XS.iload X71.here hx rfl (hb hby at_81) rfl ?_
            show Steps p.tables e below (T71.setTop (mkF m 83 #[.val (.int p1), .val (.int p2), .val (.int p3), .val (.int p4), .val (.int p5), .val (.long q6), .second, .val (.int (p1 &&& (3 : Int32))), .val (.int (0 : Int32)), .val (.int (p1 >>> ((3 : Int32) &&& 31))), .val (.ref r_54), .val (.ref b57), .val (.int (0 : Int32)), .val (.int (3 : Int32))] [(.int (3 : Int32))])) _
            refine XS.iload X71.here hx rfl (hb hby at_83) rfl ?_
            show Steps p.tables e below (T71.setTop (mkF m 85 #[.val (.int p1), .val (.int p2), .val (.int p3), .val (.int p4), .val (.int p5), .val (.long q6), .second, .val (.int (p1 &&& (3 : Int32))), .val (.int (0 : Int32)), .val (.int (p1 >>> ((3 : Int32) &&& 31))), .val (.ref r_54), .val (.ref b57), .val (.int (0 : Int32)), .val (.int (3 : Int32))] [(.int (p1 &&& (3 : Int32))), (.int (3 : Int32))])) _
            refine XS.icmpNo X71.here hx rfl (hb hby at_85) rfl (teq (own_3 hc2 hc3 hc4)).2 ?_
            show Steps p.tables e below (T71.setTop (mkF m 88 #[.val (.int p1), .val (.int p2), .val (.int p3), .val (.int p4), .val (.int p5), .val (.long q6), .second, .val (.int (p1 &&& (3 : Int32))), .val (.int (0 : Int32)), .val (.int (p1 >>> ((3 : Int32) &&& 31))), .val (.ref r_54), .val (.ref b57), .val (.int (0 : Int32)), .val (.int (3 : Int32))] [])) _
            refine XS.iload X71.here hx rfl (hb hby at_88) rfl ?_
            show Steps p.tables e below (T71.setTop (mkF m 90 #[.val (.int p1), .val (.int p2), .val (.int p3), .val (.int p4), .val (.int p5), .val (.long q6), .second, .val (.int (p1 &&& (3 : Int32))), .val (.int (0 : Int32)), .val (.int (p1 >>> ((3 : Int32) &&& 31))), .val (.ref r_54), .val (.ref b57), .val (.int (0 : Int32)), .val (.int (3 : Int32))] [(.int (0 : Int32))])) _
            refine XS.iload X71.here hx rfl (hb hby at_90) rfl ?_
            show Steps p.tables e below (T71.setTop (mkF m 92 #[.val (.int p1), .val (.int p2), .val (.int p3), .val (.int p4), .val (.int p5), .val (.long q6), .second, .val (.int (p1 &&& (3 : Int32))), .val (.int (0 : Int32)), .val (.int (p1 >>> ((3 : Int32) &&& 31))), .val (.ref r_54), .val (.ref b57), .val (.int (0 : Int32)), .val (.int (3 : Int32))] [(.int (3 : Int32)), (.int (0 : Int32))])) _
            refine XS.ifYes X71.here hx rfl (pc0 := 92) (pc' := 99) rfl (hb hby at_92) rfl ((if0 _ _).trans (feq (by decide : ¬ ((3 : Int32) = (0 : Int32)))).2) (by decide) (by decide) ?_
            show Steps p.tables e below (T71.setTop (mkF m 99 #[.val (.int p1), .val (.int p2), .val (.int p3), .val (.int p4), .val (.int p5), .val (.long q6), .second, .val (.int (p1 &&& (3 : Int32))), .val (.int (0 : Int32)), .val (.int (p1 >>> ((3 : Int32) &&& 31))), .val (.ref r_54), .val (.ref b57), .val (.int (0 : Int32)), .val (.int (3 : Int32))] [(.int (0 : Int32))])) _
            refine XS.iconst X71.here hx rfl (hb hby at_99) ?_
            show Steps p.tables e below (T71.setTop (mkF m 100 #[.val (.int p1), .val (.int p2), .val (.int p3), .val (.int p4), .val (.int p5), .val (.long q6), .second, .val (.int (p1 &&& (3 : Int32))), .val (.int (0 : Int32)), .val (.int (p1 >>> ((3 : Int32) &&& 31))), .val (.ref r_54), .val (.ref b57), .val (.int (0 : Int32)), .val (.int (3 : Int32))] [(.int (0 : Int32)), (.int (0 : Int32))])) _
            refine XS.icmpNo X71.here hx rfl (hb hby at_100) rfl (teq (by decide : (0 : Int32) = (0 : Int32))).2 ?_
            show Steps p.tables e below (T71.setTop (mkF m 103 #[.val (.int p1), .val (.int p2), .val (.int p3), .val (.int p4), .val (.int p5), .val (.long q6), .second, .val (.int (p1 &&& (3 : Int32))), .val (.int (0 : Int32)), .val (.int (p1 >>> ((3 : Int32) &&& 31))), .val (.ref r_54), .val (.ref b57), .val (.int (0 : Int32)), .val (.int (3 : Int32))] [])) _
            refine XS.iconst X71.here hx rfl (hb hby at_103) ?_
            show Steps p.tables e below (T71.setTop (mkF m 104 #[.val (.int p1), .val (.int p2), .val (.int p3), .val (.int p4), .val (.int p5), .val (.long q6), .second, .val (.int (p1 &&& (3 : Int32))), .val (.int (0 : Int32)), .val (.int (p1 >>> ((3 : Int32) &&& 31))), .val (.ref r_54), .val (.ref b57), .val (.int (0 : Int32)), .val (.int (3 : Int32))] [(.int (1 : Int32))])) _
            refine XS.goto X71.here hx rfl (pc0 := 104) (pc' := 108) rfl (hb hby at_104) (by decide) (by decide) ?_
            show Steps p.tables e below (T71.setTop (mkF m 108 #[.val (.int p1), .val (.int p2), .val (.int p3), .val (.int p4), .val (.int p5), .val (.long q6), .second, .val (.int (p1 &&& (3 : Int32))), .val (.int (0 : Int32)), .val (.int (p1 >>> ((3 : Int32) &&& 31))), .val (.ref r_54), .val (.ref b57), .val (.int (0 : Int32)), .val (.int (3 : Int32))] [(.int (1 : Int32))])) _
            exact retN X71 hx (t := .boolean) Bd.returns (by simp) (hb hby at_108) hr
          · show Q_rm0 Z p1 p2 p3 p4 p5 q6 h0 n0 _ T71.heap _
            exact ⟨rfl, N71⟩
  · by_cases hc5 : (p1 &&& (3 : Int32)) = (0 : Int32)
    · obtain ⟨_, _, ⟨T72, L72, k72, n72⟩, -, X72, ⟨Lc72, hQ72, l72, y72, z72⟩, st72⟩ := Jvm.LawKit.callS X0 hx (y := (⟨"com/example/concordia/concordia/clause/ClauseIsEmptyPinLaw", "literalsOf", "(IIII)[I"⟩ : MethodName)) hown (mvT hZ (hw _ (List.mem_of_getElem? (i := 0) rfl))) (mvT hZ (hw _ (List.mem_of_getElem? (i := 1) rfl))) (mvT hZ (hw _ (List.mem_of_getElem? (i := 2) rfl))) (mvT hZ (hw _ (List.mem_of_getElem? (i := 3) rfl))) (by decide) (backOf (W := 0) (rm_lit0 l Z a0 hw [] (p1 &&& (3 : Int32)) p2 p3 p4 h0 n0 Z0 hc5) hZ (hw _ (List.mem_of_getElem? (i := 3) rfl)) (hw _ (List.mem_of_getElem? (i := 2) rfl)) (by decide) (by decide)) (g := (mkF m 28 #[.val (.int p1), .val (.int p2), .val (.int p3), .val (.int p4), .val (.int p5), .val (.long q6), .second, .val (.int (p1 &&& (3 : Int32))), .val (.int (1 : Int32)), .val (.int (p1 >>> ((3 : Int32) &&& 31))), .unset, .unset, .unset, .unset] [(.int p4), (.int p3), (.int p2), (.int (p1 &&& (3 : Int32)))])) rfl (by rw [hml]; rfl) (argsL := [(.int (p1 &&& (3 : Int32))), (.int p2), (.int p3), (.int p4)]) (rest := []) (lenOf pd__40IIII_41_91I rfl) rfl (by show 2 * 0 + _ ≤ _; exact Nat.le_of_eq rfl) (hb hby at_28) (fun _ _ => ⟨rfl, e0, (by decide : 0 + 1 ≤ _), (by decide : 0 + 0 ≤ _)⟩)
      dsimp only [Pt.U, Pt.locs, Pt.cells, Pt.slots] at X72 l72 y72 z72 st72 hQ72
      subst l72 y72 z72
      obtain ⟨r_72, k_72, rfl, Nq72, Kc72, p72_0, p72_1⟩ := hQ72
      have gzr_72 : h0.size ≤ r_72 := Nat.le_trans (Keep.refl h0 []).1 p72_0
      have gnr_72 : n0 ≤ r_72 := Nat.le_trans Z0 gzr_72
      have K74 : Keep h0 T72.heap [] := (Keep.refl h0 []).trans Kc72 all0
      have N72 := Fr.app N0 Nq72
      obtain ⟨T75, h75, X75, e75, E75, A75, D75, -, st75⟩ := newO X72 hx hZ hown (hw _ (List.mem_of_getElem? (i := 5) rfl)) (hw _ (List.mem_of_getElem? (i := 6) rfl)) (hw _ (List.mem_of_getElem? (i := 7) rfl)) rfl (g := (mkF m 33 #[.val (.int p1), .val (.int p2), .val (.int p3), .val (.int p4), .val (.int p5), .val (.long q6), .second, .val (.int (p1 &&& (3 : Int32))), .val (.int (1 : Int32)), .val (.int (p1 >>> ((3 : Int32) &&& 31))), .val (.ref r_72), .unset, .unset, .unset] [])) rfl (hb hby at_33) (by decide) (by decide)
      obtain ⟨b75, g75⟩ : ∃ z, z = T72.heap.size := ⟨_, rfl⟩
      rw [← g75] at A75 D75 st75
      have gnb75 : n0 ≤ b75 := Nat.le_trans (Nat.le_trans Z0 K74.1) (Nat.le_of_eq g75.symm)
      have gzb75 : h0.size ≤ b75 := Nat.le_trans K74.1 (Nat.le_of_eq g75.symm)
      have K76 : Keep h0 h75 [] := K74.ext E75
      have f77 : Fld Z h75 b75 "com/example/concordia/concordia/clause/Clause" "literals" "[I" .null := D75 (Or.inr (hw _ (List.mem_of_getElem? (i := 15) rfl))) (ty := (.array .int)) (by decide)
      have f78 : Fld Z h75 b75 "com/example/concordia/concordia/clause/Clause" "unit" "I" (.int (0 : Int32)) := D75 (Or.inr (hw _ (List.mem_of_getElem? (i := 17) rfl))) (ty := .int) (by decide)
      have f79 : Fld Z h75 b75 "com/example/concordia/concordia/clause/Clause" "weight" "I" (.int (0 : Int32)) := D75 (Or.inr (hw _ (List.mem_of_getElem? (i := 19) rfl))) (ty := .int) (by decide)
      have f80 : Fld Z h75 b75 "com/example/concordia/concordia/clause/Clause" "variableCount" "I" (.int (0 : Int32)) := D75 (Or.inr (hw _ (List.mem_of_getElem? (i := 21) rfl))) (ty := .int) (by decide)
      have f81 : Fld Z h75 b75 "com/example/concordia/concordia/clause/Clause" "tautology" "Z" (.int (0 : Int32)) := D75 (Or.inr (hw _ (List.mem_of_getElem? (i := 23) rfl))) (ty := .boolean) (by decide)
      have f82 : Fld Z h75 b75 "com/example/concordia/concordia/clause/Clause" "signature" "J" (.long (0 : Int64)) := D75 (Or.inr (hw _ (List.mem_of_getElem? (i := 25) rfl))) (ty := .long) (by decide)
      have f83 : Arv Z h75 r_72 k_72 .int (0 : Int32) [] (.int (0 : Int32)) := (p72_1.ext E75)
      obtain ⟨_, _, ⟨T84, L84, k84, n84⟩, -, X84, ⟨Lc84, hQ84, l84, y84, z84⟩, st84⟩ := X75.specialBack hx (y := (⟨"com/example/concordia/concordia/clause/Clause", "<init>", "([IIIZJ)V"⟩ : MethodName)) rfl hown (mvT hZ (hw _ (List.mem_of_getElem? (i := 8) rfl))) (mvT hZ (hw _ (List.mem_of_getElem? (i := 9) rfl))) (mvT hZ (hw _ (List.mem_of_getElem? (i := 10) rfl))) (by decide) (backOf (W := 1) (rm_inin l Z a0 hw [] b75 r_72 p5 (p1 >>> ((3 : Int32) &&& 31)) (1 : Int32) q6 .null (.int (0 : Int32)) (.int (0 : Int32)) (.int (0 : Int32)) (.int (0 : Int32)) (.long (0 : Int64)) k_72 (0 : Int32) [] h75 n0 (Nat.le_trans Z0 K76.1) A75 f77 f78 f79 f80 f81 f82 gnb75 f83 (by decide : ¬ ((0 : Int32) = (1 : Int32)))) hZ (hw _ (List.mem_of_getElem? (i := 10) rfl)) (hw _ (List.mem_of_getElem? (i := 7) rfl)) (by decide) (by decide)) (g := (mkF m 47 #[.val (.int p1), .val (.int p2), .val (.int p3), .val (.int p4), .val (.int p5), .val (.long q6), .second, .val (.int (p1 &&& (3 : Int32))), .val (.int (1 : Int32)), .val (.int (p1 >>> ((3 : Int32) &&& 31))), .val (.ref r_72), .unset, .unset, .unset] [(.long q6), (.int (1 : Int32)), (.int (p1 >>> ((3 : Int32) &&& 31))), (.int p5), (.ref r_72), (.ref b75), (.ref b75)])) rfl (by rw [hml]; rfl) (Steps.refl _) (a := b75) (argsL := [(.ref r_72), (.int p5), (.int (p1 >>> ((3 : Int32) &&& 31))), (.int (1 : Int32)), (.long q6)]) (rest := [(.ref b75)]) (lenOf pd__40_91IIIZJ_41V rfl) rfl (by show 2 * 0 + _ ≤ _; exact Nat.le_of_eq rfl) (hb hby at_47) (fun _ _ => ⟨rfl, e75, (by decide : 2 + 0 ≤ _), (by decide : 6 + 0 ≤ _)⟩)
      dsimp only [Pt.U, Pt.locs, Pt.cells, Pt.slots] at X84 l84 y84 z84 st84 hQ84
      subst l84 y84 z84
      obtain ⟨rfl, Nq84, Kc84, p84_0⟩ := hQ84
      have K85 : Keep h0 T84.heap [] := K76.trans Kc84 (allS (Or.inr gzb75) all0)
      have N84 := Fr.app N72 Nq84
      have f86 : Arv Z T84.heap r_72 k_72 .int (0 : Int32) [] (.int (0 : Int32)) := (f83.keep Kc84 (ninS (Nat.ne_of_lt (Nat.lt_of_lt_of_le p72_1.lt (Nat.le_of_eq g75.symm))) nin0))
      have f88 : Exa Z T84.heap b75 "com/example/concordia/concordia/clause/Clause" := (A75.keep Kc84)
      obtain ⟨cq87, kq87, q87a, q87b, q87c⟩ := isOf hZ rfl f88
      obtain ⟨_, _, ⟨T87, L87, k87, n87⟩, -, X87, ⟨Lc87, hQ87, l87, y87, z87⟩, st87⟩ := X84.virtualBack hx (y := (⟨"com/example/concordia/concordia/clause/Clause", "isEmpty", "()Z"⟩ : MethodName)) (z := (⟨"com/example/concordia/concordia/clause/Clause", "isEmpty", "()Z"⟩ : MethodName)) hown (mvT hZ (hw _ (List.mem_of_getElem? (i := 26) rfl))) (mvT hZ (hw _ (List.mem_of_getElem? (i := 27) rfl))) (notFace_of_selects (args := #[]) (mvT hZ (hw _ (List.mem_of_getElem? (i := 29) rfl)))) (mvT hZ (hw _ (List.mem_of_getElem? (i := 29) rfl))) (mvT hZ (hw _ (List.mem_of_getElem? (i := 28) rfl))) (by decide) (backOf (W := 0) (rm_emz l Z a0 hw [] b75 r_72 k_72 (0 : Int32) [] T84.heap n0 (Nat.le_trans Z0 K85.1) p84_0 f86 (by decide : (0 : Int32) = (0 : Int32))) hZ (hw _ (List.mem_of_getElem? (i := 30) rfl)) (hw _ (List.mem_of_getElem? (i := 7) rfl)) (by decide) (by decide)) q87a q87c (g := (mkF m 54 #[.val (.int p1), .val (.int p2), .val (.int p3), .val (.int p4), .val (.int p5), .val (.long q6), .second, .val (.int (p1 &&& (3 : Int32))), .val (.int (1 : Int32)), .val (.int (p1 >>> ((3 : Int32) &&& 31))), .val (.ref r_72), .val (.ref b75), .unset, .unset] [(.ref b75)])) rfl (by rw [hml]; rfl) (Steps.refl _) (argsL := []) (rest := []) (lenOf pd__40_41Z rfl) rfl (by show 2 * 0 + _ ≤ _; exact Nat.le_of_eq rfl) (hb hby at_54) (fun _ _ => ⟨rfl, rfl, (by decide : 2 + 0 ≤ _), (by decide : 6 + 0 ≤ _)⟩)
      dsimp only [Pt.U, Pt.locs, Pt.cells, Pt.slots] at X87 l87 y87 z87 st87 hQ87
      subst l87 y87 z87
      obtain ⟨rfl, Nq87, e87⟩ := hQ87
      have N87 := Fr.app N84 Nq87
      obtain ⟨cq89, kq89, q89a, q89b, q89c⟩ := isOf hZ e87 f88
      obtain ⟨_, _, ⟨T89, L89, k89, n89⟩, -, X89, ⟨Lc89, hQ89, l89, y89, z89⟩, st89⟩ := X87.virtualBack hx (y := (⟨"com/example/concordia/concordia/clause/Clause", "literalCount", "()I"⟩ : MethodName)) (z := (⟨"com/example/concordia/concordia/clause/Clause", "literalCount", "()I"⟩ : MethodName)) hown (mvT hZ (hw _ (List.mem_of_getElem? (i := 31) rfl))) (mvT hZ (hw _ (List.mem_of_getElem? (i := 32) rfl))) (notFace_of_selects (args := #[]) (mvT hZ (hw _ (List.mem_of_getElem? (i := 34) rfl)))) (mvT hZ (hw _ (List.mem_of_getElem? (i := 34) rfl))) (mvT hZ (hw _ (List.mem_of_getElem? (i := 33) rfl))) (by decide) (backOf (W := 0) (rm_lc l Z a0 hw [] b75 r_72 k_72 (0 : Int32) [] T84.heap n0 (Nat.le_trans Z0 K85.1) p84_0 f86) hZ (hw _ (List.mem_of_getElem? (i := 35) rfl)) (hw _ (List.mem_of_getElem? (i := 7) rfl)) (by decide) (by decide)) q89a q89c (g := (mkF m 61 #[.val (.int p1), .val (.int p2), .val (.int p3), .val (.int p4), .val (.int p5), .val (.long q6), .second, .val (.int (p1 &&& (3 : Int32))), .val (.int (1 : Int32)), .val (.int (p1 >>> ((3 : Int32) &&& 31))), .val (.ref r_72), .val (.ref b75), .val (.int (1 : Int32)), .unset] [(.ref b75)])) rfl (by rw [hml]; rfl) (Steps.refl _) (argsL := []) (rest := []) (lenOf pd__40_41I rfl) rfl (by show 2 * 0 + _ ≤ _; exact Nat.le_of_eq rfl) (hb hby at_61) (fun _ _ => ⟨rfl, e87, (by decide : 2 + 0 ≤ _), (by decide : 6 + 0 ≤ _)⟩)
      dsimp only [Pt.U, Pt.locs, Pt.cells, Pt.slots] at X89 l89 y89 z89 st89 hQ89
      subst l89 y89 z89
      obtain ⟨rfl, Nq89, e89⟩ := hQ89
      have N89 := Fr.app N87 Nq89
      obtain ⟨fs, hr, hrun, hended, hW, hsame⟩ := X89.leave (v := some (.int (1 : Int32))) (fun h => by rw [Bd.returns] at h; cases h)
      refine ⟨_, _, pre0 _ ?_, hrun, hended, _, _, rfl, ?_, ⟨_, rfl⟩, hW, hsame.mono (by decide) (by decide)⟩
      · show Steps p.tables e below (s₁.setTop (mkF m 0 #[.val (.int p1), .val (.int p2), .val (.int p3), .val (.int p4), .val (.int p5), .val (.long q6), .second, .unset, .unset, .unset, .unset, .unset, .unset, .unset] [])) _
        refine XS.iloadN X0.here hx rfl (hb hby at_0) rfl ?_
        show Steps p.tables e below (s₁.setTop (mkF m 1 #[.val (.int p1), .val (.int p2), .val (.int p3), .val (.int p4), .val (.int p5), .val (.long q6), .second, .unset, .unset, .unset, .unset, .unset, .unset, .unset] [(.int p1)])) _
        refine XS.iconst X0.here hx rfl (hb hby at_1) ?_
        show Steps p.tables e below (s₁.setTop (mkF m 2 #[.val (.int p1), .val (.int p2), .val (.int p3), .val (.int p4), .val (.int p5), .val (.long q6), .second, .unset, .unset, .unset, .unset, .unset, .unset, .unset] [(.int (3 : Int32)), (.int p1)])) _
        refine XS.iand X0.here hx rfl (hb hby at_2) rfl ?_
        show Steps p.tables e below (s₁.setTop (mkF m 3 #[.val (.int p1), .val (.int p2), .val (.int p3), .val (.int p4), .val (.int p5), .val (.long q6), .second, .unset, .unset, .unset, .unset, .unset, .unset, .unset] [(.int (p1 &&& (3 : Int32)))])) _
        refine XS.istore X0.here hx rfl (hb hby at_3) rfl (l' := #[.val (.int p1), .val (.int p2), .val (.int p3), .val (.int p4), .val (.int p5), .val (.long q6), .second, .val (.int (p1 &&& (3 : Int32))), .unset, .unset, .unset, .unset, .unset, .unset]) rfl ?_
        show Steps p.tables e below (s₁.setTop (mkF m 5 #[.val (.int p1), .val (.int p2), .val (.int p3), .val (.int p4), .val (.int p5), .val (.long q6), .second, .val (.int (p1 &&& (3 : Int32))), .unset, .unset, .unset, .unset, .unset, .unset] [])) _
        refine XS.iloadN X0.here hx rfl (hb hby at_5) rfl ?_
        show Steps p.tables e below (s₁.setTop (mkF m 6 #[.val (.int p1), .val (.int p2), .val (.int p3), .val (.int p4), .val (.int p5), .val (.long q6), .second, .val (.int (p1 &&& (3 : Int32))), .unset, .unset, .unset, .unset, .unset, .unset] [(.int p1)])) _
        refine XS.iconst X0.here hx rfl (hb hby at_6) ?_
        show Steps p.tables e below (s₁.setTop (mkF m 7 #[.val (.int p1), .val (.int p2), .val (.int p3), .val (.int p4), .val (.int p5), .val (.long q6), .second, .val (.int (p1 &&& (3 : Int32))), .unset, .unset, .unset, .unset, .unset, .unset] [(.int (4 : Int32)), (.int p1)])) _
        refine XS.iand X0.here hx rfl (hb hby at_7) rfl ?_
        show Steps p.tables e below (s₁.setTop (mkF m 8 #[.val (.int p1), .val (.int p2), .val (.int p3), .val (.int p4), .val (.int p5), .val (.long q6), .second, .val (.int (p1 &&& (3 : Int32))), .unset, .unset, .unset, .unset, .unset, .unset] [(.int (p1 &&& (4 : Int32)))])) _
        refine XS.ifNo X0.here hx rfl (hb hby at_8) rfl ((if0 _ _).trans (feq hc1).1) ?_
        show Steps p.tables e below (s₁.setTop (mkF m 11 #[.val (.int p1), .val (.int p2), .val (.int p3), .val (.int p4), .val (.int p5), .val (.long q6), .second, .val (.int (p1 &&& (3 : Int32))), .unset, .unset, .unset, .unset, .unset, .unset] [])) _
        refine XS.iconst X0.here hx rfl (hb hby at_11) ?_
        show Steps p.tables e below (s₁.setTop (mkF m 12 #[.val (.int p1), .val (.int p2), .val (.int p3), .val (.int p4), .val (.int p5), .val (.long q6), .second, .val (.int (p1 &&& (3 : Int32))), .unset, .unset, .unset, .unset, .unset, .unset] [(.int (1 : Int32))])) _
        refine XS.goto X0.here hx rfl (pc0 := 12) (pc' := 16) rfl (hb hby at_12) (by decide) (by decide) ?_
        show Steps p.tables e below (s₁.setTop (mkF m 16 #[.val (.int p1), .val (.int p2), .val (.int p3), .val (.int p4), .val (.int p5), .val (.long q6), .second, .val (.int (p1 &&& (3 : Int32))), .unset, .unset, .unset, .unset, .unset, .unset] [(.int (1 : Int32))])) _
        refine XS.istore X0.here hx rfl (hb hby at_16) rfl (l' := #[.val (.int p1), .val (.int p2), .val (.int p3), .val (.int p4), .val (.int p5), .val (.long q6), .second, .val (.int (p1 &&& (3 : Int32))), .val (.int (1 : Int32)), .unset, .unset, .unset, .unset, .unset]) rfl ?_
        show Steps p.tables e below (s₁.setTop (mkF m 18 #[.val (.int p1), .val (.int p2), .val (.int p3), .val (.int p4), .val (.int p5), .val (.long q6), .second, .val (.int (p1 &&& (3 : Int32))), .val (.int (1 : Int32)), .unset, .unset, .unset, .unset, .unset] [])) _
        refine XS.iloadN X0.here hx rfl (hb hby at_18) rfl ?_
        show Steps p.tables e below (s₁.setTop (mkF m 19 #[.val (.int p1), .val (.int p2), .val (.int p3), .val (.int p4), .val (.int p5), .val (.long q6), .second, .val (.int (p1 &&& (3 : Int32))), .val (.int (1 : Int32)), .unset, .unset, .unset, .unset, .unset] [(.int p1)])) _
        refine XS.iconst X0.here hx rfl (hb hby at_19) ?_
        show Steps p.tables e below (s₁.setTop (mkF m 20 #[.val (.int p1), .val (.int p2), .val (.int p3), .val (.int p4), .val (.int p5), .val (.long q6), .second, .val (.int (p1 &&& (3 : Int32))), .val (.int (1 : Int32)), .unset, .unset, .unset, .unset, .unset] [(.int (3 : Int32)), (.int p1)])) _
        refine XS.ishr X0.here hx rfl (hb hby at_20) rfl ?_
        show Steps p.tables e below (s₁.setTop (mkF m 21 #[.val (.int p1), .val (.int p2), .val (.int p3), .val (.int p4), .val (.int p5), .val (.long q6), .second, .val (.int (p1 &&& (3 : Int32))), .val (.int (1 : Int32)), .unset, .unset, .unset, .unset, .unset] [(.int (p1 >>> ((3 : Int32) &&& 31)))])) _
        refine XS.istore X0.here hx rfl (hb hby at_21) rfl (l' := #[.val (.int p1), .val (.int p2), .val (.int p3), .val (.int p4), .val (.int p5), .val (.long q6), .second, .val (.int (p1 &&& (3 : Int32))), .val (.int (1 : Int32)), .val (.int (p1 >>> ((3 : Int32) &&& 31))), .unset, .unset, .unset, .unset]) rfl ?_
        show Steps p.tables e below (s₁.setTop (mkF m 23 #[.val (.int p1), .val (.int p2), .val (.int p3), .val (.int p4), .val (.int p5), .val (.long q6), .second, .val (.int (p1 &&& (3 : Int32))), .val (.int (1 : Int32)), .val (.int (p1 >>> ((3 : Int32) &&& 31))), .unset, .unset, .unset, .unset] [])) _
        refine XS.iload X0.here hx rfl (hb hby at_23) rfl ?_
        show Steps p.tables e below (s₁.setTop (mkF m 25 #[.val (.int p1), .val (.int p2), .val (.int p3), .val (.int p4), .val (.int p5), .val (.long q6), .second, .val (.int (p1 &&& (3 : Int32))), .val (.int (1 : Int32)), .val (.int (p1 >>> ((3 : Int32) &&& 31))), .unset, .unset, .unset, .unset] [(.int (p1 &&& (3 : Int32)))])) _
        refine XS.iloadN X0.here hx rfl (hb hby at_25) rfl ?_
        show Steps p.tables e below (s₁.setTop (mkF m 26 #[.val (.int p1), .val (.int p2), .val (.int p3), .val (.int p4), .val (.int p5), .val (.long q6), .second, .val (.int (p1 &&& (3 : Int32))), .val (.int (1 : Int32)), .val (.int (p1 >>> ((3 : Int32) &&& 31))), .unset, .unset, .unset, .unset] [(.int p2), (.int (p1 &&& (3 : Int32)))])) _
        refine XS.iloadN X0.here hx rfl (hb hby at_26) rfl ?_
        show Steps p.tables e below (s₁.setTop (mkF m 27 #[.val (.int p1), .val (.int p2), .val (.int p3), .val (.int p4), .val (.int p5), .val (.long q6), .second, .val (.int (p1 &&& (3 : Int32))), .val (.int (1 : Int32)), .val (.int (p1 >>> ((3 : Int32) &&& 31))), .unset, .unset, .unset, .unset] [(.int p3), (.int p2), (.int (p1 &&& (3 : Int32)))])) _
        refine XS.iloadN X0.here hx rfl (hb hby at_27) rfl ?_
        show Steps p.tables e below (s₁.setTop (mkF m 28 #[.val (.int p1), .val (.int p2), .val (.int p3), .val (.int p4), .val (.int p5), .val (.long q6), .second, .val (.int (p1 &&& (3 : Int32))), .val (.int (1 : Int32)), .val (.int (p1 >>> ((3 : Int32) &&& 31))), .unset, .unset, .unset, .unset] [(.int p4), (.int p3), (.int p2), (.int (p1 &&& (3 : Int32)))])) _
        refine st72 _ ?_
        show Steps p.tables e below (T72.setTop (mkF m 31 #[.val (.int p1), .val (.int p2), .val (.int p3), .val (.int p4), .val (.int p5), .val (.long q6), .second, .val (.int (p1 &&& (3 : Int32))), .val (.int (1 : Int32)), .val (.int (p1 >>> ((3 : Int32) &&& 31))), .unset, .unset, .unset, .unset] [(.ref r_72)])) _
        refine XS.astore X72.here hx rfl (hb hby at_31) rfl rfl (l' := #[.val (.int p1), .val (.int p2), .val (.int p3), .val (.int p4), .val (.int p5), .val (.long q6), .second, .val (.int (p1 &&& (3 : Int32))), .val (.int (1 : Int32)), .val (.int (p1 >>> ((3 : Int32) &&& 31))), .val (.ref r_72), .unset, .unset, .unset]) rfl ?_
        show Steps p.tables e below (T72.setTop (mkF m 33 #[.val (.int p1), .val (.int p2), .val (.int p3), .val (.int p4), .val (.int p5), .val (.long q6), .second, .val (.int (p1 &&& (3 : Int32))), .val (.int (1 : Int32)), .val (.int (p1 >>> ((3 : Int32) &&& 31))), .val (.ref r_72), .unset, .unset, .unset] [])) _
        refine st75 _ ?_
        show Steps p.tables e below (T75.setTop (mkF m 36 #[.val (.int p1), .val (.int p2), .val (.int p3), .val (.int p4), .val (.int p5), .val (.long q6), .second, .val (.int (p1 &&& (3 : Int32))), .val (.int (1 : Int32)), .val (.int (p1 >>> ((3 : Int32) &&& 31))), .val (.ref r_72), .unset, .unset, .unset] [(.ref b75)])) _
        refine XS.dup X75.here hx rfl (hb hby at_36) rfl rfl ?_
        show Steps p.tables e below (T75.setTop (mkF m 37 #[.val (.int p1), .val (.int p2), .val (.int p3), .val (.int p4), .val (.int p5), .val (.long q6), .second, .val (.int (p1 &&& (3 : Int32))), .val (.int (1 : Int32)), .val (.int (p1 >>> ((3 : Int32) &&& 31))), .val (.ref r_72), .unset, .unset, .unset] [(.ref b75), (.ref b75)])) _
        refine XS.aload X75.here hx rfl (hb hby at_37) rfl rfl ?_
        show Steps p.tables e below (T75.setTop (mkF m 39 #[.val (.int p1), .val (.int p2), .val (.int p3), .val (.int p4), .val (.int p5), .val (.long q6), .second, .val (.int (p1 &&& (3 : Int32))), .val (.int (1 : Int32)), .val (.int (p1 >>> ((3 : Int32) &&& 31))), .val (.ref r_72), .unset, .unset, .unset] [(.ref r_72), (.ref b75), (.ref b75)])) _
        refine XS.iload X75.here hx rfl (hb hby at_39) rfl ?_
        show Steps p.tables e below (T75.setTop (mkF m 41 #[.val (.int p1), .val (.int p2), .val (.int p3), .val (.int p4), .val (.int p5), .val (.long q6), .second, .val (.int (p1 &&& (3 : Int32))), .val (.int (1 : Int32)), .val (.int (p1 >>> ((3 : Int32) &&& 31))), .val (.ref r_72), .unset, .unset, .unset] [(.int p5), (.ref r_72), (.ref b75), (.ref b75)])) _
        refine XS.iload X75.here hx rfl (hb hby at_41) rfl ?_
        show Steps p.tables e below (T75.setTop (mkF m 43 #[.val (.int p1), .val (.int p2), .val (.int p3), .val (.int p4), .val (.int p5), .val (.long q6), .second, .val (.int (p1 &&& (3 : Int32))), .val (.int (1 : Int32)), .val (.int (p1 >>> ((3 : Int32) &&& 31))), .val (.ref r_72), .unset, .unset, .unset] [(.int (p1 >>> ((3 : Int32) &&& 31))), (.int p5), (.ref r_72), (.ref b75), (.ref b75)])) _
        refine XS.iload X75.here hx rfl (hb hby at_43) rfl ?_
        show Steps p.tables e below (T75.setTop (mkF m 45 #[.val (.int p1), .val (.int p2), .val (.int p3), .val (.int p4), .val (.int p5), .val (.long q6), .second, .val (.int (p1 &&& (3 : Int32))), .val (.int (1 : Int32)), .val (.int (p1 >>> ((3 : Int32) &&& 31))), .val (.ref r_72), .unset, .unset, .unset] [(.int (1 : Int32)), (.int (p1 >>> ((3 : Int32) &&& 31))), (.int p5), (.ref r_72), (.ref b75), (.ref b75)])) _
        refine XS.lload X75.here hx rfl (hb hby at_45) rfl ?_
        show Steps p.tables e below (T75.setTop (mkF m 47 #[.val (.int p1), .val (.int p2), .val (.int p3), .val (.int p4), .val (.int p5), .val (.long q6), .second, .val (.int (p1 &&& (3 : Int32))), .val (.int (1 : Int32)), .val (.int (p1 >>> ((3 : Int32) &&& 31))), .val (.ref r_72), .unset, .unset, .unset] [(.long q6), (.int (1 : Int32)), (.int (p1 >>> ((3 : Int32) &&& 31))), (.int p5), (.ref r_72), (.ref b75), (.ref b75)])) _
        refine st84.trans ?_
        show Steps p.tables e below (T84.setTop (mkF m 50 #[.val (.int p1), .val (.int p2), .val (.int p3), .val (.int p4), .val (.int p5), .val (.long q6), .second, .val (.int (p1 &&& (3 : Int32))), .val (.int (1 : Int32)), .val (.int (p1 >>> ((3 : Int32) &&& 31))), .val (.ref r_72), .unset, .unset, .unset] [(.ref b75)])) _
        refine XS.astore X84.here hx rfl (hb hby at_50) rfl rfl (l' := #[.val (.int p1), .val (.int p2), .val (.int p3), .val (.int p4), .val (.int p5), .val (.long q6), .second, .val (.int (p1 &&& (3 : Int32))), .val (.int (1 : Int32)), .val (.int (p1 >>> ((3 : Int32) &&& 31))), .val (.ref r_72), .val (.ref b75), .unset, .unset]) rfl ?_
        show Steps p.tables e below (T84.setTop (mkF m 52 #[.val (.int p1), .val (.int p2), .val (.int p3), .val (.int p4), .val (.int p5), .val (.long q6), .second, .val (.int (p1 &&& (3 : Int32))), .val (.int (1 : Int32)), .val (.int (p1 >>> ((3 : Int32) &&& 31))), .val (.ref r_72), .val (.ref b75), .unset, .unset] [])) _
        refine XS.aload X84.here hx rfl (hb hby at_52) rfl rfl ?_
        show Steps p.tables e below (T84.setTop (mkF m 54 #[.val (.int p1), .val (.int p2), .val (.int p3), .val (.int p4), .val (.int p5), .val (.long q6), .second, .val (.int (p1 &&& (3 : Int32))), .val (.int (1 : Int32)), .val (.int (p1 >>> ((3 : Int32) &&& 31))), .val (.ref r_72), .val (.ref b75), .unset, .unset] [(.ref b75)])) _
        refine st87.trans ?_
        show Steps p.tables e below (T87.setTop (mkF m 57 #[.val (.int p1), .val (.int p2), .val (.int p3), .val (.int p4), .val (.int p5), .val (.long q6), .second, .val (.int (p1 &&& (3 : Int32))), .val (.int (1 : Int32)), .val (.int (p1 >>> ((3 : Int32) &&& 31))), .val (.ref r_72), .val (.ref b75), .unset, .unset] [(.int (1 : Int32))])) _
        refine XS.istore X87.here hx rfl (hb hby at_57) rfl (l' := #[.val (.int p1), .val (.int p2), .val (.int p3), .val (.int p4), .val (.int p5), .val (.long q6), .second, .val (.int (p1 &&& (3 : Int32))), .val (.int (1 : Int32)), .val (.int (p1 >>> ((3 : Int32) &&& 31))), .val (.ref r_72), .val (.ref b75), .val (.int (1 : Int32)), .unset]) rfl ?_
        show Steps p.tables e below (T87.setTop (mkF m 59 #[.val (.int p1), .val (.int p2), .val (.int p3), .val (.int p4), .val (.int p5), .val (.long q6), .second, .val (.int (p1 &&& (3 : Int32))), .val (.int (1 : Int32)), .val (.int (p1 >>> ((3 : Int32) &&& 31))), .val (.ref r_72), .val (.ref b75), .val (.int (1 : Int32)), .unset] [])) _
        refine XS.aload X87.here hx rfl (hb hby at_59) rfl rfl ?_
        show Steps p.tables e below (T87.setTop (mkF m 61 #[.val (.int p1), .val (.int p2), .val (.int p3), .val (.int p4), .val (.int p5), .val (.long q6), .second, .val (.int (p1 &&& (3 : Int32))), .val (.int (1 : Int32)), .val (.int (p1 >>> ((3 : Int32) &&& 31))), .val (.ref r_72), .val (.ref b75), .val (.int (1 : Int32)), .unset] [(.ref b75)])) _
        refine st89.trans ?_
        show Steps p.tables e below (T89.setTop (mkF m 64 #[.val (.int p1), .val (.int p2), .val (.int p3), .val (.int p4), .val (.int p5), .val (.long q6), .second, .val (.int (p1 &&& (3 : Int32))), .val (.int (1 : Int32)), .val (.int (p1 >>> ((3 : Int32) &&& 31))), .val (.ref r_72), .val (.ref b75), .val (.int (1 : Int32)), .unset] [(.int (0 : Int32))])) _
        refine XS.istore X89.here hx rfl (hb hby at_64) rfl (l' := #[.val (.int p1), .val (.int p2), .val (.int p3), .val (.int p4), .val (.int p5), .val (.long q6), .second, .val (.int (p1 &&& (3 : Int32))), .val (.int (1 : Int32)), .val (.int (p1 >>> ((3 : Int32) &&& 31))), .val (.ref r_72), .val (.ref b75), .val (.int (1 : Int32)), .val (.int (0 : Int32))]) rfl ?_
        show Steps p.tables e below (T89.setTop (mkF m 66 #[.val (.int p1), .val (.int p2), .val (.int p3), .val (.int p4), .val (.int p5), .val (.long q6), .second, .val (.int (p1 &&& (3 : Int32))), .val (.int (1 : Int32)), .val (.int (p1 >>> ((3 : Int32) &&& 31))), .val (.ref r_72), .val (.ref b75), .val (.int (1 : Int32)), .val (.int (0 : Int32))] [])) _
        refine XS.iload X89.here hx rfl (hb hby at_66) rfl ?_
        show Steps p.tables e below (T89.setTop (mkF m 68 #[.val (.int p1), .val (.int p2), .val (.int p3), .val (.int p4), .val (.int p5), .val (.long q6), .second, .val (.int (p1 &&& (3 : Int32))), .val (.int (1 : Int32)), .val (.int (p1 >>> ((3 : Int32) &&& 31))), .val (.ref r_72), .val (.ref b75), .val (.int (1 : Int32)), .val (.int (0 : Int32))] [(.int (1 : Int32))])) _
        refine XS.iload X89.here hx rfl (hb hby at_68) rfl ?_
        show Steps p.tables e below (T89.setTop (mkF m 70 #[.val (.int p1), .val (.int p2), .val (.int p3), .val (.int p4), .val (.int p5), .val (.long q6), .second, .val (.int (p1 &&& (3 : Int32))), .val (.int (1 : Int32)), .val (.int (p1 >>> ((3 : Int32) &&& 31))), .val (.ref r_72), .val (.ref b75), .val (.int (1 : Int32)), .val (.int (0 : Int32))] [(.int (p1 &&& (3 : Int32))), (.int (1 : Int32))])) _
        refine XS.ifNo X89.here hx rfl (hb hby at_70) rfl ((if0 _ _).trans (teq hc5).2) ?_
        show Steps p.tables e below (T89.setTop (mkF m 73 #[.val (.int p1), .val (.int p2), .val (.int p3), .val (.int p4), .val (.int p5), .val (.long q6), .second, .val (.int (p1 &&& (3 : Int32))), .val (.int (1 : Int32)), .val (.int (p1 >>> ((3 : Int32) &&& 31))), .val (.ref r_72), .val (.ref b75), .val (.int (1 : Int32)), .val (.int (0 : Int32))] [(.int (1 : Int32))])) _
        refine XS.iconst X89.here hx rfl (hb hby at_73) ?_
        show Steps p.tables e below (T89.setTop (mkF m 74 #[.val (.int p1), .val (.int p2), .val (.int p3), .val (.int p4), .val (.int p5), .val (.long q6), .second, .val (.int (p1 &&& (3 : Int32))), .val (.int (1 : Int32)), .val (.int (p1 >>> ((3 : Int32) &&& 31))), .val (.ref r_72), .val (.ref b75), .val (.int (1 : Int32)), .val (.int (0 : Int32))] [(.int (1 : Int32)), (.int (1 : Int32))])) _
        refine XS.goto X89.here hx rfl (pc0 := 74) (pc' := 78) rfl (hb hby at_74) (by decide) (by decide) ?_
        show Steps p.tables e below (T89.setTop (mkF m 78 #[.val (.int p1), .val (.int p2), .val (.int p3), .val (.int p4), .val (.int p5), .val (.long q6), .second, .val (.int (p1 &&& (3 : Int32))), .val (.int (1 : Int32)), .val (.int (p1 >>> ((3 : Int32) &&& 31))), .val (.ref r_72), .val (.ref b75), .val (.int (1 : Int32)), .val (.int (0 : Int32))] [(.int (1 : Int32)), (.int (1 : Int32))])) _
        refine XS.icmpNo X89.here hx rfl (hb hby at_78) rfl (teq (by decide : (1 : Int32) = (1 : Int32))).2 ?_
        show Steps p.tables e below (T89.setTop (mkF m 81 #[.val (.int p1), .val (.int p2), .val (.int p3), .val (.int p4), .val (.int p5), .val (.long q6), .second, .val (.int (p1 &&& (3 : Int32))), .val (.int (1 : Int32)), .val (.int (p1 >>> ((3 : Int32) &&& 31))), .val (.ref r_72), .val (.ref b75), .val (.int (1 : Int32)), .val (.int (0 : Int32))] [])) _
        refine XS.iload X89.here hx rfl (hb hby at_81) rfl ?_
        show Steps p.tables e below (T89.setTop (mkF m 83 #[.val (.int p1), .val (.int p2), .val (.int p3), .val (.int p4), .val (.int p5), .val (.long q6), .second, .val (.int (p1 &&& (3 : Int32))), .val (.int (1 : Int32)), .val (.int (p1 >>> ((3 : Int32) &&& 31))), .val (.ref r_72), .val (.ref b75), .val (.int (1 : Int32)), .val (.int (0 : Int32))] [(.int (0 : Int32))])) _
        refine XS.iload X89.here hx rfl (hb hby at_83) rfl ?_
        show Steps p.tables e below (T89.setTop (mkF m 85 #[.val (.int p1), .val (.int p2), .val (.int p3), .val (.int p4), .val (.int p5), .val (.long q6), .second, .val (.int (p1 &&& (3 : Int32))), .val (.int (1 : Int32)), .val (.int (p1 >>> ((3 : Int32) &&& 31))), .val (.ref r_72), .val (.ref b75), .val (.int (1 : Int32)), .val (.int (0 : Int32))] [(.int (p1 &&& (3 : Int32))), (.int (0 : Int32))])) _
        refine XS.icmpNo X89.here hx rfl (hb hby at_85) rfl (teq (Eq.symm hc5)).2 ?_
        show Steps p.tables e below (T89.setTop (mkF m 88 #[.val (.int p1), .val (.int p2), .val (.int p3), .val (.int p4), .val (.int p5), .val (.long q6), .second, .val (.int (p1 &&& (3 : Int32))), .val (.int (1 : Int32)), .val (.int (p1 >>> ((3 : Int32) &&& 31))), .val (.ref r_72), .val (.ref b75), .val (.int (1 : Int32)), .val (.int (0 : Int32))] [])) _
        refine XS.iload X89.here hx rfl (hb hby at_88) rfl ?_
        show Steps p.tables e below (T89.setTop (mkF m 90 #[.val (.int p1), .val (.int p2), .val (.int p3), .val (.int p4), .val (.int p5), .val (.long q6), .second, .val (.int (p1 &&& (3 : Int32))), .val (.int (1 : Int32)), .val (.int (p1 >>> ((3 : Int32) &&& 31))), .val (.ref r_72), .val (.ref b75), .val (.int (1 : Int32)), .val (.int (0 : Int32))] [(.int (1 : Int32))])) _
        refine XS.iload X89.here hx rfl (hb hby at_90) rfl ?_
        show Steps p.tables e below (T89.setTop (mkF m 92 #[.val (.int p1), .val (.int p2), .val (.int p3), .val (.int p4), .val (.int p5), .val (.long q6), .second, .val (.int (p1 &&& (3 : Int32))), .val (.int (1 : Int32)), .val (.int (p1 >>> ((3 : Int32) &&& 31))), .val (.ref r_72), .val (.ref b75), .val (.int (1 : Int32)), .val (.int (0 : Int32))] [(.int (0 : Int32)), (.int (1 : Int32))])) _
        refine XS.ifNo X89.here hx rfl (hb hby at_92) rfl ((if0 _ _).trans (teq (by decide : (0 : Int32) = (0 : Int32))).2) ?_
        show Steps p.tables e below (T89.setTop (mkF m 95 #[.val (.int p1), .val (.int p2), .val (.int p3), .val (.int p4), .val (.int p5), .val (.long q6), .second, .val (.int (p1 &&& (3 : Int32))), .val (.int (1 : Int32)), .val (.int (p1 >>> ((3 : Int32) &&& 31))), .val (.ref r_72), .val (.ref b75), .val (.int (1 : Int32)), .val (.int (0 : Int32))] [(.int (1 : Int32))])) _
        refine XS.iconst X89.here hx rfl (hb hby at_95) ?_
        show Steps p.tables e below (T89.setTop (mkF m 96 #[.val (.int p1), .val (.int p2), .val (.int p3), .val (.int p4), .val (.int p5), .val (.long q6), .second, .val (.int (p1 &&& (3 : Int32))), .val (.int (1 : Int32)), .val (.int (p1 >>> ((3 : Int32) &&& 31))), .val (.ref r_72), .val (.ref b75), .val (.int (1 : Int32)), .val (.int (0 : Int32))] [(.int (1 : Int32)), (.int (1 : Int32))])) _
        refine XS.goto X89.here hx rfl (pc0 := 96) (pc' := 100) rfl (hb hby at_96) (by decide) (by decide) ?_
        show Steps p.tables e below (T89.setTop (mkF m 100 #[.val (.int p1), .val (.int p2), .val (.int p3), .val (.int p4), .val (.int p5), .val (.long q6), .second, .val (.int (p1 &&& (3 : Int32))), .val (.int (1 : Int32)), .val (.int (p1 >>> ((3 : Int32) &&& 31))), .val (.ref r_72), .val (.ref b75), .val (.int (1 : Int32)), .val (.int (0 : Int32))] [(.int (1 : Int32)), (.int (1 : Int32))])) _
        refine XS.icmpNo X89.here hx rfl (hb hby at_100) rfl (teq (by decide : (1 : Int32) = (1 : Int32))).2 ?_
        show Steps p.tables e below (T89.setTop (mkF m 103 #[.val (.int p1), .val (.int p2), .val (.int p3), .val (.int p4), .val (.int p5), .val (.long q6), .second, .val (.int (p1 &&& (3 : Int32))), .val (.int (1 : Int32)), .val (.int (p1 >>> ((3 : Int32) &&& 31))), .val (.ref r_72), .val (.ref b75), .val (.int (1 : Int32)), .val (.int (0 : Int32))] [])) _
        refine XS.iconst X89.here hx rfl (hb hby at_103) ?_
        show Steps p.tables e below (T89.setTop (mkF m 104 #[.val (.int p1), .val (.int p2), .val (.int p3), .val (.int p4), .val (.int p5), .val (.long q6), .second, .val (.int (p1 &&& (3 : Int32))), .val (.int (1 : Int32)), .val (.int (p1 >>> ((3 : Int32) &&& 31))), .val (.ref r_72), .val (.ref b75), .val (.int (1 : Int32)), .val (.int (0 : Int32))] [(.int (1 : Int32))])) _
        refine XS.goto X89.here hx rfl (pc0 := 104) (pc' := 108) rfl (hb hby at_104) (by decide) (by decide) ?_
        show Steps p.tables e below (T89.setTop (mkF m 108 #[.val (.int p1), .val (.int p2), .val (.int p3), .val (.int p4), .val (.int p5), .val (.long q6), .second, .val (.int (p1 &&& (3 : Int32))), .val (.int (1 : Int32)), .val (.int (p1 >>> ((3 : Int32) &&& 31))), .val (.ref r_72), .val (.ref b75), .val (.int (1 : Int32)), .val (.int (0 : Int32))] [(.int (1 : Int32))])) _
        exact retN X89 hx (t := .boolean) Bd.returns (by simp) (hb hby at_108) hr
      · show Q_rm0 Z p1 p2 p3 p4 p5 q6 h0 n0 _ T89.heap _
        exact ⟨rfl, N89⟩
    · by_cases hc6 : (p1 &&& (3 : Int32)) = (1 : Int32)
      · obtain ⟨_, _, ⟨T90, L90, k90, n90⟩, -, X90, ⟨Lc90, hQ90, l90, y90, z90⟩, st90⟩ := Jvm.LawKit.callS X0 hx (y := (⟨"com/example/concordia/concordia/clause/ClauseIsEmptyPinLaw", "literalsOf", "(IIII)[I"⟩ : MethodName)) hown (mvT hZ (hw _ (List.mem_of_getElem? (i := 0) rfl))) (mvT hZ (hw _ (List.mem_of_getElem? (i := 1) rfl))) (mvT hZ (hw _ (List.mem_of_getElem? (i := 2) rfl))) (mvT hZ (hw _ (List.mem_of_getElem? (i := 3) rfl))) (by decide) (backOf (W := 0) (rm_lit1 l Z a0 hw [] (p1 &&& (3 : Int32)) p2 p3 p4 h0 n0 Z0 hc5 hc6) hZ (hw _ (List.mem_of_getElem? (i := 3) rfl)) (hw _ (List.mem_of_getElem? (i := 2) rfl)) (by decide) (by decide)) (g := (mkF m 28 #[.val (.int p1), .val (.int p2), .val (.int p3), .val (.int p4), .val (.int p5), .val (.long q6), .second, .val (.int (p1 &&& (3 : Int32))), .val (.int (1 : Int32)), .val (.int (p1 >>> ((3 : Int32) &&& 31))), .unset, .unset, .unset, .unset] [(.int p4), (.int p3), (.int p2), (.int (p1 &&& (3 : Int32)))])) rfl (by rw [hml]; rfl) (argsL := [(.int (p1 &&& (3 : Int32))), (.int p2), (.int p3), (.int p4)]) (rest := []) (lenOf pd__40IIII_41_91I rfl) rfl (by show 2 * 0 + _ ≤ _; exact Nat.le_of_eq rfl) (hb hby at_28) (fun _ _ => ⟨rfl, e0, (by decide : 0 + 1 ≤ _), (by decide : 0 + 1 ≤ _)⟩)
        dsimp only [Pt.U, Pt.locs, Pt.cells, Pt.slots] at X90 l90 y90 z90 st90 hQ90
        subst l90 y90 z90
        obtain ⟨r_90, k_90, rfl, Nq90, Kc90, p90_0, p90_1⟩ := hQ90
        have gzr_90 : h0.size ≤ r_90 := Nat.le_trans (Keep.refl h0 []).1 p90_0
        have gnr_90 : n0 ≤ r_90 := Nat.le_trans Z0 gzr_90
        have K92 : Keep h0 T90.heap [] := (Keep.refl h0 []).trans Kc90 all0
        have N90 := Fr.app N0 Nq90
        obtain ⟨T93, h93, X93, e93, E93, A93, D93, -, st93⟩ := newO X90 hx hZ hown (hw _ (List.mem_of_getElem? (i := 5) rfl)) (hw _ (List.mem_of_getElem? (i := 6) rfl)) (hw _ (List.mem_of_getElem? (i := 7) rfl)) rfl (g := (mkF m 33 #[.val (.int p1), .val (.int p2), .val (.int p3), .val (.int p4), .val (.int p5), .val (.long q6), .second, .val (.int (p1 &&& (3 : Int32))), .val (.int (1 : Int32)), .val (.int (p1 >>> ((3 : Int32) &&& 31))), .val (.ref r_90), .unset, .unset, .unset] [])) rfl (hb hby at_33) (by decide) (by decide)
        obtain ⟨b93, g93⟩ : ∃ z, z = T90.heap.size := ⟨_, rfl⟩
        rw [← g93] at A93 D93 st93
        have gnb93 : n0 ≤ b93 := Nat.le_trans (Nat.le_trans Z0 K92.1) (Nat.le_of_eq g93.symm)
        have gzb93 : h0.size ≤ b93 := Nat.le_trans K92.1 (Nat.le_of_eq g93.symm)
        have K94 : Keep h0 h93 [] := K92.ext E93
        have f95 : Fld Z h93 b93 "com/example/concordia/concordia/clause/Clause" "literals" "[I" .null := D93 (Or.inr (hw _ (List.mem_of_getElem? (i := 15) rfl))) (ty := (.array .int)) (by decide)
        have f96 : Fld Z h93 b93 "com/example/concordia/concordia/clause/Clause" "unit" "I" (.int (0 : Int32)) := D93 (Or.inr (hw _ (List.mem_of_getElem? (i := 17) rfl))) (ty := .int) (by decide)
        have f97 : Fld Z h93 b93 "com/example/concordia/concordia/clause/Clause" "weight" "I" (.int (0 : Int32)) := D93 (Or.inr (hw _ (List.mem_of_getElem? (i := 19) rfl))) (ty := .int) (by decide)
        have f98 : Fld Z h93 b93 "com/example/concordia/concordia/clause/Clause" "variableCount" "I" (.int (0 : Int32)) := D93 (Or.inr (hw _ (List.mem_of_getElem? (i := 21) rfl))) (ty := .int) (by decide)
        have f99 : Fld Z h93 b93 "com/example/concordia/concordia/clause/Clause" "tautology" "Z" (.int (0 : Int32)) := D93 (Or.inr (hw _ (List.mem_of_getElem? (i := 23) rfl))) (ty := .boolean) (by decide)
        have f100 : Fld Z h93 b93 "com/example/concordia/concordia/clause/Clause" "signature" "J" (.long (0 : Int64)) := D93 (Or.inr (hw _ (List.mem_of_getElem? (i := 25) rfl))) (ty := .long) (by decide)
        have f101 : Arv Z h93 r_90 k_90 .int (1 : Int32) [(.int p2)] (.int (0 : Int32)) := (p90_1.ext E93)
        obtain ⟨_, _, ⟨T102, L102, k102, n102⟩, -, X102, ⟨Lc102, hQ102, l102, y102, z102⟩, st102⟩ := X93.specialBack hx (y := (⟨"com/example/concordia/concordia/clause/Clause", "<init>", "([IIIZJ)V"⟩ : MethodName)) rfl hown (mvT hZ (hw _ (List.mem_of_getElem? (i := 8) rfl))) (mvT hZ (hw _ (List.mem_of_getElem? (i := 9) rfl))) (mvT hZ (hw _ (List.mem_of_getElem? (i := 10) rfl))) (by decide) (backOf (W := 1) (rm_ini1 l Z a0 hw [] b93 r_90 p5 (p1 >>> ((3 : Int32) &&& 31)) (1 : Int32) q6 .null (.int (0 : Int32)) (.int (0 : Int32)) (.int (0 : Int32)) (.int (0 : Int32)) (.long (0 : Int64)) k_90 p2 h93 n0 (Nat.le_trans Z0 K94.1) A93 f95 f96 f97 f98 f99 f100 gnb93 f101) hZ (hw _ (List.mem_of_getElem? (i := 10) rfl)) (hw _ (List.mem_of_getElem? (i := 7) rfl)) (by decide) (by decide)) (g := (mkF m 47 #[.val (.int p1), .val (.int p2), .val (.int p3), .val (.int p4), .val (.int p5), .val (.long q6), .second, .val (.int (p1 &&& (3 : Int32))), .val (.int (1 : Int32)), .val (.int (p1 >>> ((3 : Int32) &&& 31))), .val (.ref r_90), .unset, .unset, .unset] [(.long q6), (.int (1 : Int32)), (.int (p1 >>> ((3 : Int32) &&& 31))), (.int p5), (.ref r_90), (.ref b93), (.ref b93)])) rfl (by rw [hml]; rfl) (Steps.refl _) (a := b93) (argsL := [(.ref r_90), (.int p5), (.int (p1 >>> ((3 : Int32) &&& 31))), (.int (1 : Int32)), (.long q6)]) (rest := [(.ref b93)]) (lenOf pd__40_91IIIZJ_41V rfl) rfl (by show 2 * 0 + _ ≤ _; exact Nat.le_of_eq rfl) (hb hby at_47) (fun _ _ => ⟨rfl, e93, (by decide : 2 + 0 ≤ _), (by decide : 7 + 0 ≤ _)⟩)
        dsimp only [Pt.U, Pt.locs, Pt.cells, Pt.slots] at X102 l102 y102 z102 st102 hQ102
        subst l102 y102 z102
        obtain ⟨rfl, Nq102, Kc102, p102_0⟩ := hQ102
        have K103 : Keep h0 T102.heap [] := K94.trans Kc102 (allS (Or.inr gzb93) all0)
        have N102 := Fr.app N90 Nq102
        have f105 : Exa Z T102.heap b93 "com/example/concordia/concordia/clause/Clause" := (A93.keep Kc102)
        obtain ⟨cq104, kq104, q104a, q104b, q104c⟩ := isOf hZ rfl f105
        obtain ⟨_, _, ⟨T104, L104, k104, n104⟩, -, X104, ⟨Lc104, hQ104, l104, y104, z104⟩, st104⟩ := X102.virtualBack hx (y := (⟨"com/example/concordia/concordia/clause/Clause", "isEmpty", "()Z"⟩ : MethodName)) (z := (⟨"com/example/concordia/concordia/clause/Clause", "isEmpty", "()Z"⟩ : MethodName)) hown (mvT hZ (hw _ (List.mem_of_getElem? (i := 26) rfl))) (mvT hZ (hw _ (List.mem_of_getElem? (i := 27) rfl))) (notFace_of_selects (args := #[]) (mvT hZ (hw _ (List.mem_of_getElem? (i := 29) rfl)))) (mvT hZ (hw _ (List.mem_of_getElem? (i := 29) rfl))) (mvT hZ (hw _ (List.mem_of_getElem? (i := 28) rfl))) (by decide) (backOf (W := 0) (rm_em0 l Z a0 hw [] b93 T102.heap n0 (Nat.le_trans Z0 K103.1) p102_0) hZ (hw _ (List.mem_of_getElem? (i := 30) rfl)) (hw _ (List.mem_of_getElem? (i := 7) rfl)) (by decide) (by decide)) q104a q104c (g := (mkF m 54 #[.val (.int p1), .val (.int p2), .val (.int p3), .val (.int p4), .val (.int p5), .val (.long q6), .second, .val (.int (p1 &&& (3 : Int32))), .val (.int (1 : Int32)), .val (.int (p1 >>> ((3 : Int32) &&& 31))), .val (.ref r_90), .val (.ref b93), .unset, .unset] [(.ref b93)])) rfl (by rw [hml]; rfl) (Steps.refl _) (argsL := []) (rest := []) (lenOf pd__40_41Z rfl) rfl (by show 2 * 0 + _ ≤ _; exact Nat.le_of_eq rfl) (hb hby at_54) (fun _ _ => ⟨rfl, rfl, (by decide : 2 + 0 ≤ _), (by decide : 7 + 0 ≤ _)⟩)
        dsimp only [Pt.U, Pt.locs, Pt.cells, Pt.slots] at X104 l104 y104 z104 st104 hQ104
        subst l104 y104 z104
        obtain ⟨rfl, Nq104, e104⟩ := hQ104
        have N104 := Fr.app N102 Nq104
        obtain ⟨cq106, kq106, q106a, q106b, q106c⟩ := isOf hZ e104 f105
        obtain ⟨_, _, ⟨T106, L106, k106, n106⟩, -, X106, ⟨Lc106, hQ106, l106, y106, z106⟩, st106⟩ := X104.virtualBack hx (y := (⟨"com/example/concordia/concordia/clause/Clause", "literalCount", "()I"⟩ : MethodName)) (z := (⟨"com/example/concordia/concordia/clause/Clause", "literalCount", "()I"⟩ : MethodName)) hown (mvT hZ (hw _ (List.mem_of_getElem? (i := 31) rfl))) (mvT hZ (hw _ (List.mem_of_getElem? (i := 32) rfl))) (notFace_of_selects (args := #[]) (mvT hZ (hw _ (List.mem_of_getElem? (i := 34) rfl)))) (mvT hZ (hw _ (List.mem_of_getElem? (i := 34) rfl))) (mvT hZ (hw _ (List.mem_of_getElem? (i := 33) rfl))) (by decide) (backOf (W := 0) (rm_lc0 l Z a0 hw [] b93 T102.heap n0 (Nat.le_trans Z0 K103.1) p102_0) hZ (hw _ (List.mem_of_getElem? (i := 35) rfl)) (hw _ (List.mem_of_getElem? (i := 7) rfl)) (by decide) (by decide)) q106a q106c (g := (mkF m 61 #[.val (.int p1), .val (.int p2), .val (.int p3), .val (.int p4), .val (.int p5), .val (.long q6), .second, .val (.int (p1 &&& (3 : Int32))), .val (.int (1 : Int32)), .val (.int (p1 >>> ((3 : Int32) &&& 31))), .val (.ref r_90), .val (.ref b93), .val (.int (0 : Int32)), .unset] [(.ref b93)])) rfl (by rw [hml]; rfl) (Steps.refl _) (argsL := []) (rest := []) (lenOf pd__40_41I rfl) rfl (by show 2 * 0 + _ ≤ _; exact Nat.le_of_eq rfl) (hb hby at_61) (fun _ _ => ⟨rfl, e104, (by decide : 2 + 0 ≤ _), (by decide : 7 + 0 ≤ _)⟩)
        dsimp only [Pt.U, Pt.locs, Pt.cells, Pt.slots] at X106 l106 y106 z106 st106 hQ106
        subst l106 y106 z106
        obtain ⟨rfl, Nq106, e106⟩ := hQ106
        have N106 := Fr.app N104 Nq106
        obtain ⟨fs, hr, hrun, hended, hW, hsame⟩ := X106.leave (v := some (.int (1 : Int32))) (fun h => by rw [Bd.returns] at h; cases h)
        refine ⟨_, _, pre0 _ ?_, hrun, hended, _, _, rfl, ?_, ⟨_, rfl⟩, hW, hsame.mono (by decide) (by decide)⟩
        · show Steps p.tables e below (s₁.setTop (mkF m 0 #[.val (.int p1), .val (.int p2), .val (.int p3), .val (.int p4), .val (.int p5), .val (.long q6), .second, .unset, .unset, .unset, .unset, .unset, .unset, .unset] [])) _
          refine XS.iloadN X0.here hx rfl (hb hby at_0) rfl ?_
          show Steps p.tables e below (s₁.setTop (mkF m 1 #[.val (.int p1), .val (.int p2), .val (.int p3), .val (.int p4), .val (.int p5), .val (.long q6), .second, .unset, .unset, .unset, .unset, .unset, .unset, .unset] [(.int p1)])) _
          refine XS.iconst X0.here hx rfl (hb hby at_1) ?_
          show Steps p.tables e below (s₁.setTop (mkF m 2 #[.val (.int p1), .val (.int p2), .val (.int p3), .val (.int p4), .val (.int p5), .val (.long q6), .second, .unset, .unset, .unset, .unset, .unset, .unset, .unset] [(.int (3 : Int32)), (.int p1)])) _
          refine XS.iand X0.here hx rfl (hb hby at_2) rfl ?_
          show Steps p.tables e below (s₁.setTop (mkF m 3 #[.val (.int p1), .val (.int p2), .val (.int p3), .val (.int p4), .val (.int p5), .val (.long q6), .second, .unset, .unset, .unset, .unset, .unset, .unset, .unset] [(.int (p1 &&& (3 : Int32)))])) _
          refine XS.istore X0.here hx rfl (hb hby at_3) rfl (l' := #[.val (.int p1), .val (.int p2), .val (.int p3), .val (.int p4), .val (.int p5), .val (.long q6), .second, .val (.int (p1 &&& (3 : Int32))), .unset, .unset, .unset, .unset, .unset, .unset]) rfl ?_
          show Steps p.tables e below (s₁.setTop (mkF m 5 #[.val (.int p1), .val (.int p2), .val (.int p3), .val (.int p4), .val (.int p5), .val (.long q6), .second, .val (.int (p1 &&& (3 : Int32))), .unset, .unset, .unset, .unset, .unset, .unset] [])) _
          refine XS.iloadN X0.here hx rfl (hb hby at_5) rfl ?_
          show Steps p.tables e below (s₁.setTop (mkF m 6 #[.val (.int p1), .val (.int p2), .val (.int p3), .val (.int p4), .val (.int p5), .val (.long q6), .second, .val (.int (p1 &&& (3 : Int32))), .unset, .unset, .unset, .unset, .unset, .unset] [(.int p1)])) _
          refine XS.iconst X0.here hx rfl (hb hby at_6) ?_
          show Steps p.tables e below (s₁.setTop (mkF m 7 #[.val (.int p1), .val (.int p2), .val (.int p3), .val (.int p4), .val (.int p5), .val (.long q6), .second, .val (.int (p1 &&& (3 : Int32))), .unset, .unset, .unset, .unset, .unset, .unset] [(.int (4 : Int32)), (.int p1)])) _
          refine XS.iand X0.here hx rfl (hb hby at_7) rfl ?_
          show Steps p.tables e below (s₁.setTop (mkF m 8 #[.val (.int p1), .val (.int p2), .val (.int p3), .val (.int p4), .val (.int p5), .val (.long q6), .second, .val (.int (p1 &&& (3 : Int32))), .unset, .unset, .unset, .unset, .unset, .unset] [(.int (p1 &&& (4 : Int32)))])) _
          refine XS.ifNo X0.here hx rfl (hb hby at_8) rfl ((if0 _ _).trans (feq hc1).1) ?_
          show Steps p.tables e below (s₁.setTop (mkF m 11 #[.val (.int p1), .val (.int p2), .val (.int p3), .val (.int p4), .val (.int p5), .val (.long q6), .second, .val (.int (p1 &&& (3 : Int32))), .unset, .unset, .unset, .unset, .unset, .unset] [])) _
          refine XS.iconst X0.here hx rfl (hb hby at_11) ?_
          show Steps p.tables e below (s₁.setTop (mkF m 12 #[.val (.int p1), .val (.int p2), .val (.int p3), .val (.int p4), .val (.int p5), .val (.long q6), .second, .val (.int (p1 &&& (3 : Int32))), .unset, .unset, .unset, .unset, .unset, .unset] [(.int (1 : Int32))])) _
          refine XS.goto X0.here hx rfl (pc0 := 12) (pc' := 16) rfl (hb hby at_12) (by decide) (by decide) ?_
          show Steps p.tables e below (s₁.setTop (mkF m 16 #[.val (.int p1), .val (.int p2), .val (.int p3), .val (.int p4), .val (.int p5), .val (.long q6), .second, .val (.int (p1 &&& (3 : Int32))), .unset, .unset, .unset, .unset, .unset, .unset] [(.int (1 : Int32))])) _
          refine XS.istore X0.here hx rfl (hb hby at_16) rfl (l' := #[.val (.int p1), .val (.int p2), .val (.int p3), .val (.int p4), .val (.int p5), .val (.long q6), .second, .val (.int (p1 &&& (3 : Int32))), .val (.int (1 : Int32)), .unset, .unset, .unset, .unset, .unset]) rfl ?_
          show Steps p.tables e below (s₁.setTop (mkF m 18 #[.val (.int p1), .val (.int p2), .val (.int p3), .val (.int p4), .val (.int p5), .val (.long q6), .second, .val (.int (p1 &&& (3 : Int32))), .val (.int (1 : Int32)), .unset, .unset, .unset, .unset, .unset] [])) _
          refine XS.iloadN X0.here hx rfl (hb hby at_18) rfl ?_
          show Steps p.tables e below (s₁.setTop (mkF m 19 #[.val (.int p1), .val (.int p2), .val (.int p3), .val (.int p4), .val (.int p5), .val (.long q6), .second, .val (.int (p1 &&& (3 : Int32))), .val (.int (1 : Int32)), .unset, .unset, .unset, .unset, .unset] [(.int p1)])) _
          refine XS.iconst X0.here hx rfl (hb hby at_19) ?_
          show Steps p.tables e below (s₁.setTop (mkF m 20 #[.val (.int p1), .val (.int p2), .val (.int p3), .val (.int p4), .val (.int p5), .val (.long q6), .second, .val (.int (p1 &&& (3 : Int32))), .val (.int (1 : Int32)), .unset, .unset, .unset, .unset, .unset] [(.int (3 : Int32)), (.int p1)])) _
          refine XS.ishr X0.here hx rfl (hb hby at_20) rfl ?_
          show Steps p.tables e below (s₁.setTop (mkF m 21 #[.val (.int p1), .val (.int p2), .val (.int p3), .val (.int p4), .val (.int p5), .val (.long q6), .second, .val (.int (p1 &&& (3 : Int32))), .val (.int (1 : Int32)), .unset, .unset, .unset, .unset, .unset] [(.int (p1 >>> ((3 : Int32) &&& 31)))])) _
          refine XS.istore X0.here hx rfl (hb hby at_21) rfl (l' := #[.val (.int p1), .val (.int p2), .val (.int p3), .val (.int p4), .val (.int p5), .val (.long q6), .second, .val (.int (p1 &&& (3 : Int32))), .val (.int (1 : Int32)), .val (.int (p1 >>> ((3 : Int32) &&& 31))), .unset, .unset, .unset, .unset]) rfl ?_
          show Steps p.tables e below (s₁.setTop (mkF m 23 #[.val (.int p1), .val (.int p2), .val (.int p3), .val (.int p4), .val (.int p5), .val (.long q6), .second, .val (.int (p1 &&& (3 : Int32))), .val (.int (1 : Int32)), .val (.int (p1 >>> ((3 : Int32) &&& 31))), .unset, .unset, .unset, .unset] [])) _
          refine XS.iload X0.here hx rfl (hb hby at_23) rfl ?_
          show Steps p.tables e below (s₁.setTop (mkF m 25 #[.val (.int p1), .val (.int p2), .val (.int p3), .val (.int p4), .val (.int p5), .val (.long q6), .second, .val (.int (p1 &&& (3 : Int32))), .val (.int (1 : Int32)), .val (.int (p1 >>> ((3 : Int32) &&& 31))), .unset, .unset, .unset, .unset] [(.int (p1 &&& (3 : Int32)))])) _
          refine XS.iloadN X0.here hx rfl (hb hby at_25) rfl ?_
          show Steps p.tables e below (s₁.setTop (mkF m 26 #[.val (.int p1), .val (.int p2), .val (.int p3), .val (.int p4), .val (.int p5), .val (.long q6), .second, .val (.int (p1 &&& (3 : Int32))), .val (.int (1 : Int32)), .val (.int (p1 >>> ((3 : Int32) &&& 31))), .unset, .unset, .unset, .unset] [(.int p2), (.int (p1 &&& (3 : Int32)))])) _
          refine XS.iloadN X0.here hx rfl (hb hby at_26) rfl ?_
          show Steps p.tables e below (s₁.setTop (mkF m 27 #[.val (.int p1), .val (.int p2), .val (.int p3), .val (.int p4), .val (.int p5), .val (.long q6), .second, .val (.int (p1 &&& (3 : Int32))), .val (.int (1 : Int32)), .val (.int (p1 >>> ((3 : Int32) &&& 31))), .unset, .unset, .unset, .unset] [(.int p3), (.int p2), (.int (p1 &&& (3 : Int32)))])) _
          refine XS.iloadN X0.here hx rfl (hb hby at_27) rfl ?_
          show Steps p.tables e below (s₁.setTop (mkF m 28 #[.val (.int p1), .val (.int p2), .val (.int p3), .val (.int p4), .val (.int p5), .val (.long q6), .second, .val (.int (p1 &&& (3 : Int32))), .val (.int (1 : Int32)), .val (.int (p1 >>> ((3 : Int32) &&& 31))), .unset, .unset, .unset, .unset] [(.int p4), (.int p3), (.int p2), (.int (p1 &&& (3 : Int32)))])) _
          refine st90 _ ?_
          show Steps p.tables e below (T90.setTop (mkF m 31 #[.val (.int p1), .val (.int p2), .val (.int p3), .val (.int p4), .val (.int p5), .val (.long q6), .second, .val (.int (p1 &&& (3 : Int32))), .val (.int (1 : Int32)), .val (.int (p1 >>> ((3 : Int32) &&& 31))), .unset, .unset, .unset, .unset] [(.ref r_90)])) _
          refine XS.astore X90.here hx rfl (hb hby at_31) rfl rfl (l' := #[.val (.int p1), .val (.int p2), .val (.int p3), .val (.int p4), .val (.int p5), .val (.long q6), .second, .val (.int (p1 &&& (3 : Int32))), .val (.int (1 : Int32)), .val (.int (p1 >>> ((3 : Int32) &&& 31))), .val (.ref r_90), .unset, .unset, .unset]) rfl ?_
          show Steps p.tables e below (T90.setTop (mkF m 33 #[.val (.int p1), .val (.int p2), .val (.int p3), .val (.int p4), .val (.int p5), .val (.long q6), .second, .val (.int (p1 &&& (3 : Int32))), .val (.int (1 : Int32)), .val (.int (p1 >>> ((3 : Int32) &&& 31))), .val (.ref r_90), .unset, .unset, .unset] [])) _
          refine st93 _ ?_
          show Steps p.tables e below (T93.setTop (mkF m 36 #[.val (.int p1), .val (.int p2), .val (.int p3), .val (.int p4), .val (.int p5), .val (.long q6), .second, .val (.int (p1 &&& (3 : Int32))), .val (.int (1 : Int32)), .val (.int (p1 >>> ((3 : Int32) &&& 31))), .val (.ref r_90), .unset, .unset, .unset] [(.ref b93)])) _
          refine XS.dup X93.here hx rfl (hb hby at_36) rfl rfl ?_
          show Steps p.tables e below (T93.setTop (mkF m 37 #[.val (.int p1), .val (.int p2), .val (.int p3), .val (.int p4), .val (.int p5), .val (.long q6), .second, .val (.int (p1 &&& (3 : Int32))), .val (.int (1 : Int32)), .val (.int (p1 >>> ((3 : Int32) &&& 31))), .val (.ref r_90), .unset, .unset, .unset] [(.ref b93), (.ref b93)])) _
          refine XS.aload X93.here hx rfl (hb hby at_37) rfl rfl ?_
          show Steps p.tables e below (T93.setTop (mkF m 39 #[.val (.int p1), .val (.int p2), .val (.int p3), .val (.int p4), .val (.int p5), .val (.long q6), .second, .val (.int (p1 &&& (3 : Int32))), .val (.int (1 : Int32)), .val (.int (p1 >>> ((3 : Int32) &&& 31))), .val (.ref r_90), .unset, .unset, .unset] [(.ref r_90), (.ref b93), (.ref b93)])) _
          refine XS.iload X93.here hx rfl (hb hby at_39) rfl ?_
          show Steps p.tables e below (T93.setTop (mkF m 41 #[.val (.int p1), .val (.int p2), .val (.int p3), .val (.int p4), .val (.int p5), .val (.long q6), .second, .val (.int (p1 &&& (3 : Int32))), .val (.int (1 : Int32)), .val (.int (p1 >>> ((3 : Int32) &&& 31))), .val (.ref r_90), .unset, .unset, .unset] [(.int p5), (.ref r_90), (.ref b93), (.ref b93)])) _
          refine XS.iload X93.here hx rfl (hb hby at_41) rfl ?_
          show Steps p.tables e below (T93.setTop (mkF m 43 #[.val (.int p1), .val (.int p2), .val (.int p3), .val (.int p4), .val (.int p5), .val (.long q6), .second, .val (.int (p1 &&& (3 : Int32))), .val (.int (1 : Int32)), .val (.int (p1 >>> ((3 : Int32) &&& 31))), .val (.ref r_90), .unset, .unset, .unset] [(.int (p1 >>> ((3 : Int32) &&& 31))), (.int p5), (.ref r_90), (.ref b93), (.ref b93)])) _
          refine XS.iload X93.here hx rfl (hb hby at_43) rfl ?_
          show Steps p.tables e below (T93.setTop (mkF m 45 #[.val (.int p1), .val (.int p2), .val (.int p3), .val (.int p4), .val (.int p5), .val (.long q6), .second, .val (.int (p1 &&& (3 : Int32))), .val (.int (1 : Int32)), .val (.int (p1 >>> ((3 : Int32) &&& 31))), .val (.ref r_90), .unset, .unset, .unset] [(.int (1 : Int32)), (.int (p1 >>> ((3 : Int32) &&& 31))), (.int p5), (.ref r_90), (.ref b93), (.ref b93)])) _
          refine XS.lload X93.here hx rfl (hb hby at_45) rfl ?_
          show Steps p.tables e below (T93.setTop (mkF m 47 #[.val (.int p1), .val (.int p2), .val (.int p3), .val (.int p4), .val (.int p5), .val (.long q6), .second, .val (.int (p1 &&& (3 : Int32))), .val (.int (1 : Int32)), .val (.int (p1 >>> ((3 : Int32) &&& 31))), .val (.ref r_90), .unset, .unset, .unset] [(.long q6), (.int (1 : Int32)), (.int (p1 >>> ((3 : Int32) &&& 31))), (.int p5), (.ref r_90), (.ref b93), (.ref b93)])) _
          refine st102.trans ?_
          show Steps p.tables e below (T102.setTop (mkF m 50 #[.val (.int p1), .val (.int p2), .val (.int p3), .val (.int p4), .val (.int p5), .val (.long q6), .second, .val (.int (p1 &&& (3 : Int32))), .val (.int (1 : Int32)), .val (.int (p1 >>> ((3 : Int32) &&& 31))), .val (.ref r_90), .unset, .unset, .unset] [(.ref b93)])) _
          refine XS.astore X102.here hx rfl (hb hby at_50) rfl rfl (l' := #[.val (.int p1), .val (.int p2), .val (.int p3), .val (.int p4), .val (.int p5), .val (.long q6), .second, .val (.int (p1 &&& (3 : Int32))), .val (.int (1 : Int32)), .val (.int (p1 >>> ((3 : Int32) &&& 31))), .val (.ref r_90), .val (.ref b93), .unset, .unset]) rfl ?_
          show Steps p.tables e below (T102.setTop (mkF m 52 #[.val (.int p1), .val (.int p2), .val (.int p3), .val (.int p4), .val (.int p5), .val (.long q6), .second, .val (.int (p1 &&& (3 : Int32))), .val (.int (1 : Int32)), .val (.int (p1 >>> ((3 : Int32) &&& 31))), .val (.ref r_90), .val (.ref b93), .unset, .unset] [])) _
          refine XS.aload X102.here hx rfl (hb hby at_52) rfl rfl ?_
          show Steps p.tables e below (T102.setTop (mkF m 54 #[.val (.int p1), .val (.int p2), .val (.int p3), .val (.int p4), .val (.int p5), .val (.long q6), .second, .val (.int (p1 &&& (3 : Int32))), .val (.int (1 : Int32)), .val (.int (p1 >>> ((3 : Int32) &&& 31))), .val (.ref r_90), .val (.ref b93), .unset, .unset] [(.ref b93)])) _
          refine st104.trans ?_
          show Steps p.tables e below (T104.setTop (mkF m 57 #[.val (.int p1), .val (.int p2), .val (.int p3), .val (.int p4), .val (.int p5), .val (.long q6), .second, .val (.int (p1 &&& (3 : Int32))), .val (.int (1 : Int32)), .val (.int (p1 >>> ((3 : Int32) &&& 31))), .val (.ref r_90), .val (.ref b93), .unset, .unset] [(.int (0 : Int32))])) _
          refine XS.istore X104.here hx rfl (hb hby at_57) rfl (l' := #[.val (.int p1), .val (.int p2), .val (.int p3), .val (.int p4), .val (.int p5), .val (.long q6), .second, .val (.int (p1 &&& (3 : Int32))), .val (.int (1 : Int32)), .val (.int (p1 >>> ((3 : Int32) &&& 31))), .val (.ref r_90), .val (.ref b93), .val (.int (0 : Int32)), .unset]) rfl ?_
          show Steps p.tables e below (T104.setTop (mkF m 59 #[.val (.int p1), .val (.int p2), .val (.int p3), .val (.int p4), .val (.int p5), .val (.long q6), .second, .val (.int (p1 &&& (3 : Int32))), .val (.int (1 : Int32)), .val (.int (p1 >>> ((3 : Int32) &&& 31))), .val (.ref r_90), .val (.ref b93), .val (.int (0 : Int32)), .unset] [])) _
          refine XS.aload X104.here hx rfl (hb hby at_59) rfl rfl ?_
          show Steps p.tables e below (T104.setTop (mkF m 61 #[.val (.int p1), .val (.int p2), .val (.int p3), .val (.int p4), .val (.int p5), .val (.long q6), .second, .val (.int (p1 &&& (3 : Int32))), .val (.int (1 : Int32)), .val (.int (p1 >>> ((3 : Int32) &&& 31))), .val (.ref r_90), .val (.ref b93), .val (.int (0 : Int32)), .unset] [(.ref b93)])) _
          refine st106.trans ?_
          show Steps p.tables e below (T106.setTop (mkF m 64 #[.val (.int p1), .val (.int p2), .val (.int p3), .val (.int p4), .val (.int p5), .val (.long q6), .second, .val (.int (p1 &&& (3 : Int32))), .val (.int (1 : Int32)), .val (.int (p1 >>> ((3 : Int32) &&& 31))), .val (.ref r_90), .val (.ref b93), .val (.int (0 : Int32)), .unset] [(.int (1 : Int32))])) _
          refine XS.istore X106.here hx rfl (hb hby at_64) rfl (l' := #[.val (.int p1), .val (.int p2), .val (.int p3), .val (.int p4), .val (.int p5), .val (.long q6), .second, .val (.int (p1 &&& (3 : Int32))), .val (.int (1 : Int32)), .val (.int (p1 >>> ((3 : Int32) &&& 31))), .val (.ref r_90), .val (.ref b93), .val (.int (0 : Int32)), .val (.int (1 : Int32))]) rfl ?_
          show Steps p.tables e below (T106.setTop (mkF m 66 #[.val (.int p1), .val (.int p2), .val (.int p3), .val (.int p4), .val (.int p5), .val (.long q6), .second, .val (.int (p1 &&& (3 : Int32))), .val (.int (1 : Int32)), .val (.int (p1 >>> ((3 : Int32) &&& 31))), .val (.ref r_90), .val (.ref b93), .val (.int (0 : Int32)), .val (.int (1 : Int32))] [])) _
          refine XS.iload X106.here hx rfl (hb hby at_66) rfl ?_
          show Steps p.tables e below (T106.setTop (mkF m 68 #[.val (.int p1), .val (.int p2), .val (.int p3), .val (.int p4), .val (.int p5), .val (.long q6), .second, .val (.int (p1 &&& (3 : Int32))), .val (.int (1 : Int32)), .val (.int (p1 >>> ((3 : Int32) &&& 31))), .val (.ref r_90), .val (.ref b93), .val (.int (0 : Int32)), .val (.int (1 : Int32))] [(.int (0 : Int32))])) _
          refine XS.iload X106.here hx rfl (hb hby at_68) rfl ?_
          show Steps p.tables e below (T106.setTop (mkF m 70 #[.val (.int p1), .val (.int p2), .val (.int p3), .val (.int p4), .val (.int p5), .val (.long q6), .second, .val (.int (p1 &&& (3 : Int32))), .val (.int (1 : Int32)), .val (.int (p1 >>> ((3 : Int32) &&& 31))), .val (.ref r_90), .val (.ref b93), .val (.int (0 : Int32)), .val (.int (1 : Int32))] [(.int (p1 &&& (3 : Int32))), (.int (0 : Int32))])) _
          refine XS.ifYes X106.here hx rfl (pc0 := 70) (pc' := 77) rfl (hb hby at_70) rfl ((if0 _ _).trans (feq hc5).2) (by decide) (by decide) ?_
          show Steps p.tables e below (T106.setTop (mkF m 77 #[.val (.int p1), .val (.int p2), .val (.int p3), .val (.int p4), .val (.int p5), .val (.long q6), .second, .val (.int (p1 &&& (3 : Int32))), .val (.int (1 : Int32)), .val (.int (p1 >>> ((3 : Int32) &&& 31))), .val (.ref r_90), .val (.ref b93), .val (.int (0 : Int32)), .val (.int (1 : Int32))] [(.int (0 : Int32))])) _
          refine XS.iconst X106.here hx rfl (hb hby at_77) ?_
          show Steps p.tables e below (T106.setTop (mkF m 78 #[.val (.int p1), .val (.int p2), .val (.int p3), .val (.int p4), .val (.int p5), .val (.long q6), .second, .val (.int (p1 &&& (3 : Int32))), .val (.int (1 : Int32)), .val (.int (p1 >>> ((3 : Int32) &&& 31))), .val (.ref r_90), .val (.ref b93), .val (.int (0 : Int32)), .val (.int (1 : Int32))] [(.int (0 : Int32)), (.int (0 : Int32))])) _
          refine XS.icmpNo X106.here hx rfl (hb hby at_78) rfl (teq (by decide : (0 : Int32) = (0 : Int32))).2 ?_
          show Steps p.tables e below (T106.setTop (mkF m 81 #[.val (.int p1), .val (.int p2), .val (.int p3), .val (.int p4), .val (.int p5), .val (.long q6), .second, .val (.int (p1 &&& (3 : Int32))), .val (.int (1 : Int32)), .val (.int (p1 >>> ((3 : Int32) &&& 31))), .val (.ref r_90), .val (.ref b93), .val (.int (0 : Int32)), .val (.int (1 : Int32))] [])) _
          refine XS.iload X106.here hx rfl (hb hby at_81) rfl ?_
          show Steps p.tables e below (T106.setTop (mkF m 83 #[.val (.int p1), .val (.int p2), .val (.int p3), .val (.int p4), .val (.int p5), .val (.long q6), .second, .val (.int (p1 &&& (3 : Int32))), .val (.int (1 : Int32)), .val (.int (p1 >>> ((3 : Int32) &&& 31))), .val (.ref r_90), .val (.ref b93), .val (.int (0 : Int32)), .val (.int (1 : Int32))] [(.int (1 : Int32))])) _
          refine XS.iload X106.here hx rfl (hb hby at_83) rfl ?_
          show Steps p.tables e below (T106.setTop (mkF m 85 #[.val (.int p1), .val (.int p2), .val (.int p3), .val (.int p4), .val (.int p5), .val (.long q6), .second, .val (.int (p1 &&& (3 : Int32))), .val (.int (1 : Int32)), .val (.int (p1 >>> ((3 : Int32) &&& 31))), .val (.ref r_90), .val (.ref b93), .val (.int (0 : Int32)), .val (.int (1 : Int32))] [(.int (p1 &&& (3 : Int32))), (.int (1 : Int32))])) _
          refine XS.icmpNo X106.here hx rfl (hb hby at_85) rfl (teq (Eq.symm hc6)).2 ?_
          show Steps p.tables e below (T106.setTop (mkF m 88 #[.val (.int p1), .val (.int p2), .val (.int p3), .val (.int p4), .val (.int p5), .val (.long q6), .second, .val (.int (p1 &&& (3 : Int32))), .val (.int (1 : Int32)), .val (.int (p1 >>> ((3 : Int32) &&& 31))), .val (.ref r_90), .val (.ref b93), .val (.int (0 : Int32)), .val (.int (1 : Int32))] [])) _
          refine XS.iload X106.here hx rfl (hb hby at_88) rfl ?_
          show Steps p.tables e below (T106.setTop (mkF m 90 #[.val (.int p1), .val (.int p2), .val (.int p3), .val (.int p4), .val (.int p5), .val (.long q6), .second, .val (.int (p1 &&& (3 : Int32))), .val (.int (1 : Int32)), .val (.int (p1 >>> ((3 : Int32) &&& 31))), .val (.ref r_90), .val (.ref b93), .val (.int (0 : Int32)), .val (.int (1 : Int32))] [(.int (0 : Int32))])) _
          refine XS.iload X106.here hx rfl (hb hby at_90) rfl ?_
          show Steps p.tables e below (T106.setTop (mkF m 92 #[.val (.int p1), .val (.int p2), .val (.int p3), .val (.int p4), .val (.int p5), .val (.long q6), .second, .val (.int (p1 &&& (3 : Int32))), .val (.int (1 : Int32)), .val (.int (p1 >>> ((3 : Int32) &&& 31))), .val (.ref r_90), .val (.ref b93), .val (.int (0 : Int32)), .val (.int (1 : Int32))] [(.int (1 : Int32)), (.int (0 : Int32))])) _
          refine XS.ifYes X106.here hx rfl (pc0 := 92) (pc' := 99) rfl (hb hby at_92) rfl ((if0 _ _).trans (feq (by decide : ¬ ((1 : Int32) = (0 : Int32)))).2) (by decide) (by decide) ?_
          show Steps p.tables e below (T106.setTop (mkF m 99 #[.val (.int p1), .val (.int p2), .val (.int p3), .val (.int p4), .val (.int p5), .val (.long q6), .second, .val (.int (p1 &&& (3 : Int32))), .val (.int (1 : Int32)), .val (.int (p1 >>> ((3 : Int32) &&& 31))), .val (.ref r_90), .val (.ref b93), .val (.int (0 : Int32)), .val (.int (1 : Int32))] [(.int (0 : Int32))])) _
          refine XS.iconst X106.here hx rfl (hb hby at_99) ?_
          show Steps p.tables e below (T106.setTop (mkF m 100 #[.val (.int p1), .val (.int p2), .val (.int p3), .val (.int p4), .val (.int p5), .val (.long q6), .second, .val (.int (p1 &&& (3 : Int32))), .val (.int (1 : Int32)), .val (.int (p1 >>> ((3 : Int32) &&& 31))), .val (.ref r_90), .val (.ref b93), .val (.int (0 : Int32)), .val (.int (1 : Int32))] [(.int (0 : Int32)), (.int (0 : Int32))])) _
          refine XS.icmpNo X106.here hx rfl (hb hby at_100) rfl (teq (by decide : (0 : Int32) = (0 : Int32))).2 ?_
          show Steps p.tables e below (T106.setTop (mkF m 103 #[.val (.int p1), .val (.int p2), .val (.int p3), .val (.int p4), .val (.int p5), .val (.long q6), .second, .val (.int (p1 &&& (3 : Int32))), .val (.int (1 : Int32)), .val (.int (p1 >>> ((3 : Int32) &&& 31))), .val (.ref r_90), .val (.ref b93), .val (.int (0 : Int32)), .val (.int (1 : Int32))] [])) _
          refine XS.iconst X106.here hx rfl (hb hby at_103) ?_
          show Steps p.tables e below (T106.setTop (mkF m 104 #[.val (.int p1), .val (.int p2), .val (.int p3), .val (.int p4), .val (.int p5), .val (.long q6), .second, .val (.int (p1 &&& (3 : Int32))), .val (.int (1 : Int32)), .val (.int (p1 >>> ((3 : Int32) &&& 31))), .val (.ref r_90), .val (.ref b93), .val (.int (0 : Int32)), .val (.int (1 : Int32))] [(.int (1 : Int32))])) _
          refine XS.goto X106.here hx rfl (pc0 := 104) (pc' := 108) rfl (hb hby at_104) (by decide) (by decide) ?_
          show Steps p.tables e below (T106.setTop (mkF m 108 #[.val (.int p1), .val (.int p2), .val (.int p3), .val (.int p4), .val (.int p5), .val (.long q6), .second, .val (.int (p1 &&& (3 : Int32))), .val (.int (1 : Int32)), .val (.int (p1 >>> ((3 : Int32) &&& 31))), .val (.ref r_90), .val (.ref b93), .val (.int (0 : Int32)), .val (.int (1 : Int32))] [(.int (1 : Int32))])) _
          exact retN X106 hx (t := .boolean) Bd.returns (by simp) (hb hby at_108) hr
        · show Q_rm0 Z p1 p2 p3 p4 p5 q6 h0 n0 _ T106.heap _
          exact ⟨rfl, N106⟩
      · by_cases hc7 : (p1 &&& (3 : Int32)) = (2 : Int32)
        · obtain ⟨_, _, ⟨T107, L107, k107, n107⟩, -, X107, ⟨Lc107, hQ107, l107, y107, z107⟩, st107⟩ := Jvm.LawKit.callS X0 hx (y := (⟨"com/example/concordia/concordia/clause/ClauseIsEmptyPinLaw", "literalsOf", "(IIII)[I"⟩ : MethodName)) hown (mvT hZ (hw _ (List.mem_of_getElem? (i := 0) rfl))) (mvT hZ (hw _ (List.mem_of_getElem? (i := 1) rfl))) (mvT hZ (hw _ (List.mem_of_getElem? (i := 2) rfl))) (mvT hZ (hw _ (List.mem_of_getElem? (i := 3) rfl))) (by decide) (backOf (W := 0) (rm_lit2 l Z a0 hw [] (p1 &&& (3 : Int32)) p2 p3 p4 h0 n0 Z0 hc5 hc6 hc7) hZ (hw _ (List.mem_of_getElem? (i := 3) rfl)) (hw _ (List.mem_of_getElem? (i := 2) rfl)) (by decide) (by decide)) (g := (mkF m 28 #[.val (.int p1), .val (.int p2), .val (.int p3), .val (.int p4), .val (.int p5), .val (.long q6), .second, .val (.int (p1 &&& (3 : Int32))), .val (.int (1 : Int32)), .val (.int (p1 >>> ((3 : Int32) &&& 31))), .unset, .unset, .unset, .unset] [(.int p4), (.int p3), (.int p2), (.int (p1 &&& (3 : Int32)))])) rfl (by rw [hml]; rfl) (argsL := [(.int (p1 &&& (3 : Int32))), (.int p2), (.int p3), (.int p4)]) (rest := []) (lenOf pd__40IIII_41_91I rfl) rfl (by show 2 * 0 + _ ≤ _; exact Nat.le_of_eq rfl) (hb hby at_28) (fun _ _ => ⟨rfl, e0, (by decide : 0 + 1 ≤ _), (by decide : 0 + 2 ≤ _)⟩)
          dsimp only [Pt.U, Pt.locs, Pt.cells, Pt.slots] at X107 l107 y107 z107 st107 hQ107
          subst l107 y107 z107
          obtain ⟨r_107, k_107, rfl, Nq107, Kc107, p107_0, p107_1⟩ := hQ107
          have gzr_107 : h0.size ≤ r_107 := Nat.le_trans (Keep.refl h0 []).1 p107_0
          have gnr_107 : n0 ≤ r_107 := Nat.le_trans Z0 gzr_107
          have K109 : Keep h0 T107.heap [] := (Keep.refl h0 []).trans Kc107 all0
          have N107 := Fr.app N0 Nq107
          obtain ⟨T110, h110, X110, e110, E110, A110, D110, -, st110⟩ := newO X107 hx hZ hown (hw _ (List.mem_of_getElem? (i := 5) rfl)) (hw _ (List.mem_of_getElem? (i := 6) rfl)) (hw _ (List.mem_of_getElem? (i := 7) rfl)) rfl (g := (mkF m 33 #[.val (.int p1), .val (.int p2), .val (.int p3), .val (.int p4), .val (.int p5), .val (.long q6), .second, .val (.int (p1 &&& (3 : Int32))), .val (.int (1 : Int32)), .val (.int (p1 >>> ((3 : Int32) &&& 31))), .val (.ref r_107), .unset, .unset, .unset] [])) rfl (hb hby at_33) (by decide) (by decide)
          obtain ⟨b110, g110⟩ : ∃ z, z = T107.heap.size := ⟨_, rfl⟩
          rw [← g110] at A110 D110 st110
          have gnb110 : n0 ≤ b110 := Nat.le_trans (Nat.le_trans Z0 K109.1) (Nat.le_of_eq g110.symm)
          have gzb110 : h0.size ≤ b110 := Nat.le_trans K109.1 (Nat.le_of_eq g110.symm)
          have K111 : Keep h0 h110 [] := K109.ext E110
          have f112 : Fld Z h110 b110 "com/example/concordia/concordia/clause/Clause" "literals" "[I" .null := D110 (Or.inr (hw _ (List.mem_of_getElem? (i := 15) rfl))) (ty := (.array .int)) (by decide)
          have f113 : Fld Z h110 b110 "com/example/concordia/concordia/clause/Clause" "unit" "I" (.int (0 : Int32)) := D110 (Or.inr (hw _ (List.mem_of_getElem? (i := 17) rfl))) (ty := .int) (by decide)
          have f114 : Fld Z h110 b110 "com/example/concordia/concordia/clause/Clause" "weight" "I" (.int (0 : Int32)) := D110 (Or.inr (hw _ (List.mem_of_getElem? (i := 19) rfl))) (ty := .int) (by decide)
          have f115 : Fld Z h110 b110 "com/example/concordia/concordia/clause/Clause" "variableCount" "I" (.int (0 : Int32)) := D110 (Or.inr (hw _ (List.mem_of_getElem? (i := 21) rfl))) (ty := .int) (by decide)
          have f116 : Fld Z h110 b110 "com/example/concordia/concordia/clause/Clause" "tautology" "Z" (.int (0 : Int32)) := D110 (Or.inr (hw _ (List.mem_of_getElem? (i := 23) rfl))) (ty := .boolean) (by decide)
          have f117 : Fld Z h110 b110 "com/example/concordia/concordia/clause/Clause" "signature" "J" (.long (0 : Int64)) := D110 (Or.inr (hw _ (List.mem_of_getElem? (i := 25) rfl))) (ty := .long) (by decide)
          have f118 : Arv Z h110 r_107 k_107 .int (2 : Int32) [(.int p2), (.int p3)] (.int (0 : Int32)) := (p107_1.ext E110)
          obtain ⟨_, _, ⟨T119, L119, k119, n119⟩, -, X119, ⟨Lc119, hQ119, l119, y119, z119⟩, st119⟩ := X110.specialBack hx (y := (⟨"com/example/concordia/concordia/clause/Clause", "<init>", "([IIIZJ)V"⟩ : MethodName)) rfl hown (mvT hZ (hw _ (List.mem_of_getElem? (i := 8) rfl))) (mvT hZ (hw _ (List.mem_of_getElem? (i := 9) rfl))) (mvT hZ (hw _ (List.mem_of_getElem? (i := 10) rfl))) (by decide) (backOf (W := 1) (rm_inin l Z a0 hw [] b110 r_107 p5 (p1 >>> ((3 : Int32) &&& 31)) (1 : Int32) q6 .null (.int (0 : Int32)) (.int (0 : Int32)) (.int (0 : Int32)) (.int (0 : Int32)) (.long (0 : Int64)) k_107 (2 : Int32) [(.int p2), (.int p3)] h110 n0 (Nat.le_trans Z0 K111.1) A110 f112 f113 f114 f115 f116 f117 gnb110 f118 (by decide : ¬ ((2 : Int32) = (1 : Int32)))) hZ (hw _ (List.mem_of_getElem? (i := 10) rfl)) (hw _ (List.mem_of_getElem? (i := 7) rfl)) (by decide) (by decide)) (g := (mkF m 47 #[.val (.int p1), .val (.int p2), .val (.int p3), .val (.int p4), .val (.int p5), .val (.long q6), .second, .val (.int (p1 &&& (3 : Int32))), .val (.int (1 : Int32)), .val (.int (p1 >>> ((3 : Int32) &&& 31))), .val (.ref r_107), .unset, .unset, .unset] [(.long q6), (.int (1 : Int32)), (.int (p1 >>> ((3 : Int32) &&& 31))), (.int p5), (.ref r_107), (.ref b110), (.ref b110)])) rfl (by rw [hml]; rfl) (Steps.refl _) (a := b110) (argsL := [(.ref r_107), (.int p5), (.int (p1 >>> ((3 : Int32) &&& 31))), (.int (1 : Int32)), (.long q6)]) (rest := [(.ref b110)]) (lenOf pd__40_91IIIZJ_41V rfl) rfl (by show 2 * 0 + _ ≤ _; exact Nat.le_of_eq rfl) (hb hby at_47) (fun _ _ => ⟨rfl, e110, (by decide : 2 + 0 ≤ _), (by decide : 8 + 0 ≤ _)⟩)
          dsimp only [Pt.U, Pt.locs, Pt.cells, Pt.slots] at X119 l119 y119 z119 st119 hQ119
          subst l119 y119 z119
          obtain ⟨rfl, Nq119, Kc119, p119_0⟩ := hQ119
          have K120 : Keep h0 T119.heap [] := K111.trans Kc119 (allS (Or.inr gzb110) all0)
          have N119 := Fr.app N107 Nq119
          have f121 : Arv Z T119.heap r_107 k_107 .int (2 : Int32) [(.int p2), (.int p3)] (.int (0 : Int32)) := (f118.keep Kc119 (ninS (Nat.ne_of_lt (Nat.lt_of_lt_of_le p107_1.lt (Nat.le_of_eq g110.symm))) nin0))
          have f123 : Exa Z T119.heap b110 "com/example/concordia/concordia/clause/Clause" := (A110.keep Kc119)
          obtain ⟨cq122, kq122, q122a, q122b, q122c⟩ := isOf hZ rfl f123
          obtain ⟨_, _, ⟨T122, L122, k122, n122⟩, -, X122, ⟨Lc122, hQ122, l122, y122, z122⟩, st122⟩ := X119.virtualBack hx (y := (⟨"com/example/concordia/concordia/clause/Clause", "isEmpty", "()Z"⟩ : MethodName)) (z := (⟨"com/example/concordia/concordia/clause/Clause", "isEmpty", "()Z"⟩ : MethodName)) hown (mvT hZ (hw _ (List.mem_of_getElem? (i := 26) rfl))) (mvT hZ (hw _ (List.mem_of_getElem? (i := 27) rfl))) (notFace_of_selects (args := #[]) (mvT hZ (hw _ (List.mem_of_getElem? (i := 29) rfl)))) (mvT hZ (hw _ (List.mem_of_getElem? (i := 29) rfl))) (mvT hZ (hw _ (List.mem_of_getElem? (i := 28) rfl))) (by decide) (backOf (W := 0) (rm_emn l Z a0 hw [] b110 r_107 k_107 (2 : Int32) [(.int p2), (.int p3)] T119.heap n0 (Nat.le_trans Z0 K120.1) p119_0 f121 (by decide : ¬ ((2 : Int32) = (0 : Int32)))) hZ (hw _ (List.mem_of_getElem? (i := 30) rfl)) (hw _ (List.mem_of_getElem? (i := 7) rfl)) (by decide) (by decide)) q122a q122c (g := (mkF m 54 #[.val (.int p1), .val (.int p2), .val (.int p3), .val (.int p4), .val (.int p5), .val (.long q6), .second, .val (.int (p1 &&& (3 : Int32))), .val (.int (1 : Int32)), .val (.int (p1 >>> ((3 : Int32) &&& 31))), .val (.ref r_107), .val (.ref b110), .unset, .unset] [(.ref b110)])) rfl (by rw [hml]; rfl) (Steps.refl _) (argsL := []) (rest := []) (lenOf pd__40_41Z rfl) rfl (by show 2 * 0 + _ ≤ _; exact Nat.le_of_eq rfl) (hb hby at_54) (fun _ _ => ⟨rfl, rfl, (by decide : 2 + 0 ≤ _), (by decide : 8 + 0 ≤ _)⟩)
          dsimp only [Pt.U, Pt.locs, Pt.cells, Pt.slots] at X122 l122 y122 z122 st122 hQ122
          subst l122 y122 z122
          obtain ⟨rfl, Nq122, e122⟩ := hQ122
          have N122 := Fr.app N119 Nq122
          obtain ⟨cq124, kq124, q124a, q124b, q124c⟩ := isOf hZ e122 f123
          obtain ⟨_, _, ⟨T124, L124, k124, n124⟩, -, X124, ⟨Lc124, hQ124, l124, y124, z124⟩, st124⟩ := X122.virtualBack hx (y := (⟨"com/example/concordia/concordia/clause/Clause", "literalCount", "()I"⟩ : MethodName)) (z := (⟨"com/example/concordia/concordia/clause/Clause", "literalCount", "()I"⟩ : MethodName)) hown (mvT hZ (hw _ (List.mem_of_getElem? (i := 31) rfl))) (mvT hZ (hw _ (List.mem_of_getElem? (i := 32) rfl))) (notFace_of_selects (args := #[]) (mvT hZ (hw _ (List.mem_of_getElem? (i := 34) rfl)))) (mvT hZ (hw _ (List.mem_of_getElem? (i := 34) rfl))) (mvT hZ (hw _ (List.mem_of_getElem? (i := 33) rfl))) (by decide) (backOf (W := 0) (rm_lc l Z a0 hw [] b110 r_107 k_107 (2 : Int32) [(.int p2), (.int p3)] T119.heap n0 (Nat.le_trans Z0 K120.1) p119_0 f121) hZ (hw _ (List.mem_of_getElem? (i := 35) rfl)) (hw _ (List.mem_of_getElem? (i := 7) rfl)) (by decide) (by decide)) q124a q124c (g := (mkF m 61 #[.val (.int p1), .val (.int p2), .val (.int p3), .val (.int p4), .val (.int p5), .val (.long q6), .second, .val (.int (p1 &&& (3 : Int32))), .val (.int (1 : Int32)), .val (.int (p1 >>> ((3 : Int32) &&& 31))), .val (.ref r_107), .val (.ref b110), .val (.int (0 : Int32)), .unset] [(.ref b110)])) rfl (by rw [hml]; rfl) (Steps.refl _) (argsL := []) (rest := []) (lenOf pd__40_41I rfl) rfl (by show 2 * 0 + _ ≤ _; exact Nat.le_of_eq rfl) (hb hby at_61) (fun _ _ => ⟨rfl, e122, (by decide : 2 + 0 ≤ _), (by decide : 8 + 0 ≤ _)⟩)
          dsimp only [Pt.U, Pt.locs, Pt.cells, Pt.slots] at X124 l124 y124 z124 st124 hQ124
          subst l124 y124 z124
          obtain ⟨rfl, Nq124, e124⟩ := hQ124
          have N124 := Fr.app N122 Nq124
          obtain ⟨fs, hr, hrun, hended, hW, hsame⟩ := X124.leave (v := some (.int (1 : Int32))) (fun h => by rw [Bd.returns] at h; cases h)
          refine ⟨_, _, pre0 _ ?_, hrun, hended, _, _, rfl, ?_, ⟨_, rfl⟩, hW, hsame.mono (by decide) (by decide)⟩
          · show Steps p.tables e below (s₁.setTop (mkF m 0 #[.val (.int p1), .val (.int p2), .val (.int p3), .val (.int p4), .val (.int p5), .val (.long q6), .second, .unset, .unset, .unset, .unset, .unset, .unset, .unset] [])) _
            refine XS.iloadN X0.here hx rfl (hb hby at_0) rfl ?_
            show Steps p.tables e below (s₁.setTop (mkF m 1 #[.val (.int p1), .val (.int p2), .val (.int p3), .val (.int p4), .val (.int p5), .val (.long q6), .second, .unset, .unset, .unset, .unset, .unset, .unset, .unset] [(.int p1)])) _
            refine XS.iconst X0.here hx rfl (hb hby at_1) ?_
            show Steps p.tables e below (s₁.setTop (mkF m 2 #[.val (.int p1), .val (.int p2), .val (.int p3), .val (.int p4), .val (.int p5), .val (.long q6), .second, .unset, .unset, .unset, .unset, .unset, .unset, .unset] [(.int (3 : Int32)), (.int p1)])) _
            refine XS.iand X0.here hx rfl (hb hby at_2) rfl ?_
            show Steps p.tables e below (s₁.setTop (mkF m 3 #[.val (.int p1), .val (.int p2), .val (.int p3), .val (.int p4), .val (.int p5), .val (.long q6), .second, .unset, .unset, .unset, .unset, .unset, .unset, .unset] [(.int (p1 &&& (3 : Int32)))])) _
            refine XS.istore X0.here hx rfl (hb hby at_3) rfl (l' := #[.val (.int p1), .val (.int p2), .val (.int p3), .val (.int p4), .val (.int p5), .val (.long q6), .second, .val (.int (p1 &&& (3 : Int32))), .unset, .unset, .unset, .unset, .unset, .unset]) rfl ?_
            show Steps p.tables e below (s₁.setTop (mkF m 5 #[.val (.int p1), .val (.int p2), .val (.int p3), .val (.int p4), .val (.int p5), .val (.long q6), .second, .val (.int (p1 &&& (3 : Int32))), .unset, .unset, .unset, .unset, .unset, .unset] [])) _
            refine XS.iloadN X0.here hx rfl (hb hby at_5) rfl ?_
            show Steps p.tables e below (s₁.setTop (mkF m 6 #[.val (.int p1), .val (.int p2), .val (.int p3), .val (.int p4), .val (.int p5), .val (.long q6), .second, .val (.int (p1 &&& (3 : Int32))), .unset, .unset, .unset, .unset, .unset, .unset] [(.int p1)])) _
            refine XS.iconst X0.here hx rfl (hb hby at_6) ?_
            show Steps p.tables e below (s₁.setTop (mkF m 7 #[.val (.int p1), .val (.int p2), .val (.int p3), .val (.int p4), .val (.int p5), .val (.long q6), .second, .val (.int (p1 &&& (3 : Int32))), .unset, .unset, .unset, .unset, .unset, .unset] [(.int (4 : Int32)), (.int p1)])) _
            refine XS.iand X0.here hx rfl (hb hby at_7) rfl ?_
            show Steps p.tables e below (s₁.setTop (mkF m 8 #[.val (.int p1), .val (.int p2), .val (.int p3), .val (.int p4), .val (.int p5), .val (.long q6), .second, .val (.int (p1 &&& (3 : Int32))), .unset, .unset, .unset, .unset, .unset, .unset] [(.int (p1 &&& (4 : Int32)))])) _
            refine XS.ifNo X0.here hx rfl (hb hby at_8) rfl ((if0 _ _).trans (feq hc1).1) ?_
            show Steps p.tables e below (s₁.setTop (mkF m 11 #[.val (.int p1), .val (.int p2), .val (.int p3), .val (.int p4), .val (.int p5), .val (.long q6), .second, .val (.int (p1 &&& (3 : Int32))), .unset, .unset, .unset, .unset, .unset, .unset] [])) _
            refine XS.iconst X0.here hx rfl (hb hby at_11) ?_
            show Steps p.tables e below (s₁.setTop (mkF m 12 #[.val (.int p1), .val (.int p2), .val (.int p3), .val (.int p4), .val (.int p5), .val (.long q6), .second, .val (.int (p1 &&& (3 : Int32))), .unset, .unset, .unset, .unset, .unset, .unset] [(.int (1 : Int32))])) _
            refine XS.goto X0.here hx rfl (pc0 := 12) (pc' := 16) rfl (hb hby at_12) (by decide) (by decide) ?_
            show Steps p.tables e below (s₁.setTop (mkF m 16 #[.val (.int p1), .val (.int p2), .val (.int p3), .val (.int p4), .val (.int p5), .val (.long q6), .second, .val (.int (p1 &&& (3 : Int32))), .unset, .unset, .unset, .unset, .unset, .unset] [(.int (1 : Int32))])) _
            refine XS.istore X0.here hx rfl (hb hby at_16) rfl (l' := #[.val (.int p1), .val (.int p2), .val (.int p3), .val (.int p4), .val (.int p5), .val (.long q6), .second, .val (.int (p1 &&& (3 : Int32))), .val (.int (1 : Int32)), .unset, .unset, .unset, .unset, .unset]) rfl ?_
            show Steps p.tables e below (s₁.setTop (mkF m 18 #[.val (.int p1), .val (.int p2), .val (.int p3), .val (.int p4), .val (.int p5), .val (.long q6), .second, .val (.int (p1 &&& (3 : Int32))), .val (.int (1 : Int32)), .unset, .unset, .unset, .unset, .unset] [])) _
            refine XS.iloadN X0.here hx rfl (hb hby at_18) rfl ?_
            show Steps p.tables e below (s₁.setTop (mkF m 19 #[.val (.int p1), .val (.int p2), .val (.int p3), .val (.int p4), .val (.int p5), .val (.long q6), .second, .val (.int (p1 &&& (3 : Int32))), .val (.int (1 : Int32)), .unset, .unset, .unset, .unset, .unset] [(.int p1)])) _
            refine XS.iconst X0.here hx rfl (hb hby at_19) ?_
            show Steps p.tables e below (s₁.setTop (mkF m 20 #[.val (.int p1), .val (.int p2), .val (.int p3), .val (.int p4), .val (.int p5), .val (.long q6), .second, .val (.int (p1 &&& (3 : Int32))), .val (.int (1 : Int32)), .unset, .unset, .unset, .unset, .unset] [(.int (3 : Int32)), (.int p1)])) _
            refine XS.ishr X0.here hx rfl (hb hby at_20) rfl ?_
            show Steps p.tables e below (s₁.setTop (mkF m 21 #[.val (.int p1), .val (.int p2), .val (.int p3), .val (.int p4), .val (.int p5), .val (.long q6), .second, .val (.int (p1 &&& (3 : Int32))), .val (.int (1 : Int32)), .unset, .unset, .unset, .unset, .unset] [(.int (p1 >>> ((3 : Int32) &&& 31)))])) _
            refine XS.istore X0.here hx rfl (hb hby at_21) rfl (l' := #[.val (.int p1), .val (.int p2), .val (.int p3), .val (.int p4), .val (.int p5), .val (.long q6), .second, .val (.int (p1 &&& (3 : Int32))), .val (.int (1 : Int32)), .val (.int (p1 >>> ((3 : Int32) &&& 31))), .unset, .unset, .unset, .unset]) rfl ?_
            show Steps p.tables e below (s₁.setTop (mkF m 23 #[.val (.int p1), .val (.int p2), .val (.int p3), .val (.int p4), .val (.int p5), .val (.long q6), .second, .val (.int (p1 &&& (3 : Int32))), .val (.int (1 : Int32)), .val (.int (p1 >>> ((3 : Int32) &&& 31))), .unset, .unset, .unset, .unset] [])) _
            refine XS.iload X0.here hx rfl (hb hby at_23) rfl ?_
            show Steps p.tables e below (s₁.setTop (mkF m 25 #[.val (.int p1), .val (.int p2), .val (.int p3), .val (.int p4), .val (.int p5), .val (.long q6), .second, .val (.int (p1 &&& (3 : Int32))), .val (.int (1 : Int32)), .val (.int (p1 >>> ((3 : Int32) &&& 31))), .unset, .unset, .unset, .unset] [(.int (p1 &&& (3 : Int32)))])) _
            refine XS.iloadN X0.here hx rfl (hb hby at_25) rfl ?_
            show Steps p.tables e below (s₁.setTop (mkF m 26 #[.val (.int p1), .val (.int p2), .val (.int p3), .val (.int p4), .val (.int p5), .val (.long q6), .second, .val (.int (p1 &&& (3 : Int32))), .val (.int (1 : Int32)), .val (.int (p1 >>> ((3 : Int32) &&& 31))), .unset, .unset, .unset, .unset] [(.int p2), (.int (p1 &&& (3 : Int32)))])) _
            refine XS.iloadN X0.here hx rfl (hb hby at_26) rfl ?_
            show Steps p.tables e below (s₁.setTop (mkF m 27 #[.val (.int p1), .val (.int p2), .val (.int p3), .val (.int p4), .val (.int p5), .val (.long q6), .second, .val (.int (p1 &&& (3 : Int32))), .val (.int (1 : Int32)), .val (.int (p1 >>> ((3 : Int32) &&& 31))), .unset, .unset, .unset, .unset] [(.int p3), (.int p2), (.int (p1 &&& (3 : Int32)))])) _
            refine XS.iloadN X0.here hx rfl (hb hby at_27) rfl ?_
            show Steps p.tables e below (s₁.setTop (mkF m 28 #[.val (.int p1), .val (.int p2), .val (.int p3), .val (.int p4), .val (.int p5), .val (.long q6), .second, .val (.int (p1 &&& (3 : Int32))), .val (.int (1 : Int32)), .val (.int (p1 >>> ((3 : Int32) &&& 31))), .unset, .unset, .unset, .unset] [(.int p4), (.int p3), (.int p2), (.int (p1 &&& (3 : Int32)))])) _
            refine st107 _ ?_
            show Steps p.tables e below (T107.setTop (mkF m 31 #[.val (.int p1), .val (.int p2), .val (.int p3), .val (.int p4), .val (.int p5), .val (.long q6), .second, .val (.int (p1 &&& (3 : Int32))), .val (.int (1 : Int32)), .val (.int (p1 >>> ((3 : Int32) &&& 31))), .unset, .unset, .unset, .unset] [(.ref r_107)])) _
            refine XS.astore X107.here hx rfl (hb hby at_31) rfl rfl (l' := #[.val (.int p1), .val (.int p2), .val (.int p3), .val (.int p4), .val (.int p5), .val (.long q6), .second, .val (.int (p1 &&& (3 : Int32))), .val (.int (1 : Int32)), .val (.int (p1 >>> ((3 : Int32) &&& 31))), .val (.ref r_107), .unset, .unset, .unset]) rfl ?_
            show Steps p.tables e below (T107.setTop (mkF m 33 #[.val (.int p1), .val (.int p2), .val (.int p3), .val (.int p4), .val (.int p5), .val (.long q6), .second, .val (.int (p1 &&& (3 : Int32))), .val (.int (1 : Int32)), .val (.int (p1 >>> ((3 : Int32) &&& 31))), .val (.ref r_107), .unset, .unset, .unset] [])) _
            refine st110 _ ?_
            show Steps p.tables e below (T110.setTop (mkF m 36 #[.val (.int p1), .val (.int p2), .val (.int p3), .val (.int p4), .val (.int p5), .val (.long q6), .second, .val (.int (p1 &&& (3 : Int32))), .val (.int (1 : Int32)), .val (.int (p1 >>> ((3 : Int32) &&& 31))), .val (.ref r_107), .unset, .unset, .unset] [(.ref b110)])) _
            refine XS.dup X110.here hx rfl (hb hby at_36) rfl rfl ?_
            show Steps p.tables e below (T110.setTop (mkF m 37 #[.val (.int p1), .val (.int p2), .val (.int p3), .val (.int p4), .val (.int p5), .val (.long q6), .second, .val (.int (p1 &&& (3 : Int32))), .val (.int (1 : Int32)), .val (.int (p1 >>> ((3 : Int32) &&& 31))), .val (.ref r_107), .unset, .unset, .unset] [(.ref b110), (.ref b110)])) _
            refine XS.aload X110.here hx rfl (hb hby at_37) rfl rfl ?_
            show Steps p.tables e below (T110.setTop (mkF m 39 #[.val (.int p1), .val (.int p2), .val (.int p3), .val (.int p4), .val (.int p5), .val (.long q6), .second, .val (.int (p1 &&& (3 : Int32))), .val (.int (1 : Int32)), .val (.int (p1 >>> ((3 : Int32) &&& 31))), .val (.ref r_107), .unset, .unset, .unset] [(.ref r_107), (.ref b110), (.ref b110)])) _
            refine XS.iload X110.here hx rfl (hb hby at_39) rfl ?_
            show Steps p.tables e below (T110.setTop (mkF m 41 #[.val (.int p1), .val (.int p2), .val (.int p3), .val (.int p4), .val (.int p5), .val (.long q6), .second, .val (.int (p1 &&& (3 : Int32))), .val (.int (1 : Int32)), .val (.int (p1 >>> ((3 : Int32) &&& 31))), .val (.ref r_107), .unset, .unset, .unset] [(.int p5), (.ref r_107), (.ref b110), (.ref b110)])) _
            refine XS.iload X110.here hx rfl (hb hby at_41) rfl ?_
            show Steps p.tables e below (T110.setTop (mkF m 43 #[.val (.int p1), .val (.int p2), .val (.int p3), .val (.int p4), .val (.int p5), .val (.long q6), .second, .val (.int (p1 &&& (3 : Int32))), .val (.int (1 : Int32)), .val (.int (p1 >>> ((3 : Int32) &&& 31))), .val (.ref r_107), .unset, .unset, .unset] [(.int (p1 >>> ((3 : Int32) &&& 31))), (.int p5), (.ref r_107), (.ref b110), (.ref b110)])) _
            refine XS.iload X110.here hx rfl (hb hby at_43) rfl ?_
            show Steps p.tables e below (T110.setTop (mkF m 45 #[.val (.int p1), .val (.int p2), .val (.int p3), .val (.int p4), .val (.int p5), .val (.long q6), .second, .val (.int (p1 &&& (3 : Int32))), .val (.int (1 : Int32)), .val (.int (p1 >>> ((3 : Int32) &&& 31))), .val (.ref r_107), .unset, .unset, .unset] [(.int (1 : Int32)), (.int (p1 >>> ((3 : Int32) &&& 31))), (.int p5), (.ref r_107), (.ref b110), (.ref b110)])) _
            refine XS.lload X110.here hx rfl (hb hby at_45) rfl ?_
            show Steps p.tables e below (T110.setTop (mkF m 47 #[.val (.int p1), .val (.int p2), .val (.int p3), .val (.int p4), .val (.int p5), .val (.long q6), .second, .val (.int (p1 &&& (3 : Int32))), .val (.int (1 : Int32)), .val (.int (p1 >>> ((3 : Int32) &&& 31))), .val (.ref r_107), .unset, .unset, .unset] [(.long q6), (.int (1 : Int32)), (.int (p1 >>> ((3 : Int32) &&& 31))), (.int p5), (.ref r_107), (.ref b110), (.ref b110)])) _
            refine st119.trans ?_
            show Steps p.tables e below (T119.setTop (mkF m 50 #[.val (.int p1), .val (.int p2), .val (.int p3), .val (.int p4), .val (.int p5), .val (.long q6), .second, .val (.int (p1 &&& (3 : Int32))), .val (.int (1 : Int32)), .val (.int (p1 >>> ((3 : Int32) &&& 31))), .val (.ref r_107), .unset, .unset, .unset] [(.ref b110)])) _
            refine XS.astore X119.here hx rfl (hb hby at_50) rfl rfl (l' := #[.val (.int p1), .val (.int p2), .val (.int p3), .val (.int p4), .val (.int p5), .val (.long q6), .second, .val (.int (p1 &&& (3 : Int32))), .val (.int (1 : Int32)), .val (.int (p1 >>> ((3 : Int32) &&& 31))), .val (.ref r_107), .val (.ref b110), .unset, .unset]) rfl ?_
            show Steps p.tables e below (T119.setTop (mkF m 52 #[.val (.int p1), .val (.int p2), .val (.int p3), .val (.int p4), .val (.int p5), .val (.long q6), .second, .val (.int (p1 &&& (3 : Int32))), .val (.int (1 : Int32)), .val (.int (p1 >>> ((3 : Int32) &&& 31))), .val (.ref r_107), .val (.ref b110), .unset, .unset] [])) _
            refine XS.aload X119.here hx rfl (hb hby at_52) rfl rfl ?_
            show Steps p.tables e below (T119.setTop (mkF m 54 #[.val (.int p1), .val (.int p2), .val (.int p3), .val (.int p4), .val (.int p5), .val (.long q6), .second, .val (.int (p1 &&& (3 : Int32))), .val (.int (1 : Int32)), .val (.int (p1 >>> ((3 : Int32) &&& 31))), .val (.ref r_107), .val (.ref b110), .unset, .unset] [(.ref b110)])) _
            refine st122.trans ?_
            show Steps p.tables e below (T122.setTop (mkF m 57 #[.val (.int p1), .val (.int p2), .val (.int p3), .val (.int p4), .val (.int p5), .val (.long q6), .second, .val (.int (p1 &&& (3 : Int32))), .val (.int (1 : Int32)), .val (.int (p1 >>> ((3 : Int32) &&& 31))), .val (.ref r_107), .val (.ref b110), .unset, .unset] [(.int (0 : Int32))])) _
            refine XS.istore X122.here hx rfl (hb hby at_57) rfl (l' := #[.val (.int p1), .val (.int p2), .val (.int p3), .val (.int p4), .val (.int p5), .val (.long q6), .second, .val (.int (p1 &&& (3 : Int32))), .val (.int (1 : Int32)), .val (.int (p1 >>> ((3 : Int32) &&& 31))), .val (.ref r_107), .val (.ref b110), .val (.int (0 : Int32)), .unset]) rfl ?_
            show Steps p.tables e below (T122.setTop (mkF m 59 #[.val (.int p1), .val (.int p2), .val (.int p3), .val (.int p4), .val (.int p5), .val (.long q6), .second, .val (.int (p1 &&& (3 : Int32))), .val (.int (1 : Int32)), .val (.int (p1 >>> ((3 : Int32) &&& 31))), .val (.ref r_107), .val (.ref b110), .val (.int (0 : Int32)), .unset] [])) _
            refine XS.aload X122.here hx rfl (hb hby at_59) rfl rfl ?_
            show Steps p.tables e below (T122.setTop (mkF m 61 #[.val (.int p1), .val (.int p2), .val (.int p3), .val (.int p4), .val (.int p5), .val (.long q6), .second, .val (.int (p1 &&& (3 : Int32))), .val (.int (1 : Int32)), .val (.int (p1 >>> ((3 : Int32) &&& 31))), .val (.ref r_107), .val (.ref b110), .val (.int (0 : Int32)), .unset] [(.ref b110)])) _
            refine st124.trans ?_
            show Steps p.tables e below (T124.setTop (mkF m 64 #[.val (.int p1), .val (.int p2), .val (.int p3), .val (.int p4), .val (.int p5), .val (.long q6), .second, .val (.int (p1 &&& (3 : Int32))), .val (.int (1 : Int32)), .val (.int (p1 >>> ((3 : Int32) &&& 31))), .val (.ref r_107), .val (.ref b110), .val (.int (0 : Int32)), .unset] [(.int (2 : Int32))])) _
            refine XS.istore X124.here hx rfl (hb hby at_64) rfl (l' := #[.val (.int p1), .val (.int p2), .val (.int p3), .val (.int p4), .val (.int p5), .val (.long q6), .second, .val (.int (p1 &&& (3 : Int32))), .val (.int (1 : Int32)), .val (.int (p1 >>> ((3 : Int32) &&& 31))), .val (.ref r_107), .val (.ref b110), .val (.int (0 : Int32)), .val (.int (2 : Int32))]) rfl ?_
            show Steps p.tables e below (T124.setTop (mkF m 66 #[.val (.int p1), .val (.int p2), .val (.int p3), .val (.int p4), .val (.int p5), .val (.long q6), .second, .val (.int (p1 &&& (3 : Int32))), .val (.int (1 : Int32)), .val (.int (p1 >>> ((3 : Int32) &&& 31))), .val (.ref r_107), .val (.ref b110), .val (.int (0 : Int32)), .val (.int (2 : Int32))] [])) _
            refine XS.iload X124.here hx rfl (hb hby at_66) rfl ?_
            show Steps p.tables e below (T124.setTop (mkF m 68 #[.val (.int p1), .val (.int p2), .val (.int p3), .val (.int p4), .val (.int p5), .val (.long q6), .second, .val (.int (p1 &&& (3 : Int32))), .val (.int (1 : Int32)), .val (.int (p1 >>> ((3 : Int32) &&& 31))), .val (.ref r_107), .val (.ref b110), .val (.int (0 : Int32)), .val (.int (2 : Int32))] [(.int (0 : Int32))])) _
            refine XS.iload X124.here hx rfl (hb hby at_68) rfl ?_
            show Steps p.tables e below (T124.setTop (mkF m 70 #[.val (.int p1), .val (.int p2), .val (.int p3), .val (.int p4), .val (.int p5), .val (.long q6), .second, .val (.int (p1 &&& (3 : Int32))), .val (.int (1 : Int32)), .val (.int (p1 >>> ((3 : Int32) &&& 31))), .val (.ref r_107), .val (.ref b110), .val (.int (0 : Int32)), .val (.int (2 : Int32))] [(.int (p1 &&& (3 : Int32))), (.int (0 : Int32))])) _
            refine XS.ifYes X124.here hx rfl (pc0 := 70) (pc' := 77) rfl (hb hby at_70) rfl ((if0 _ _).trans (feq hc5).2) (by decide) (by decide) ?_
            show Steps p.tables e below (T124.setTop (mkF m 77 #[.val (.int p1), .val (.int p2), .val (.int p3), .val (.int p4), .val (.int p5), .val (.long q6), .second, .val (.int (p1 &&& (3 : Int32))), .val (.int (1 : Int32)), .val (.int (p1 >>> ((3 : Int32) &&& 31))), .val (.ref r_107), .val (.ref b110), .val (.int (0 : Int32)), .val (.int (2 : Int32))] [(.int (0 : Int32))])) _
            refine XS.iconst X124.here hx rfl (hb hby at_77) ?_
            show Steps p.tables e below (T124.setTop (mkF m 78 #[.val (.int p1), .val (.int p2), .val (.int p3), .val (.int p4), .val (.int p5), .val (.long q6), .second, .val (.int (p1 &&& (3 : Int32))), .val (.int (1 : Int32)), .val (.int (p1 >>> ((3 : Int32) &&& 31))), .val (.ref r_107), .val (.ref b110), .val (.int (0 : Int32)), .val (.int (2 : Int32))] [(.int (0 : Int32)), (.int (0 : Int32))])) _
            refine XS.icmpNo X124.here hx rfl (hb hby at_78) rfl (teq (by decide : (0 : Int32) = (0 : Int32))).2 ?_
            show Steps p.tables e below (T124.setTop (mkF m 81 #[.val (.int p1), .val (.int p2), .val (.int p3), .val (.int p4), .val (.int p5), .val (.long q6), .second, .val (.int (p1 &&& (3 : Int32))), .val (.int (1 : Int32)), .val (.int (p1 >>> ((3 : Int32) &&& 31))), .val (.ref r_107), .val (.ref b110), .val (.int (0 : Int32)), .val (.int (2 : Int32))] [])) _
            refine XS.iload X124.here hx rfl (hb hby at_81) rfl ?_
            show Steps p.tables e below (T124.setTop (mkF m 83 #[.val (.int p1), .val (.int p2), .val (.int p3), .val (.int p4), .val (.int p5), .val (.long q6), .second, .val (.int (p1 &&& (3 : Int32))), .val (.int (1 : Int32)), .val (.int (p1 >>> ((3 : Int32) &&& 31))), .val (.ref r_107), .val (.ref b110), .val (.int (0 : Int32)), .val (.int (2 : Int32))] [(.int (2 : Int32))])) _
            refine XS.iload X124.here hx rfl (hb hby at_83) rfl ?_
            show Steps p.tables e below (T124.setTop (mkF m 85 #[.val (.int p1), .val (.int p2), .val (.int p3), .val (.int p4), .val (.int p5), .val (.long q6), .second, .val (.int (p1 &&& (3 : Int32))), .val (.int (1 : Int32)), .val (.int (p1 >>> ((3 : Int32) &&& 31))), .val (.ref r_107), .val (.ref b110), .val (.int (0 : Int32)), .val (.int (2 : Int32))] [(.int (p1 &&& (3 : Int32))), (.int (2 : Int32))])) _
            refine XS.icmpNo X124.here hx rfl (hb hby at_85) rfl (teq (Eq.symm hc7)).2 ?_
            show Steps p.tables e below (T124.setTop (mkF m 88 #[.val (.int p1), .val (.int p2), .val (.int p3), .val (.int p4), .val (.int p5), .val (.long q6), .second, .val (.int (p1 &&& (3 : Int32))), .val (.int (1 : Int32)), .val (.int (p1 >>> ((3 : Int32) &&& 31))), .val (.ref r_107), .val (.ref b110), .val (.int (0 : Int32)), .val (.int (2 : Int32))] [])) _
            refine XS.iload X124.here hx rfl (hb hby at_88) rfl ?_
            show Steps p.tables e below (T124.setTop (mkF m 90 #[.val (.int p1), .val (.int p2), .val (.int p3), .val (.int p4), .val (.int p5), .val (.long q6), .second, .val (.int (p1 &&& (3 : Int32))), .val (.int (1 : Int32)), .val (.int (p1 >>> ((3 : Int32) &&& 31))), .val (.ref r_107), .val (.ref b110), .val (.int (0 : Int32)), .val (.int (2 : Int32))] [(.int (0 : Int32))])) _
            refine XS.iload X124.here hx rfl (hb hby at_90) rfl ?_
            show Steps p.tables e below (T124.setTop (mkF m 92 #[.val (.int p1), .val (.int p2), .val (.int p3), .val (.int p4), .val (.int p5), .val (.long q6), .second, .val (.int (p1 &&& (3 : Int32))), .val (.int (1 : Int32)), .val (.int (p1 >>> ((3 : Int32) &&& 31))), .val (.ref r_107), .val (.ref b110), .val (.int (0 : Int32)), .val (.int (2 : Int32))] [(.int (2 : Int32)), (.int (0 : Int32))])) _
            refine XS.ifYes X124.here hx rfl (pc0 := 92) (pc' := 99) rfl (hb hby at_92) rfl ((if0 _ _).trans (feq (by decide : ¬ ((2 : Int32) = (0 : Int32)))).2) (by decide) (by decide) ?_
            show Steps p.tables e below (T124.setTop (mkF m 99 #[.val (.int p1), .val (.int p2), .val (.int p3), .val (.int p4), .val (.int p5), .val (.long q6), .second, .val (.int (p1 &&& (3 : Int32))), .val (.int (1 : Int32)), .val (.int (p1 >>> ((3 : Int32) &&& 31))), .val (.ref r_107), .val (.ref b110), .val (.int (0 : Int32)), .val (.int (2 : Int32))] [(.int (0 : Int32))])) _
            refine XS.iconst X124.here hx rfl (hb hby at_99) ?_
            show Steps p.tables e below (T124.setTop (mkF m 100 #[.val (.int p1), .val (.int p2), .val (.int p3), .val (.int p4), .val (.int p5), .val (.long q6), .second, .val (.int (p1 &&& (3 : Int32))), .val (.int (1 : Int32)), .val (.int (p1 >>> ((3 : Int32) &&& 31))), .val (.ref r_107), .val (.ref b110), .val (.int (0 : Int32)), .val (.int (2 : Int32))] [(.int (0 : Int32)), (.int (0 : Int32))])) _
            refine XS.icmpNo X124.here hx rfl (hb hby at_100) rfl (teq (by decide : (0 : Int32) = (0 : Int32))).2 ?_
            show Steps p.tables e below (T124.setTop (mkF m 103 #[.val (.int p1), .val (.int p2), .val (.int p3), .val (.int p4), .val (.int p5), .val (.long q6), .second, .val (.int (p1 &&& (3 : Int32))), .val (.int (1 : Int32)), .val (.int (p1 >>> ((3 : Int32) &&& 31))), .val (.ref r_107), .val (.ref b110), .val (.int (0 : Int32)), .val (.int (2 : Int32))] [])) _
            refine XS.iconst X124.here hx rfl (hb hby at_103) ?_
            show Steps p.tables e below (T124.setTop (mkF m 104 #[.val (.int p1), .val (.int p2), .val (.int p3), .val (.int p4), .val (.int p5), .val (.long q6), .second, .val (.int (p1 &&& (3 : Int32))), .val (.int (1 : Int32)), .val (.int (p1 >>> ((3 : Int32) &&& 31))), .val (.ref r_107), .val (.ref b110), .val (.int (0 : Int32)), .val (.int (2 : Int32))] [(.int (1 : Int32))])) _
            refine XS.goto X124.here hx rfl (pc0 := 104) (pc' := 108) rfl (hb hby at_104) (by decide) (by decide) ?_
            show Steps p.tables e below (T124.setTop (mkF m 108 #[.val (.int p1), .val (.int p2), .val (.int p3), .val (.int p4), .val (.int p5), .val (.long q6), .second, .val (.int (p1 &&& (3 : Int32))), .val (.int (1 : Int32)), .val (.int (p1 >>> ((3 : Int32) &&& 31))), .val (.ref r_107), .val (.ref b110), .val (.int (0 : Int32)), .val (.int (2 : Int32))] [(.int (1 : Int32))])) _
            exact retN X124 hx (t := .boolean) Bd.returns (by simp) (hb hby at_108) hr
          · show Q_rm0 Z p1 p2 p3 p4 p5 q6 h0 n0 _ T124.heap _
            exact ⟨rfl, N124⟩
        · obtain ⟨_, _, ⟨T125, L125, k125, n125⟩, -, X125, ⟨Lc125, hQ125, l125, y125, z125⟩, st125⟩ := Jvm.LawKit.callS X0 hx (y := (⟨"com/example/concordia/concordia/clause/ClauseIsEmptyPinLaw", "literalsOf", "(IIII)[I"⟩ : MethodName)) hown (mvT hZ (hw _ (List.mem_of_getElem? (i := 0) rfl))) (mvT hZ (hw _ (List.mem_of_getElem? (i := 1) rfl))) (mvT hZ (hw _ (List.mem_of_getElem? (i := 2) rfl))) (mvT hZ (hw _ (List.mem_of_getElem? (i := 3) rfl))) (by decide) (backOf (W := 0) (rm_lit3 l Z a0 hw [] (p1 &&& (3 : Int32)) p2 p3 p4 h0 n0 Z0 hc5 hc6 hc7) hZ (hw _ (List.mem_of_getElem? (i := 3) rfl)) (hw _ (List.mem_of_getElem? (i := 2) rfl)) (by decide) (by decide)) (g := (mkF m 28 #[.val (.int p1), .val (.int p2), .val (.int p3), .val (.int p4), .val (.int p5), .val (.long q6), .second, .val (.int (p1 &&& (3 : Int32))), .val (.int (1 : Int32)), .val (.int (p1 >>> ((3 : Int32) &&& 31))), .unset, .unset, .unset, .unset] [(.int p4), (.int p3), (.int p2), (.int (p1 &&& (3 : Int32)))])) rfl (by rw [hml]; rfl) (argsL := [(.int (p1 &&& (3 : Int32))), (.int p2), (.int p3), (.int p4)]) (rest := []) (lenOf pd__40IIII_41_91I rfl) rfl (by show 2 * 0 + _ ≤ _; exact Nat.le_of_eq rfl) (hb hby at_28) (fun _ _ => ⟨rfl, e0, (by decide : 0 + 1 ≤ _), (by decide : 0 + 3 ≤ _)⟩)
          dsimp only [Pt.U, Pt.locs, Pt.cells, Pt.slots] at X125 l125 y125 z125 st125 hQ125
          subst l125 y125 z125
          obtain ⟨r_125, k_125, rfl, Nq125, Kc125, p125_0, p125_1⟩ := hQ125
          have gzr_125 : h0.size ≤ r_125 := Nat.le_trans (Keep.refl h0 []).1 p125_0
          have gnr_125 : n0 ≤ r_125 := Nat.le_trans Z0 gzr_125
          have K127 : Keep h0 T125.heap [] := (Keep.refl h0 []).trans Kc125 all0
          have N125 := Fr.app N0 Nq125
          obtain ⟨T128, h128, X128, e128, E128, A128, D128, -, st128⟩ := newO X125 hx hZ hown (hw _ (List.mem_of_getElem? (i := 5) rfl)) (hw _ (List.mem_of_getElem? (i := 6) rfl)) (hw _ (List.mem_of_getElem? (i := 7) rfl)) rfl (g := (mkF m 33 #[.val (.int p1), .val (.int p2), .val (.int p3), .val (.int p4), .val (.int p5), .val (.long q6), .second, .val (.int (p1 &&& (3 : Int32))), .val (.int (1 : Int32)), .val (.int (p1 >>> ((3 : Int32) &&& 31))), .val (.ref r_125), .unset, .unset, .unset] [])) rfl (hb hby at_33) (by decide) (by decide)
          obtain ⟨b128, g128⟩ : ∃ z, z = T125.heap.size := ⟨_, rfl⟩
          rw [← g128] at A128 D128 st128
          have gnb128 : n0 ≤ b128 := Nat.le_trans (Nat.le_trans Z0 K127.1) (Nat.le_of_eq g128.symm)
          have gzb128 : h0.size ≤ b128 := Nat.le_trans K127.1 (Nat.le_of_eq g128.symm)
          have K129 : Keep h0 h128 [] := K127.ext E128
          have f130 : Fld Z h128 b128 "com/example/concordia/concordia/clause/Clause" "literals" "[I" .null := D128 (Or.inr (hw _ (List.mem_of_getElem? (i := 15) rfl))) (ty := (.array .int)) (by decide)
          have f131 : Fld Z h128 b128 "com/example/concordia/concordia/clause/Clause" "unit" "I" (.int (0 : Int32)) := D128 (Or.inr (hw _ (List.mem_of_getElem? (i := 17) rfl))) (ty := .int) (by decide)
          have f132 : Fld Z h128 b128 "com/example/concordia/concordia/clause/Clause" "weight" "I" (.int (0 : Int32)) := D128 (Or.inr (hw _ (List.mem_of_getElem? (i := 19) rfl))) (ty := .int) (by decide)
          have f133 : Fld Z h128 b128 "com/example/concordia/concordia/clause/Clause" "variableCount" "I" (.int (0 : Int32)) := D128 (Or.inr (hw _ (List.mem_of_getElem? (i := 21) rfl))) (ty := .int) (by decide)
          have f134 : Fld Z h128 b128 "com/example/concordia/concordia/clause/Clause" "tautology" "Z" (.int (0 : Int32)) := D128 (Or.inr (hw _ (List.mem_of_getElem? (i := 23) rfl))) (ty := .boolean) (by decide)
          have f135 : Fld Z h128 b128 "com/example/concordia/concordia/clause/Clause" "signature" "J" (.long (0 : Int64)) := D128 (Or.inr (hw _ (List.mem_of_getElem? (i := 25) rfl))) (ty := .long) (by decide)
          have f136 : Arv Z h128 r_125 k_125 .int (3 : Int32) [(.int p2), (.int p3), (.int p4)] (.int (0 : Int32)) := (p125_1.ext E128)
          obtain ⟨_, _, ⟨T137, L137, k137, n137⟩, -, X137, ⟨Lc137, hQ137, l137, y137, z137⟩, st137⟩ := X128.specialBack hx (y := (⟨"com/example/concordia/concordia/clause/Clause", "<init>", "([IIIZJ)V"⟩ : MethodName)) rfl hown (mvT hZ (hw _ (List.mem_of_getElem? (i := 8) rfl))) (mvT hZ (hw _ (List.mem_of_getElem? (i := 9) rfl))) (mvT hZ (hw _ (List.mem_of_getElem? (i := 10) rfl))) (by decide) (backOf (W := 1) (rm_inin l Z a0 hw [] b128 r_125 p5 (p1 >>> ((3 : Int32) &&& 31)) (1 : Int32) q6 .null (.int (0 : Int32)) (.int (0 : Int32)) (.int (0 : Int32)) (.int (0 : Int32)) (.long (0 : Int64)) k_125 (3 : Int32) [(.int p2), (.int p3), (.int p4)] h128 n0 (Nat.le_trans Z0 K129.1) A128 f130 f131 f132 f133 f134 f135 gnb128 f136 (by decide : ¬ ((3 : Int32) = (1 : Int32)))) hZ (hw _ (List.mem_of_getElem? (i := 10) rfl)) (hw _ (List.mem_of_getElem? (i := 7) rfl)) (by decide) (by decide)) (g := (mkF m 47 #[.val (.int p1), .val (.int p2), .val (.int p3), .val (.int p4), .val (.int p5), .val (.long q6), .second, .val (.int (p1 &&& (3 : Int32))), .val (.int (1 : Int32)), .val (.int (p1 >>> ((3 : Int32) &&& 31))), .val (.ref r_125), .unset, .unset, .unset] [(.long q6), (.int (1 : Int32)), (.int (p1 >>> ((3 : Int32) &&& 31))), (.int p5), (.ref r_125), (.ref b128), (.ref b128)])) rfl (by rw [hml]; rfl) (Steps.refl _) (a := b128) (argsL := [(.ref r_125), (.int p5), (.int (p1 >>> ((3 : Int32) &&& 31))), (.int (1 : Int32)), (.long q6)]) (rest := [(.ref b128)]) (lenOf pd__40_91IIIZJ_41V rfl) rfl (by show 2 * 0 + _ ≤ _; exact Nat.le_of_eq rfl) (hb hby at_47) (fun _ _ => ⟨rfl, e128, (by decide : 2 + 0 ≤ _), (by decide : 9 + 0 ≤ _)⟩)
          dsimp only [Pt.U, Pt.locs, Pt.cells, Pt.slots] at X137 l137 y137 z137 st137 hQ137
          subst l137 y137 z137
          obtain ⟨rfl, Nq137, Kc137, p137_0⟩ := hQ137
          have K138 : Keep h0 T137.heap [] := K129.trans Kc137 (allS (Or.inr gzb128) all0)
          have N137 := Fr.app N125 Nq137
          have f139 : Arv Z T137.heap r_125 k_125 .int (3 : Int32) [(.int p2), (.int p3), (.int p4)] (.int (0 : Int32)) := (f136.keep Kc137 (ninS (Nat.ne_of_lt (Nat.lt_of_lt_of_le p125_1.lt (Nat.le_of_eq g128.symm))) nin0))
          have f141 : Exa Z T137.heap b128 "com/example/concordia/concordia/clause/Clause" := (A128.keep Kc137)
          obtain ⟨cq140, kq140, q140a, q140b, q140c⟩ := isOf hZ rfl f141
          obtain ⟨_, _, ⟨T140, L140, k140, n140⟩, -, X140, ⟨Lc140, hQ140, l140, y140, z140⟩, st140⟩ := X137.virtualBack hx (y := (⟨"com/example/concordia/concordia/clause/Clause", "isEmpty", "()Z"⟩ : MethodName)) (z := (⟨"com/example/concordia/concordia/clause/Clause", "isEmpty", "()Z"⟩ : MethodName)) hown (mvT hZ (hw _ (List.mem_of_getElem? (i := 26) rfl))) (mvT hZ (hw _ (List.mem_of_getElem? (i := 27) rfl))) (notFace_of_selects (args := #[]) (mvT hZ (hw _ (List.mem_of_getElem? (i := 29) rfl)))) (mvT hZ (hw _ (List.mem_of_getElem? (i := 29) rfl))) (mvT hZ (hw _ (List.mem_of_getElem? (i := 28) rfl))) (by decide) (backOf (W := 0) (rm_emn l Z a0 hw [] b128 r_125 k_125 (3 : Int32) [(.int p2), (.int p3), (.int p4)] T137.heap n0 (Nat.le_trans Z0 K138.1) p137_0 f139 (by decide : ¬ ((3 : Int32) = (0 : Int32)))) hZ (hw _ (List.mem_of_getElem? (i := 30) rfl)) (hw _ (List.mem_of_getElem? (i := 7) rfl)) (by decide) (by decide)) q140a q140c (g := (mkF m 54 #[.val (.int p1), .val (.int p2), .val (.int p3), .val (.int p4), .val (.int p5), .val (.long q6), .second, .val (.int (p1 &&& (3 : Int32))), .val (.int (1 : Int32)), .val (.int (p1 >>> ((3 : Int32) &&& 31))), .val (.ref r_125), .val (.ref b128), .unset, .unset] [(.ref b128)])) rfl (by rw [hml]; rfl) (Steps.refl _) (argsL := []) (rest := []) (lenOf pd__40_41Z rfl) rfl (by show 2 * 0 + _ ≤ _; exact Nat.le_of_eq rfl) (hb hby at_54) (fun _ _ => ⟨rfl, rfl, (by decide : 2 + 0 ≤ _), (by decide : 9 + 0 ≤ _)⟩)
          dsimp only [Pt.U, Pt.locs, Pt.cells, Pt.slots] at X140 l140 y140 z140 st140 hQ140
          subst l140 y140 z140
          obtain ⟨rfl, Nq140, e140⟩ := hQ140
          have N140 := Fr.app N137 Nq140
          obtain ⟨cq142, kq142, q142a, q142b, q142c⟩ := isOf hZ e140 f141
          obtain ⟨_, _, ⟨T142, L142, k142, n142⟩, -, X142, ⟨Lc142, hQ142, l142, y142, z142⟩, st142⟩ := X140.virtualBack hx (y := (⟨"com/example/concordia/concordia/clause/Clause", "literalCount", "()I"⟩ : MethodName)) (z := (⟨"com/example/concordia/concordia/clause/Clause", "literalCount", "()I"⟩ : MethodName)) hown (mvT hZ (hw _ (List.mem_of_getElem? (i := 31) rfl))) (mvT hZ (hw _ (List.mem_of_getElem? (i := 32) rfl))) (notFace_of_selects (args := #[]) (mvT hZ (hw _ (List.mem_of_getElem? (i := 34) rfl)))) (mvT hZ (hw _ (List.mem_of_getElem? (i := 34) rfl))) (mvT hZ (hw _ (List.mem_of_getElem? (i := 33) rfl))) (by decide) (backOf (W := 0) (rm_lc l Z a0 hw [] b128 r_125 k_125 (3 : Int32) [(.int p2), (.int p3), (.int p4)] T137.heap n0 (Nat.le_trans Z0 K138.1) p137_0 f139) hZ (hw _ (List.mem_of_getElem? (i := 35) rfl)) (hw _ (List.mem_of_getElem? (i := 7) rfl)) (by decide) (by decide)) q142a q142c (g := (mkF m 61 #[.val (.int p1), .val (.int p2), .val (.int p3), .val (.int p4), .val (.int p5), .val (.long q6), .second, .val (.int (p1 &&& (3 : Int32))), .val (.int (1 : Int32)), .val (.int (p1 >>> ((3 : Int32) &&& 31))), .val (.ref r_125), .val (.ref b128), .val (.int (0 : Int32)), .unset] [(.ref b128)])) rfl (by rw [hml]; rfl) (Steps.refl _) (argsL := []) (rest := []) (lenOf pd__40_41I rfl) rfl (by show 2 * 0 + _ ≤ _; exact Nat.le_of_eq rfl) (hb hby at_61) (fun _ _ => ⟨rfl, e140, (by decide : 2 + 0 ≤ _), (by decide : 9 + 0 ≤ _)⟩)
          dsimp only [Pt.U, Pt.locs, Pt.cells, Pt.slots] at X142 l142 y142 z142 st142 hQ142
          subst l142 y142 z142
          obtain ⟨rfl, Nq142, e142⟩ := hQ142
          have N142 := Fr.app N140 Nq142
          obtain ⟨fs, hr, hrun, hended, hW, hsame⟩ := X142.leave (v := some (.int (1 : Int32))) (fun h => by rw [Bd.returns] at h; cases h)
          refine ⟨_, _, pre0 _ ?_, hrun, hended, _, _, rfl, ?_, ⟨_, rfl⟩, hW, hsame.mono (by decide) (by decide)⟩
          · show Steps p.tables e below (s₁.setTop (mkF m 0 #[.val (.int p1), .val (.int p2), .val (.int p3), .val (.int p4), .val (.int p5), .val (.long q6), .second, .unset, .unset, .unset, .unset, .unset, .unset, .unset] [])) _
            refine XS.iloadN X0.here hx rfl (hb hby at_0) rfl ?_
            show Steps p.tables e below (s₁.setTop (mkF m 1 #[.val (.int p1), .val (.int p2), .val (.int p3), .val (.int p4), .val (.int p5), .val (.long q6), .second, .unset, .unset, .unset, .unset, .unset, .unset, .unset] [(.int p1)])) _
            refine XS.iconst X0.here hx rfl (hb hby at_1) ?_
            show Steps p.tables e below (s₁.setTop (mkF m 2 #[.val (.int p1), .val (.int p2), .val (.int p3), .val (.int p4), .val (.int p5), .val (.long q6), .second, .unset, .unset, .unset, .unset, .unset, .unset, .unset] [(.int (3 : Int32)), (.int p1)])) _
            refine XS.iand X0.here hx rfl (hb hby at_2) rfl ?_
            show Steps p.tables e below (s₁.setTop (mkF m 3 #[.val (.int p1), .val (.int p2), .val (.int p3), .val (.int p4), .val (.int p5), .val (.long q6), .second, .unset, .unset, .unset, .unset, .unset, .unset, .unset] [(.int (p1 &&& (3 : Int32)))])) _
            refine XS.istore X0.here hx rfl (hb hby at_3) rfl (l' := #[.val (.int p1), .val (.int p2), .val (.int p3), .val (.int p4), .val (.int p5), .val (.long q6), .second, .val (.int (p1 &&& (3 : Int32))), .unset, .unset, .unset, .unset, .unset, .unset]) rfl ?_
            show Steps p.tables e below (s₁.setTop (mkF m 5 #[.val (.int p1), .val (.int p2), .val (.int p3), .val (.int p4), .val (.int p5), .val (.long q6), .second, .val (.int (p1 &&& (3 : Int32))), .unset, .unset, .unset, .unset, .unset, .unset] [])) _
            refine XS.iloadN X0.here hx rfl (hb hby at_5) rfl ?_
            show Steps p.tables e below (s₁.setTop (mkF m 6 #[.val (.int p1), .val (.int p2), .val (.int p3), .val (.int p4), .val (.int p5), .val (.long q6), .second, .val (.int (p1 &&& (3 : Int32))), .unset, .unset, .unset, .unset, .unset, .unset] [(.int p1)])) _
            refine XS.iconst X0.here hx rfl (hb hby at_6) ?_
            show Steps p.tables e below (s₁.setTop (mkF m 7 #[.val (.int p1), .val (.int p2), .val (.int p3), .val (.int p4), .val (.int p5), .val (.long q6), .second, .val (.int (p1 &&& (3 : Int32))), .unset, .unset, .unset, .unset, .unset, .unset] [(.int (4 : Int32)), (.int p1)])) _
            refine XS.iand X0.here hx rfl (hb hby at_7) rfl ?_
            show Steps p.tables e below (s₁.setTop (mkF m 8 #[.val (.int p1), .val (.int p2), .val (.int p3), .val (.int p4), .val (.int p5), .val (.long q6), .second, .val (.int (p1 &&& (3 : Int32))), .unset, .unset, .unset, .unset, .unset, .unset] [(.int (p1 &&& (4 : Int32)))])) _
            refine XS.ifNo X0.here hx rfl (hb hby at_8) rfl ((if0 _ _).trans (feq hc1).1) ?_
            show Steps p.tables e below (s₁.setTop (mkF m 11 #[.val (.int p1), .val (.int p2), .val (.int p3), .val (.int p4), .val (.int p5), .val (.long q6), .second, .val (.int (p1 &&& (3 : Int32))), .unset, .unset, .unset, .unset, .unset, .unset] [])) _
            refine XS.iconst X0.here hx rfl (hb hby at_11) ?_
            show Steps p.tables e below (s₁.setTop (mkF m 12 #[.val (.int p1), .val (.int p2), .val (.int p3), .val (.int p4), .val (.int p5), .val (.long q6), .second, .val (.int (p1 &&& (3 : Int32))), .unset, .unset, .unset, .unset, .unset, .unset] [(.int (1 : Int32))])) _
            refine XS.goto X0.here hx rfl (pc0 := 12) (pc' := 16) rfl (hb hby at_12) (by decide) (by decide) ?_
            show Steps p.tables e below (s₁.setTop (mkF m 16 #[.val (.int p1), .val (.int p2), .val (.int p3), .val (.int p4), .val (.int p5), .val (.long q6), .second, .val (.int (p1 &&& (3 : Int32))), .unset, .unset, .unset, .unset, .unset, .unset] [(.int (1 : Int32))])) _
            refine XS.istore X0.here hx rfl (hb hby at_16) rfl (l' := #[.val (.int p1), .val (.int p2), .val (.int p3), .val (.int p4), .val (.int p5), .val (.long q6), .second, .val (.int (p1 &&& (3 : Int32))), .val (.int (1 : Int32)), .unset, .unset, .unset, .unset, .unset]) rfl ?_
            show Steps p.tables e below (s₁.setTop (mkF m 18 #[.val (.int p1), .val (.int p2), .val (.int p3), .val (.int p4), .val (.int p5), .val (.long q6), .second, .val (.int (p1 &&& (3 : Int32))), .val (.int (1 : Int32)), .unset, .unset, .unset, .unset, .unset] [])) _
            refine XS.iloadN X0.here hx rfl (hb hby at_18) rfl ?_
            show Steps p.tables e below (s₁.setTop (mkF m 19 #[.val (.int p1), .val (.int p2), .val (.int p3), .val (.int p4), .val (.int p5), .val (.long q6), .second, .val (.int (p1 &&& (3 : Int32))), .val (.int (1 : Int32)), .unset, .unset, .unset, .unset, .unset] [(.int p1)])) _
            refine XS.iconst X0.here hx rfl (hb hby at_19) ?_
            show Steps p.tables e below (s₁.setTop (mkF m 20 #[.val (.int p1), .val (.int p2), .val (.int p3), .val (.int p4), .val (.int p5), .val (.long q6), .second, .val (.int (p1 &&& (3 : Int32))), .val (.int (1 : Int32)), .unset, .unset, .unset, .unset, .unset] [(.int (3 : Int32)), (.int p1)])) _
            refine XS.ishr X0.here hx rfl (hb hby at_20) rfl ?_
            show Steps p.tables e below (s₁.setTop (mkF m 21 #[.val (.int p1), .val (.int p2), .val (.int p3), .val (.int p4), .val (.int p5), .val (.long q6), .second, .val (.int (p1 &&& (3 : Int32))), .val (.int (1 : Int32)), .unset, .unset, .unset, .unset, .unset] [(.int (p1 >>> ((3 : Int32) &&& 31)))])) _
            refine XS.istore X0.here hx rfl (hb hby at_21) rfl (l' := #[.val (.int p1), .val (.int p2), .val (.int p3), .val (.int p4), .val (.int p5), .val (.long q6), .second, .val (.int (p1 &&& (3 : Int32))), .val (.int (1 : Int32)), .val (.int (p1 >>> ((3 : Int32) &&& 31))), .unset, .unset, .unset, .unset]) rfl ?_
            show Steps p.tables e below (s₁.setTop (mkF m 23 #[.val (.int p1), .val (.int p2), .val (.int p3), .val (.int p4), .val (.int p5), .val (.long q6), .second, .val (.int (p1 &&& (3 : Int32))), .val (.int (1 : Int32)), .val (.int (p1 >>> ((3 : Int32) &&& 31))), .unset, .unset, .unset, .unset] [])) _
            refine XS.iload X0.here hx rfl (hb hby at_23) rfl ?_
            show Steps p.tables e below (s₁.setTop (mkF m 25 #[.val (.int p1), .val (.int p2), .val (.int p3), .val (.int p4), .val (.int p5), .val (.long q6), .second, .val (.int (p1 &&& (3 : Int32))), .val (.int (1 : Int32)), .val (.int (p1 >>> ((3 : Int32) &&& 31))), .unset, .unset, .unset, .unset] [(.int (p1 &&& (3 : Int32)))])) _
            refine XS.iloadN X0.here hx rfl (hb hby at_25) rfl ?_
            show Steps p.tables e below (s₁.setTop (mkF m 26 #[.val (.int p1), .val (.int p2), .val (.int p3), .val (.int p4), .val (.int p5), .val (.long q6), .second, .val (.int (p1 &&& (3 : Int32))), .val (.int (1 : Int32)), .val (.int (p1 >>> ((3 : Int32) &&& 31))), .unset, .unset, .unset, .unset] [(.int p2), (.int (p1 &&& (3 : Int32)))])) _
            refine XS.iloadN X0.here hx rfl (hb hby at_26) rfl ?_
            show Steps p.tables e below (s₁.setTop (mkF m 27 #[.val (.int p1), .val (.int p2), .val (.int p3), .val (.int p4), .val (.int p5), .val (.long q6), .second, .val (.int (p1 &&& (3 : Int32))), .val (.int (1 : Int32)), .val (.int (p1 >>> ((3 : Int32) &&& 31))), .unset, .unset, .unset, .unset] [(.int p3), (.int p2), (.int (p1 &&& (3 : Int32)))])) _
            refine XS.iloadN X0.here hx rfl (hb hby at_27) rfl ?_
            show Steps p.tables e below (s₁.setTop (mkF m 28 #[.val (.int p1), .val (.int p2), .val (.int p3), .val (.int p4), .val (.int p5), .val (.long q6), .second, .val (.int (p1 &&& (3 : Int32))), .val (.int (1 : Int32)), .val (.int (p1 >>> ((3 : Int32) &&& 31))), .unset, .unset, .unset, .unset] [(.int p4), (.int p3), (.int p2), (.int (p1 &&& (3 : Int32)))])) _
            refine st125 _ ?_
            show Steps p.tables e below (T125.setTop (mkF m 31 #[.val (.int p1), .val (.int p2), .val (.int p3), .val (.int p4), .val (.int p5), .val (.long q6), .second, .val (.int (p1 &&& (3 : Int32))), .val (.int (1 : Int32)), .val (.int (p1 >>> ((3 : Int32) &&& 31))), .unset, .unset, .unset, .unset] [(.ref r_125)])) _
            refine XS.astore X125.here hx rfl (hb hby at_31) rfl rfl (l' := #[.val (.int p1), .val (.int p2), .val (.int p3), .val (.int p4), .val (.int p5), .val (.long q6), .second, .val (.int (p1 &&& (3 : Int32))), .val (.int (1 : Int32)), .val (.int (p1 >>> ((3 : Int32) &&& 31))), .val (.ref r_125), .unset, .unset, .unset]) rfl ?_
            show Steps p.tables e below (T125.setTop (mkF m 33 #[.val (.int p1), .val (.int p2), .val (.int p3), .val (.int p4), .val (.int p5), .val (.long q6), .second, .val (.int (p1 &&& (3 : Int32))), .val (.int (1 : Int32)), .val (.int (p1 >>> ((3 : Int32) &&& 31))), .val (.ref r_125), .unset, .unset, .unset] [])) _
            refine st128 _ ?_
            show Steps p.tables e below (T128.setTop (mkF m 36 #[.val (.int p1), .val (.int p2), .val (.int p3), .val (.int p4), .val (.int p5), .val (.long q6), .second, .val (.int (p1 &&& (3 : Int32))), .val (.int (1 : Int32)), .val (.int (p1 >>> ((3 : Int32) &&& 31))), .val (.ref r_125), .unset, .unset, .unset] [(.ref b128)])) _
            refine XS.dup X128.here hx rfl (hb hby at_36) rfl rfl ?_
            show Steps p.tables e below (T128.setTop (mkF m 37 #[.val (.int p1), .val (.int p2), .val (.int p3), .val (.int p4), .val (.int p5), .val (.long q6), .second, .val (.int (p1 &&& (3 : Int32))), .val (.int (1 : Int32)), .val (.int (p1 >>> ((3 : Int32) &&& 31))), .val (.ref r_125), .unset, .unset, .unset] [(.ref b128), (.ref b128)])) _
            refine XS.aload X128.here hx rfl (hb hby at_37) rfl rfl ?_
            show Steps p.tables e below (T128.setTop (mkF m 39 #[.val (.int p1), .val (.int p2), .val (.int p3), .val (.int p4), .val (.int p5), .val (.long q6), .second, .val (.int (p1 &&& (3 : Int32))), .val (.int (1 : Int32)), .val (.int (p1 >>> ((3 : Int32) &&& 31))), .val (.ref r_125), .unset, .unset, .unset] [(.ref r_125), (.ref b128), (.ref b128)])) _
            refine XS.iload X128.here hx rfl (hb hby at_39) rfl ?_
            show Steps p.tables e below (T128.setTop (mkF m 41 #[.val (.int p1), .val (.int p2), .val (.int p3), .val (.int p4), .val (.int p5), .val (.long q6), .second, .val (.int (p1 &&& (3 : Int32))), .val (.int (1 : Int32)), .val (.int (p1 >>> ((3 : Int32) &&& 31))), .val (.ref r_125), .unset, .unset, .unset] [(.int p5), (.ref r_125), (.ref b128), (.ref b128)])) _
            refine XS.iload X128.here hx rfl (hb hby at_41) rfl ?_
            show Steps p.tables e below (T128.setTop (mkF m 43 #[.val (.int p1), .val (.int p2), .val (.int p3), .val (.int p4), .val (.int p5), .val (.long q6), .second, .val (.int (p1 &&& (3 : Int32))), .val (.int (1 : Int32)), .val (.int (p1 >>> ((3 : Int32) &&& 31))), .val (.ref r_125), .unset, .unset, .unset] [(.int (p1 >>> ((3 : Int32) &&& 31))), (.int p5), (.ref r_125), (.ref b128), (.ref b128)])) _
            refine XS.iload X128.here hx rfl (hb hby at_43) rfl ?_
            show Steps p.tables e below (T128.setTop (mkF m 45 #[.val (.int p1), .val (.int p2), .val (.int p3), .val (.int p4), .val (.int p5), .val (.long q6), .second, .val (.int (p1 &&& (3 : Int32))), .val (.int (1 : Int32)), .val (.int (p1 >>> ((3 : Int32) &&& 31))), .val (.ref r_125), .unset, .unset, .unset] [(.int (1 : Int32)), (.int (p1 >>> ((3 : Int32) &&& 31))), (.int p5), (.ref r_125), (.ref b128), (.ref b128)])) _
            refine XS.lload X128.here hx rfl (hb hby at_45) rfl ?_
            show Steps p.tables e below (T128.setTop (mkF m 47 #[.val (.int p1), .val (.int p2), .val (.int p3), .val (.int p4), .val (.int p5), .val (.long q6), .second, .val (.int (p1 &&& (3 : Int32))), .val (.int (1 : Int32)), .val (.int (p1 >>> ((3 : Int32) &&& 31))), .val (.ref r_125), .unset, .unset, .unset] [(.long q6), (.int (1 : Int32)), (.int (p1 >>> ((3 : Int32) &&& 31))), (.int p5), (.ref r_125), (.ref b128), (.ref b128)])) _
            refine st137.trans ?_
            show Steps p.tables e below (T137.setTop (mkF m 50 #[.val (.int p1), .val (.int p2), .val (.int p3), .val (.int p4), .val (.int p5), .val (.long q6), .second, .val (.int (p1 &&& (3 : Int32))), .val (.int (1 : Int32)), .val (.int (p1 >>> ((3 : Int32) &&& 31))), .val (.ref r_125), .unset, .unset, .unset] [(.ref b128)])) _
            refine XS.astore X137.here hx rfl (hb hby at_50) rfl rfl (l' := #[.val (.int p1), .val (.int p2), .val (.int p3), .val (.int p4), .val (.int p5), .val (.long q6), .second, .val (.int (p1 &&& (3 : Int32))), .val (.int (1 : Int32)), .val (.int (p1 >>> ((3 : Int32) &&& 31))), .val (.ref r_125), .val (.ref b128), .unset, .unset]) rfl ?_
            show Steps p.tables e below (T137.setTop (mkF m 52 #[.val (.int p1), .val (.int p2), .val (.int p3), .val (.int p4), .val (.int p5), .val (.long q6), .second, .val (.int (p1 &&& (3 : Int32))), .val (.int (1 : Int32)), .val (.int (p1 >>> ((3 : Int32) &&& 31))), .val (.ref r_125), .val (.ref b128), .unset, .unset] [])) _
            refine XS.aload X137.here hx rfl (hb hby at_52) rfl rfl ?_
            show Steps p.tables e below (T137.setTop (mkF m 54 #[.val (.int p1), .val (.int p2), .val (.int p3), .val (.int p4), .val (.int p5), .val (.long q6), .second, .val (.int (p1 &&& (3 : Int32))), .val (.int (1 : Int32)), .val (.int (p1 >>> ((3 : Int32) &&& 31))), .val (.ref r_125), .val (.ref b128), .unset, .unset] [(.ref b128)])) _
            refine st140.trans ?_
            show Steps p.tables e below (T140.setTop (mkF m 57 #[.val (.int p1), .val (.int p2), .val (.int p3), .val (.int p4), .val (.int p5), .val (.long q6), .second, .val (.int (p1 &&& (3 : Int32))), .val (.int (1 : Int32)), .val (.int (p1 >>> ((3 : Int32) &&& 31))), .val (.ref r_125), .val (.ref b128), .unset, .unset] [(.int (0 : Int32))])) _
            refine XS.istore X140.here hx rfl (hb hby at_57) rfl (l' := #[.val (.int p1), .val (.int p2), .val (.int p3), .val (.int p4), .val (.int p5), .val (.long q6), .second, .val (.int (p1 &&& (3 : Int32))), .val (.int (1 : Int32)), .val (.int (p1 >>> ((3 : Int32) &&& 31))), .val (.ref r_125), .val (.ref b128), .val (.int (0 : Int32)), .unset]) rfl ?_
            show Steps p.tables e below (T140.setTop (mkF m 59 #[.val (.int p1), .val (.int p2), .val (.int p3), .val (.int p4), .val (.int p5), .val (.long q6), .second, .val (.int (p1 &&& (3 : Int32))), .val (.int (1 : Int32)), .val (.int (p1 >>> ((3 : Int32) &&& 31))), .val (.ref r_125), .val (.ref b128), .val (.int (0 : Int32)), .unset] [])) _
            refine XS.aload X140.here hx rfl (hb hby at_59) rfl rfl ?_
            show Steps p.tables e below (T140.setTop (mkF m 61 #[.val (.int p1), .val (.int p2), .val (.int p3), .val (.int p4), .val (.int p5), .val (.long q6), .second, .val (.int (p1 &&& (3 : Int32))), .val (.int (1 : Int32)), .val (.int (p1 >>> ((3 : Int32) &&& 31))), .val (.ref r_125), .val (.ref b128), .val (.int (0 : Int32)), .unset] [(.ref b128)])) _
            refine st142.trans ?_
            show Steps p.tables e below (T142.setTop (mkF m 64 #[.val (.int p1), .val (.int p2), .val (.int p3), .val (.int p4), .val (.int p5), .val (.long q6), .second, .val (.int (p1 &&& (3 : Int32))), .val (.int (1 : Int32)), .val (.int (p1 >>> ((3 : Int32) &&& 31))), .val (.ref r_125), .val (.ref b128), .val (.int (0 : Int32)), .unset] [(.int (3 : Int32))])) _
            refine XS.istore X142.here hx rfl (hb hby at_64) rfl (l' := #[.val (.int p1), .val (.int p2), .val (.int p3), .val (.int p4), .val (.int p5), .val (.long q6), .second, .val (.int (p1 &&& (3 : Int32))), .val (.int (1 : Int32)), .val (.int (p1 >>> ((3 : Int32) &&& 31))), .val (.ref r_125), .val (.ref b128), .val (.int (0 : Int32)), .val (.int (3 : Int32))]) rfl ?_
            show Steps p.tables e below (T142.setTop (mkF m 66 #[.val (.int p1), .val (.int p2), .val (.int p3), .val (.int p4), .val (.int p5), .val (.long q6), .second, .val (.int (p1 &&& (3 : Int32))), .val (.int (1 : Int32)), .val (.int (p1 >>> ((3 : Int32) &&& 31))), .val (.ref r_125), .val (.ref b128), .val (.int (0 : Int32)), .val (.int (3 : Int32))] [])) _
            refine XS.iload X142.here hx rfl (hb hby at_66) rfl ?_
            show Steps p.tables e below (T142.setTop (mkF m 68 #[.val (.int p1), .val (.int p2), .val (.int p3), .val (.int p4), .val (.int p5), .val (.long q6), .second, .val (.int (p1 &&& (3 : Int32))), .val (.int (1 : Int32)), .val (.int (p1 >>> ((3 : Int32) &&& 31))), .val (.ref r_125), .val (.ref b128), .val (.int (0 : Int32)), .val (.int (3 : Int32))] [(.int (0 : Int32))])) _
            refine XS.iload X142.here hx rfl (hb hby at_68) rfl ?_
            show Steps p.tables e below (T142.setTop (mkF m 70 #[.val (.int p1), .val (.int p2), .val (.int p3), .val (.int p4), .val (.int p5), .val (.long q6), .second, .val (.int (p1 &&& (3 : Int32))), .val (.int (1 : Int32)), .val (.int (p1 >>> ((3 : Int32) &&& 31))), .val (.ref r_125), .val (.ref b128), .val (.int (0 : Int32)), .val (.int (3 : Int32))] [(.int (p1 &&& (3 : Int32))), (.int (0 : Int32))])) _
            refine XS.ifYes X142.here hx rfl (pc0 := 70) (pc' := 77) rfl (hb hby at_70) rfl ((if0 _ _).trans (feq hc5).2) (by decide) (by decide) ?_
            show Steps p.tables e below (T142.setTop (mkF m 77 #[.val (.int p1), .val (.int p2), .val (.int p3), .val (.int p4), .val (.int p5), .val (.long q6), .second, .val (.int (p1 &&& (3 : Int32))), .val (.int (1 : Int32)), .val (.int (p1 >>> ((3 : Int32) &&& 31))), .val (.ref r_125), .val (.ref b128), .val (.int (0 : Int32)), .val (.int (3 : Int32))] [(.int (0 : Int32))])) _
            refine XS.iconst X142.here hx rfl (hb hby at_77) ?_
            show Steps p.tables e below (T142.setTop (mkF m 78 #[.val (.int p1), .val (.int p2), .val (.int p3), .val (.int p4), .val (.int p5), .val (.long q6), .second, .val (.int (p1 &&& (3 : Int32))), .val (.int (1 : Int32)), .val (.int (p1 >>> ((3 : Int32) &&& 31))), .val (.ref r_125), .val (.ref b128), .val (.int (0 : Int32)), .val (.int (3 : Int32))] [(.int (0 : Int32)), (.int (0 : Int32))])) _
            refine XS.icmpNo X142.here hx rfl (hb hby at_78) rfl (teq (by decide : (0 : Int32) = (0 : Int32))).2 ?_
            show Steps p.tables e below (T142.setTop (mkF m 81 #[.val (.int p1), .val (.int p2), .val (.int p3), .val (.int p4), .val (.int p5), .val (.long q6), .second, .val (.int (p1 &&& (3 : Int32))), .val (.int (1 : Int32)), .val (.int (p1 >>> ((3 : Int32) &&& 31))), .val (.ref r_125), .val (.ref b128), .val (.int (0 : Int32)), .val (.int (3 : Int32))] [])) _
            refine XS.iload X142.here hx rfl (hb hby at_81) rfl ?_
            show Steps p.tables e below (T142.setTop (mkF m 83 #[.val (.int p1), .val (.int p2), .val (.int p3), .val (.int p4), .val (.int p5), .val (.long q6), .second, .val (.int (p1 &&& (3 : Int32))), .val (.int (1 : Int32)), .val (.int (p1 >>> ((3 : Int32) &&& 31))), .val (.ref r_125), .val (.ref b128), .val (.int (0 : Int32)), .val (.int (3 : Int32))] [(.int (3 : Int32))])) _
            refine XS.iload X142.here hx rfl (hb hby at_83) rfl ?_
            show Steps p.tables e below (T142.setTop (mkF m 85 #[.val (.int p1), .val (.int p2), .val (.int p3), .val (.int p4), .val (.int p5), .val (.long q6), .second, .val (.int (p1 &&& (3 : Int32))), .val (.int (1 : Int32)), .val (.int (p1 >>> ((3 : Int32) &&& 31))), .val (.ref r_125), .val (.ref b128), .val (.int (0 : Int32)), .val (.int (3 : Int32))] [(.int (p1 &&& (3 : Int32))), (.int (3 : Int32))])) _
            refine XS.icmpNo X142.here hx rfl (hb hby at_85) rfl (teq (own_3 hc5 hc6 hc7)).2 ?_
            show Steps p.tables e below (T142.setTop (mkF m 88 #[.val (.int p1), .val (.int p2), .val (.int p3), .val (.int p4), .val (.int p5), .val (.long q6), .second, .val (.int (p1 &&& (3 : Int32))), .val (.int (1 : Int32)), .val (.int (p1 >>> ((3 : Int32) &&& 31))), .val (.ref r_125), .val (.ref b128), .val (.int (0 : Int32)), .val (.int (3 : Int32))] [])) _
            refine XS.iload X142.here hx rfl (hb hby at_88) rfl ?_
            show Steps p.tables e below (T142.setTop (mkF m 90 #[.val (.int p1), .val (.int p2), .val (.int p3), .val (.int p4), .val (.int p5), .val (.long q6), .second, .val (.int (p1 &&& (3 : Int32))), .val (.int (1 : Int32)), .val (.int (p1 >>> ((3 : Int32) &&& 31))), .val (.ref r_125), .val (.ref b128), .val (.int (0 : Int32)), .val (.int (3 : Int32))] [(.int (0 : Int32))])) _
            refine XS.iload X142.here hx rfl (hb hby at_90) rfl ?_
            show Steps p.tables e below (T142.setTop (mkF m 92 #[.val (.int p1), .val (.int p2), .val (.int p3), .val (.int p4), .val (.int p5), .val (.long q6), .second, .val (.int (p1 &&& (3 : Int32))), .val (.int (1 : Int32)), .val (.int (p1 >>> ((3 : Int32) &&& 31))), .val (.ref r_125), .val (.ref b128), .val (.int (0 : Int32)), .val (.int (3 : Int32))] [(.int (3 : Int32)), (.int (0 : Int32))])) _
            refine XS.ifYes X142.here hx rfl (pc0 := 92) (pc' := 99) rfl (hb hby at_92) rfl ((if0 _ _).trans (feq (by decide : ¬ ((3 : Int32) = (0 : Int32)))).2) (by decide) (by decide) ?_
            show Steps p.tables e below (T142.setTop (mkF m 99 #[.val (.int p1), .val (.int p2), .val (.int p3), .val (.int p4), .val (.int p5), .val (.long q6), .second, .val (.int (p1 &&& (3 : Int32))), .val (.int (1 : Int32)), .val (.int (p1 >>> ((3 : Int32) &&& 31))), .val (.ref r_125), .val (.ref b128), .val (.int (0 : Int32)), .val (.int (3 : Int32))] [(.int (0 : Int32))])) _
            refine XS.iconst X142.here hx rfl (hb hby at_99) ?_
            show Steps p.tables e below (T142.setTop (mkF m 100 #[.val (.int p1), .val (.int p2), .val (.int p3), .val (.int p4), .val (.int p5), .val (.long q6), .second, .val (.int (p1 &&& (3 : Int32))), .val (.int (1 : Int32)), .val (.int (p1 >>> ((3 : Int32) &&& 31))), .val (.ref r_125), .val (.ref b128), .val (.int (0 : Int32)), .val (.int (3 : Int32))] [(.int (0 : Int32)), (.int (0 : Int32))])) _
            refine XS.icmpNo X142.here hx rfl (hb hby at_100) rfl (teq (by decide : (0 : Int32) = (0 : Int32))).2 ?_
            show Steps p.tables e below (T142.setTop (mkF m 103 #[.val (.int p1), .val (.int p2), .val (.int p3), .val (.int p4), .val (.int p5), .val (.long q6), .second, .val (.int (p1 &&& (3 : Int32))), .val (.int (1 : Int32)), .val (.int (p1 >>> ((3 : Int32) &&& 31))), .val (.ref r_125), .val (.ref b128), .val (.int (0 : Int32)), .val (.int (3 : Int32))] [])) _
            refine XS.iconst X142.here hx rfl (hb hby at_103) ?_
            show Steps p.tables e below (T142.setTop (mkF m 104 #[.val (.int p1), .val (.int p2), .val (.int p3), .val (.int p4), .val (.int p5), .val (.long q6), .second, .val (.int (p1 &&& (3 : Int32))), .val (.int (1 : Int32)), .val (.int (p1 >>> ((3 : Int32) &&& 31))), .val (.ref r_125), .val (.ref b128), .val (.int (0 : Int32)), .val (.int (3 : Int32))] [(.int (1 : Int32))])) _
            refine XS.goto X142.here hx rfl (pc0 := 104) (pc' := 108) rfl (hb hby at_104) (by decide) (by decide) ?_
            show Steps p.tables e below (T142.setTop (mkF m 108 #[.val (.int p1), .val (.int p2), .val (.int p3), .val (.int p4), .val (.int p5), .val (.long q6), .second, .val (.int (p1 &&& (3 : Int32))), .val (.int (1 : Int32)), .val (.int (p1 >>> ((3 : Int32) &&& 31))), .val (.ref r_125), .val (.ref b128), .val (.int (0 : Int32)), .val (.int (3 : Int32))] [(.int (1 : Int32))])) _
            exact retN X142 hx (t := .boolean) Bd.returns (by simp) (hb hby at_108) hr
          · show Q_rm0 Z p1 p2 p3 p4 p5 q6 h0 n0 _ T142.heap _
            exact ⟨rfl, N142⟩
set_option maxRecDepth 65536 in
set_option maxHeartbeats 40000000 in
theorem comes_1 {Post : Tables → Env → Array Value → State → Outcome → State → Prop} (hpost : ∀ tb e args s v u, (limb_1_1.after args s (.returned v) u = true ∧ limb_1_2.after args s (.returned v) u = true ∧ True) → FrameEnd s (.returned v) u (Jvm.fieldLocs frame_1_writes args s ++ Jvm.arrayLocs frame_1_arrays args s ++ Jvm.staticLocs frame_1_statics s) 16 128 → Post tb e args s (.returned v) u) :
    ArmFor flags0 classFile x code maxLocals ret World_1 tables_1 room_1 Calls_1 rest_1 Pre_1 Post := by
  intro l hfl _ _ p e ha hc hk s m args below hf hA hF happ hP
  obtain ⟨hcalls, hrest, hpre⟩ := hP
  obtain ⟨-, -, -, hnamed, -, -, -, hat⟩ := (Spec.applies_iff hf).mp happ
  obtain ⟨hg, hn⟩ := and_e (Cond.before_iff.mp (show (Jvm.Cond.and given_1 narrow_1).before args s = true from hpre))
  obtain ⟨gg1, gg2⟩ := and_e hg
  obtain ⟨gg3, gg4⟩ := and_e gg2
  obtain ⟨gg5, gg6⟩ := and_e gg4
  obtain ⟨gg7, gg8⟩ := and_e gg6
  obtain ⟨gg9, gg10⟩ := and_e gg8
  obtain ⟨gg11, gg12⟩ := and_e gg10
  obtain ⟨w0, w1, w2, w3, w4, w5, rfl⟩ : ∃ w0 w1 w2 w3 w4 w5 : Value, args = #[w0, w1, w2, w3, w4, w5] := by
    have hs : args.size = 6 := by simpa [Cond.value, given_1] using gg1
    obtain ⟨L⟩ := args
    match L, hs with
    | [w0, w1, w2, w3, w4, w5], _ => exact ⟨w0, w1, w2, w3, w4, w5, rfl⟩
  have hw := fun d (hd : d ∈ tables_1) => atoms_spec (ws := Jvm.Cond.code x code maxLocals ret :: tables_1) hat d (List.mem_cons_of_mem _ hd)
  have hfit : Fit s := fun {y c} hc i hi => by
    obtain ⟨ha, rfl⟩ := Array.getElem?_eq_some_iff.mp hc
    have q := List.all_eq_true.mp ((Array.all_eq_true_iff_forall_mem.mp hF) _ (Array.getElem_mem ha)) i (List.mem_range.mpr hi)
    simpa [Array.getElem?_eq_getElem hi] using q
  obtain ⟨i0, ei0⟩ := is_v gg3
  obtain rfl : w0 = (.int i0) := Option.some.inj ei0
  obtain ⟨i1, ei1⟩ := is_v gg5
  obtain rfl : w1 = (.int i1) := Option.some.inj ei1
  obtain ⟨i2, ei2⟩ := is_v gg7
  obtain rfl : w2 = (.int i2) := Option.some.inj ei2
  obtain ⟨i3, ei3⟩ := is_v gg9
  obtain rfl : w3 = (.int i3) := Option.some.inj ei3
  obtain ⟨i4, ei4⟩ := is_v gg11
  obtain rfl : w4 = (.int i4) := Option.some.inj ei4
  obtain ⟨i5, ei5⟩ := isL_v gg12
  obtain rfl : w5 = (.long i5) := Option.some.inj ei5
  obtain ⟨n, o, h1, h2, h3, _, L, rfl, ⟨rfl, N⟩, hq⟩ := rm0 l s _ hw tables_1 i0 i1 i2 i3 i4 i5 s.heap s.heap.size (Nat.le_refl _) p e ha hc hk s m _ below hf ((Spec.applies_iff_loose hf).mp happ).1 ⟨rfl, State.Warmed39.refl s, rfl⟩ trivial
  refine ⟨n, _, h1, h2, h3, hpost _ _ _ _ _ _ ⟨Cond.after_iff.mpr rfl, Cond.after_iff.mpr (eq_i res_at (Term.int_eval (1)) rfl), trivial⟩ ⟨hq.1, hq.2.1, (hq.2.2.sift fun y hy => Or.inr (N y hy)).mono (by decide) (by decide)⟩⟩
theorem main_1_1 : Claimed_1_1 := comes_1 fun _ _ _ _ _ _ h hF => ⟨h.1, hF⟩
theorem main_1_2 : Claimed_1_2 := comes_1 fun _ _ _ _ _ _ h hF => ⟨h.2.1, hF⟩
end Jvm.Pilot.@@N@@
namespace Jvm.Pilot.@@N@@
open Jvm Jvm.ClassFile Sem Op Lib Jvm.Free Jvm.Stand Jvm.Pilot.@@N@@.Jvm.D
/-! MADE BY PROGRAM (witnessworld.py) out of the Statement's table words and the real class files: 9 classes; the members and pool entries that the words name. The judged class is class 1, her method 2. -/
namespace start1
open Jvm.ClassFile
def u (s : String) : CpInfo := .utf8 (stringToUtf16 s)
/-- a pool by its gaps: so many unusable entries, then the entry; so many at the end -/
def gap : Nat → List CpInfo → List CpInfo
  | 0, r => r
  | n + 1, r => .unusable :: gap n r
def poolList (es : List (Nat × CpInfo)) (last : Nat) : List CpInfo := es.foldr (fun e r => gap e.1 (e.2 :: r)) (gap last [])
def pool (es : List (Nat × CpInfo)) (last : Nat) : Array CpInfo := ⟨poolList es last⟩
def fileOf (pool : Array CpInfo) (this : Nat) (attrs : Array Attribute := #[]) (ms : Array MethodInfo := #[]) (fl : Nat := 33) (sup : Nat := 0) (ifs : Array Nat := #[]) (fds : Array FieldInfo := #[]) : ClassFile where
  minorVersion := 0
  majorVersion := 65
  constantPool := pool
  accessFlags := fl
  thisClass := this
  superClass := sup
  interfaces := ifs
  fields := fds
  methods := ms
  attributes := attrs
def plain (name : String) (sup : Option ClassId) : Class where
  name := name
  kind := .ordinary
  loader := none
  accessFlags := 33
  super := sup
  interfaces := #[]
  cf := none
  fields := #[]
  methods := #[]
  instanceTypes := #[]
  staticTypes := #[]
  resolved := #[]
  callSites := []
  init := .initialized
  statics := none
  mirror := none

def pool0 : Array CpInfo := pool [(5, u "<init>"), (0, u "()V"), (1, .class_ 10), (1, u "java/lang/Object")] 113

def k0c0 : Code := { maxStack := 0, maxLocals := 1, code := object_method_1_code, exceptionTable := #[], attributes := #[] }
def k0m0 : Method := { name := "<init>", desc := "()V", sig := { parameters := [], returnType := none }, accessFlags := 1, code := some k0c0 }
/-- java/lang/Object -/
def k0 : Class := { plain "java/lang/Object" none with
  accessFlags := 33
  interfaces := #[]
  cf := some (fileOf pool0 8 #[] #[{ accessFlags := 1, nameIndex := 5, descriptorIndex := 6, attributes := #[] }] 33 0 #[] #[])
  fields := #[]
  methods := #[k0m0]
  instanceTypes := #[]
  staticTypes := #[]
  resolved := Array.replicate 124 none
  statics := none }

def pool1 : Array CpInfo := pool [(2, .class_ 4), (1, u "java/lang/Object"), (0, u "<init>"), (0, u "()V"), (0, .methodref 8 9), (0, .class_ 10), (0, .nameAndType 11 12), (0, u "com/example/concordia/concordia/clause/ClauseIsEmptyPinLaw"), (0, u "literalsOf"), (0, u "(IIII)[I"), (0, .class_ 14), (0, u "com/example/concordia/concordia/clause/Clause"), (0, .methodref 13 16), (0, .nameAndType 5 17), (0, u "([IIIZJ)V"), (0, .methodref 13 19), (0, .nameAndType 20 21), (0, u "isEmpty"), (0, u "()Z"), (0, .methodref 13 23), (0, .nameAndType 24 25), (0, u "literalCount"), (0, u "()I"), (3, u "law"), (0, u "(IIIIIJ)Z")] 4

def k1m0 : Method := { name := "<init>", desc := "()V", sig := { parameters := [], returnType := none }, accessFlags := 1, code := none }
def k1c1 : Code := { maxStack := 4, maxLocals := 4, code := method_2_code, exceptionTable := #[], attributes := #[] }
def k1m1 : Method := { name := "literalsOf", desc := "(IIII)[I", sig := { parameters := [.int, .int, .int, .int], returnType := some (.array .int) }, accessFlags := 10, code := some k1c1 }
def k1c2 : Code := { maxStack := 8, maxLocals := 14, code := code, exceptionTable := #[], attributes := #[] }
def k1m2 : Method := { name := "law", desc := "(IIIIIJ)Z", sig := { parameters := [.int, .int, .int, .int, .int, .long], returnType := some .boolean }, accessFlags := 9, code := some k1c2 }
/-- com/example/concordia/concordia/clause/ClauseIsEmptyPinLaw -/
def k1 : Class := { plain "com/example/concordia/concordia/clause/ClauseIsEmptyPinLaw" (some 0) with
  accessFlags := 49
  interfaces := #[]
  cf := some (fileOf pool1 8 #[] #[{ accessFlags := 1, nameIndex := 5, descriptorIndex := 6, attributes := #[] }, { accessFlags := 10, nameIndex := 11, descriptorIndex := 12, attributes := #[] }, { accessFlags := 9, nameIndex := 29, descriptorIndex := 30, attributes := #[] }] 49 2 #[] #[])
  fields := #[]
  methods := #[k1m0, k1m1, k1m2]
  instanceTypes := #[]
  staticTypes := #[]
  resolved := Array.replicate 35 none
  statics := none }

def pool2 : Array CpInfo := pool [(1, .methodref 2 3), (0, .class_ 4), (0, .nameAndType 5 6), (0, u "java/lang/Object"), (0, u "<init>"), (0, u "()V"), (0, .fieldref 8 9), (0, .class_ 10), (0, .nameAndType 11 12), (0, u "com/example/concordia/concordia/clause/Clause"), (0, u "literals"), (0, u "[I"), (0, .fieldref 8 14), (0, .nameAndType 15 16), (0, u "unit"), (0, u "I"), (0, .fieldref 8 18), (0, .nameAndType 19 16), (0, u "weight"), (0, .fieldref 8 21), (0, .nameAndType 22 16), (0, u "variableCount"), (0, .fieldref 8 24), (0, .nameAndType 25 26), (0, u "tautology"), (0, u "Z"), (0, .fieldref 8 28), (0, .nameAndType 29 30), (0, u "signature"), (0, u "J"), (31, u "([IIIZJ)V"), (30, u "literalCount"), (0, u "()I"), (0, u "isEmpty"), (0, u "()Z")] 22

def k2c0 : Code := { maxStack := 3, maxLocals := 7, code := prog_1_method_1_code, exceptionTable := #[], attributes := #[] }
def k2m0 : Method := { name := "<init>", desc := "([IIIZJ)V", sig := { parameters := [(.array .int), .int, .int, .boolean, .long], returnType := none }, accessFlags := 0, code := some k2c0 }
def k2c1 : Code := { maxStack := 1, maxLocals := 1, code := prog_1_method_5_code, exceptionTable := #[], attributes := #[] }
def k2m1 : Method := { name := "literalCount", desc := "()I", sig := { parameters := [], returnType := some .int }, accessFlags := 1, code := some k2c1 }
def k2c2 : Code := { maxStack := 1, maxLocals := 1, code := prog_1_method_6_code, exceptionTable := #[], attributes := #[] }
def k2m2 : Method := { name := "isEmpty", desc := "()Z", sig := { parameters := [], returnType := some .boolean }, accessFlags := 1, code := some k2c2 }
/-- com/example/concordia/concordia/clause/Clause -/
def k2 : Class := { plain "com/example/concordia/concordia/clause/Clause" (some 0) with
  accessFlags := 49
  interfaces := #[]
  cf := some (fileOf pool2 8 #[] #[{ accessFlags := 0, nameIndex := 5, descriptorIndex := 62, attributes := #[] }, { accessFlags := 1, nameIndex := 93, descriptorIndex := 94, attributes := #[] }, { accessFlags := 1, nameIndex := 95, descriptorIndex := 96, attributes := #[] }] 49 2 #[] #[{ accessFlags := 18, nameIndex := 11, descriptorIndex := 12, attributes := #[] }, { accessFlags := 18, nameIndex := 15, descriptorIndex := 16, attributes := #[] }, { accessFlags := 18, nameIndex := 19, descriptorIndex := 16, attributes := #[] }, { accessFlags := 18, nameIndex := 22, descriptorIndex := 16, attributes := #[] }, { accessFlags := 18, nameIndex := 25, descriptorIndex := 26, attributes := #[] }, { accessFlags := 18, nameIndex := 29, descriptorIndex := 30, attributes := #[] }])
  fields := #[{ name := "literals", type := (.array .int), accessFlags := 18, slot := 0, constantValue := 0 }, { name := "unit", type := .int, accessFlags := 18, slot := 1, constantValue := 0 }, { name := "weight", type := .int, accessFlags := 18, slot := 2, constantValue := 0 }, { name := "variableCount", type := .int, accessFlags := 18, slot := 3, constantValue := 0 }, { name := "tautology", type := .boolean, accessFlags := 18, slot := 4, constantValue := 0 }, { name := "signature", type := .long, accessFlags := 18, slot := 5, constantValue := 0 }]
  methods := #[k2m0, k2m1, k2m2]
  instanceTypes := #[(.array .int), .int, .int, .int, .boolean, .long]
  staticTypes := #[]
  resolved := Array.replicate 119 none
  statics := none }

def pool3 : Array CpInfo := pool [(1, u "java/lang/Cloneable"), (0, .class_ 1), (0, u "java/lang/Object"), (0, .class_ 3)] 3

/-- java/lang/Cloneable -/
def k3 : Class := { plain "java/lang/Cloneable" (some 0) with
  accessFlags := 1537
  interfaces := #[]
  cf := some (fileOf pool3 2 #[] #[] 1537 4 #[] #[])
  fields := #[]
  methods := #[]
  instanceTypes := #[]
  staticTypes := #[]
  resolved := Array.replicate 8 none
  statics := none }

def pool4 : Array CpInfo := pool [(1, u "java/io/Serializable"), (0, .class_ 1), (0, u "java/lang/Object"), (0, .class_ 3)] 3

/-- java/io/Serializable -/
def k4 : Class := { plain "java/io/Serializable" (some 0) with
  accessFlags := 1537
  interfaces := #[]
  cf := some (fileOf pool4 2 #[] #[] 1537 4 #[] #[])
  fields := #[]
  methods := #[]
  instanceTypes := #[]
  staticTypes := #[]
  resolved := Array.replicate 8 none
  statics := none }

/-- the primitive byte -/
def k5 : Class := { plain "byte" none with kind := .primitive 'B', accessFlags := 0x411 }
/-- [B -/
def k6 : Class := { plain "[B" (some 0) with kind := .array 5 .byte, interfaces := #[3, 4], accessFlags := 1041 }

/-- the primitive int -/
def k7 : Class := { plain "int" none with kind := .primitive 'I', accessFlags := 0x411 }
/-- [I -/
def k8 : Class := { plain "[I" (some 0) with kind := .array 7 .int, interfaces := #[3, 4], accessFlags := 1041 }

def heap : Heap := #[]
def classes : Array Class := #[k0, k1, k2, k3, k4, k5, k6, k7, k8]
def interned : List (Array UInt16 × Addr) := []
def slotsUsed : Nat := 0
def theMethod : MethodId := ⟨1, 2⟩
def args0 : Array Value := #[.int 2, .int 4, .int 5, .int 6, .int 7, .long 8]
def aboutOver (below : List Frame) : State where
  vm := { classes := classes, interned := interned.toArray }
  heap := heap
  slotsUsed := slotsUsed
  threads := #[{ frames := .invoking theMethod args0 :: below }]
def below0 : List Frame := [.native { method := ⟨0, 0⟩, args := #[] }]
def about1 : State := aboutOver below0
def p0 : Program := .bare "" "" ""
def e0 : Env := launch0.env 0 0 0
theorem w_frames : about1.frames = Frame.invoking theMethod args0 :: below0 := rfl
set_option maxRecDepth 65536 in
theorem w_args : argsFit about1.vm theMethod args0 = true := by decide +kernel
set_option maxRecDepth 65536 in
theorem w_heap : heapFits about1 = true := by decide +kernel
set_option maxRecDepth 65536 in
theorem w_runnable : about1.curStatus? = some .runnable := by decide +kernel
set_option maxRecDepth 65536 in
theorem w_alone : about1.alone = true := by decide +kernel
set_option maxRecDepth 65536 in
theorem w_named : about1.methodNamed? x = some theMethod := by decide +kernel
set_option maxRecDepth 65536 in
theorem w_hears : about1.hears theMethod below0 = true := by decide +kernel
set_option maxRecDepth 65536 in
theorem w_ripe : about1.ripe theMethod args0 below0 = true := by decide +kernel
theorem w_running : about1.status = .running := rfl
set_option maxRecDepth 65536 in
theorem w_room : about1.hasRoom e0.platform room_1 = true :=
  launch0.hasRoom_least _ room_1 (by decide +kernel) (by decide +kernel) (by decide +kernel) (by decide +kernel) (by decide +kernel) (by decide +kernel)
theorem allAtoms_all (ts : List Jvm.Cond) (a : Array Jvm.Value) (st : Jvm.State) : (allAtoms ts).before a st = ts.all (fun c => c.before a st) := by
  induction ts with
  | nil => rfl
  | cons c t ih =>
    show (Jvm.Cond.and c (allAtoms t)).before a st = _
    rw [Jvm.Cond.before_and, ih, List.all_cons]
def words1 : List Jvm.Cond := Jvm.Cond.code x code maxLocals ret :: tables_1
/-- a 'code' word, met by the world's own term for the bytes: nothing is compared byte by byte -/
theorem code_word {y : MethodName} {bytes : ByteArray} {mx : Nat} {rt : Option FieldType} {a : Array Value} {s : State} {m : MethodId} {meth : Method} {c : Code} (h1 : s.methodNamed? y = some m) (h2 : s.vm.method? m = some meth) (h3 : meth.code = some c) (h4 : c.code = bytes)
    (h5 : (c.maxLocals == mx && c.exceptionTable.isEmpty && decide (c.maxStack ≤ mostOperands) && decide (meth.sig.returnType = rt) && !meth.locks && decide (parseMethodDescriptor y.desc = some meth.sig)) = true) : (Jvm.Cond.code y bytes mx rt).before a s = true := by
  simp only [Bool.and_eq_true, beq_iff_eq, Bool.not_eq_true', decide_eq_true_eq] at h5
  obtain ⟨⟨⟨⟨⟨g1, g2⟩, g3⟩, g4⟩, g5⟩, g6⟩ := h5
  simp [Cond.before, Cond.holds, Cond.value, h1, h2, h3, h4, g1, g2, g3, g4, g5, g6]
def isCode : Jvm.Cond → Bool
  | .code _ _ _ _ => true
  | _ => false
theorem all_split {L : List Jvm.Cond} {P : Jvm.Cond → Bool} (h1 : L.all (fun c => isCode c || P c) = true) (h2 : ∀ c ∈ L.filter isCode, P c = true) : L.all P = true := by
  refine List.all_eq_true.mpr fun c hc => ?_
  have h := List.all_eq_true.mp h1 c hc
  rcases Bool.eq_false_or_eq_true (isCode c) with hi | hi
  · exact h2 c (List.mem_filter.mpr ⟨hc, hi⟩)
  · simpa [hi] using h
set_option maxRecDepth 65536 in
theorem w_c0 : (Jvm.Cond.code x code maxLocals ret).before args0 about1 = true := code_word (m := ⟨1, 2⟩) (meth := k1m2) (c := k1c2) (by decide +kernel) rfl rfl rfl (by decide +kernel)
set_option maxRecDepth 65536 in
theorem w_c1 : (Jvm.Cond.code ({ cls := "com/example/concordia/concordia/clause/ClauseIsEmptyPinLaw", name := "literalsOf", desc := "(IIII)[I" } : Jvm.MethodName) method_2_code (4 : Nat) (Option.some (Jvm.ClassFile.FieldType.array Jvm.ClassFile.FieldType.int))).before args0 about1 = true := code_word (m := ⟨1, 1⟩) (meth := k1m1) (c := k1c1) (by decide +kernel) rfl rfl rfl (by decide +kernel)
set_option maxRecDepth 65536 in
theorem w_c2 : (Jvm.Cond.code ({ cls := "com/example/concordia/concordia/clause/Clause", name := "<init>", desc := "([IIIZJ)V" } : Jvm.MethodName) prog_1_method_1_code (7 : Nat) (Option.none : Option Jvm.ClassFile.FieldType)).before args0 about1 = true := code_word (m := ⟨2, 0⟩) (meth := k2m0) (c := k2c0) (by decide +kernel) rfl rfl rfl (by decide +kernel)
set_option maxRecDepth 65536 in
theorem w_c3 : (Jvm.Cond.code ({ cls := "java/lang/Object", name := "<init>", desc := "()V" } : Jvm.MethodName) object_method_1_code (1 : Nat) (Option.none : Option Jvm.ClassFile.FieldType)).before args0 about1 = true := code_word (m := ⟨0, 0⟩) (meth := k0m0) (c := k0c0) (by decide +kernel) rfl rfl rfl (by decide +kernel)
set_option maxRecDepth 65536 in
theorem w_c4 : (Jvm.Cond.code ({ cls := "com/example/concordia/concordia/clause/Clause", name := "isEmpty", desc := "()Z" } : Jvm.MethodName) prog_1_method_6_code (1 : Nat) (Option.some Jvm.ClassFile.FieldType.boolean)).before args0 about1 = true := code_word (m := ⟨2, 2⟩) (meth := k2m2) (c := k2c2) (by decide +kernel) rfl rfl rfl (by decide +kernel)
set_option maxRecDepth 65536 in
theorem w_c5 : (Jvm.Cond.code ({ cls := "com/example/concordia/concordia/clause/Clause", name := "literalCount", desc := "()I" } : Jvm.MethodName) prog_1_method_5_code (1 : Nat) (Option.some Jvm.ClassFile.FieldType.int)).before args0 about1 = true := code_word (m := ⟨2, 1⟩) (meth := k2m1) (c := k2c1) (by decide +kernel) rfl rfl rfl (by decide +kernel)
def codes1 : List Jvm.Cond := [Jvm.Cond.code x code maxLocals ret, Jvm.Cond.code ({ cls := "com/example/concordia/concordia/clause/ClauseIsEmptyPinLaw", name := "literalsOf", desc := "(IIII)[I" } : Jvm.MethodName) method_2_code (4 : Nat) (Option.some (Jvm.ClassFile.FieldType.array Jvm.ClassFile.FieldType.int)), Jvm.Cond.code ({ cls := "com/example/concordia/concordia/clause/Clause", name := "<init>", desc := "([IIIZJ)V" } : Jvm.MethodName) prog_1_method_1_code (7 : Nat) (Option.none : Option Jvm.ClassFile.FieldType), Jvm.Cond.code ({ cls := "java/lang/Object", name := "<init>", desc := "()V" } : Jvm.MethodName) object_method_1_code (1 : Nat) (Option.none : Option Jvm.ClassFile.FieldType), Jvm.Cond.code ({ cls := "com/example/concordia/concordia/clause/Clause", name := "isEmpty", desc := "()Z" } : Jvm.MethodName) prog_1_method_6_code (1 : Nat) (Option.some Jvm.ClassFile.FieldType.boolean), Jvm.Cond.code ({ cls := "com/example/concordia/concordia/clause/Clause", name := "literalCount", desc := "()I" } : Jvm.MethodName) prog_1_method_5_code (1 : Nat) (Option.some Jvm.ClassFile.FieldType.int)]
set_option maxRecDepth 65536 in
theorem codes_eq : words1.filter isCode = codes1 := rfl
theorem w_codes : ∀ c ∈ words1.filter isCode, c.before args0 about1 = true := by
  rw [codes_eq]
  intro c hc
  simp only [codes1, List.mem_cons, List.not_mem_nil, or_false] at hc
  rcases hc with rfl | rfl | rfl | rfl | rfl | rfl
  · exact w_c0
  · exact w_c1
  · exact w_c2
  · exact w_c3
  · exact w_c4
  · exact w_c5
set_option maxRecDepth 65536 in
theorem w_t1 : (words1.take 24).all (fun c => isCode c || c.before args0 about1) = true := by decide +kernel
set_option maxRecDepth 65536 in
theorem w_t2 : (words1.drop 24).all (fun c => isCode c || c.before args0 about1) = true := by decide +kernel
theorem w_tables : (allAtoms (Jvm.Cond.code x code maxLocals ret :: tables_1)).before args0 about1 = true := by
  rw [allAtoms_all]
  show words1.all (fun c => c.before args0 about1) = true
  refine all_split ?_ w_codes
  rw [← List.take_append_drop 24 words1, List.all_append, w_t1, w_t2]
  rfl
set_option maxRecDepth 65536 in
theorem w_case : (Jvm.Cond.and given_1 narrow_1).before args0 about1 = true := by decide +kernel
theorem w_applies : (headSpec (Jvm.Cond.code x code maxLocals ret :: tables_1) room_1).applies x e0.platform about1 = true :=
  (Spec.applies_iff w_frames).mpr ⟨w_running, w_runnable, w_alone, w_named, w_hears, w_ripe, w_room, w_tables⟩
theorem atStart : AtStart classFile x code maxLocals ret World_1 tables_1 room_1 Calls_1 rest_1 Pre_1 launch0 p0 e0 about1 theMethod args0 below0 :=
  ⟨lists_1, trivial, launch0.admits_env _ _ _, launch0.least_env, fairChoices_fair.cas, fairChoices_fair.clock, w_frames, w_args, w_heap, w_applies, trivial, trivial, w_case⟩
end start1
theorem witness_1 : WitnessClaimed_1 := ⟨start1.p0, start1.e0, start1.about1, start1.theMethod, start1.args0, start1.below0, start1.atStart⟩
end Jvm.Pilot.@@N@@
