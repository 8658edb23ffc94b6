import JvmDerived
import JvmDerived.Pilot.@@N@@Statement
import JvmDerived.Pilot.@@N@@Code
set_option linter.unusedVariables false
set_option linter.unusedSimpArgs false

namespace Jvm.RoadKit
open Sem ClassFile Op Lib Jvm.Stand Jvm.Free Jvm.LawKit
section New
variable {p : Program} {l : Launch} {e : Env} {R : Room} {s : State} {m : MethodId} {args : Array Value} {below : List Frame} {meth : Method} {c : Code} {T : State} {locs : List Loc} {cells slots : Nat}
theorem retI (X : Stand p l e R s m args below meth c T locs cells slots) (hx : p.tables.exec = Jvm.exec) {pc : Nat} {Ls : Array Slot} {z : Int32} {rest : List Value} (hret : meth.sig.returnType = some .int) (hd : decode c.code pc = .ok (.ireturn, 1)) {fs : List Frame}
    (hl : ∀ (f : JFrame) (acts : List Action), f.method = m → f.locked = none → f.entered = [] → (doReturn e (T.setTop f) acts (some (.int z))).1 = T.setFrames fs) : Steps p.tables e below (T.setTop (mkF m pc Ls (.int z :: rest))) (T.setFrames fs) := by
  exact retOut X hx hret rfl (Or.inl ⟨rfl, Or.inl rfl, _, rfl⟩) hd hl
end New
end Jvm.RoadKit
namespace Jvm.Pilot.@@N@@
open Jvm Jvm.ClassFile Sem Op Lib Jvm.Free Jvm.Stand Jvm.LawKit Jvm.RoadKit Bundle Jvm.Pilot.@@N@@.Jvm.D
def own_ps (a b : Int32) : Int32 := if (a &&& (b ^^^ (-1 : Int32))) = (0 : Int32) then (if a = b then 0 else 1) else 0
theorem own_psA {a b : Int32} (h : ¬ ((a &&& (b ^^^ (-1 : Int32))) = (0 : Int32))) : (0 : Int32) = own_ps a b := (if_neg h).symm
theorem own_psB {a b : Int32} (h : (a &&& (b ^^^ (-1 : Int32))) = (0 : Int32)) (h2 : a = b) : (0 : Int32) = own_ps a b := by
  unfold own_ps; rw [if_pos h, if_pos h2]
theorem own_psC {a b : Int32} (h : (a &&& (b ^^^ (-1 : Int32))) = (0 : Int32)) (h2 : ¬ (a = b)) : (1 : Int32) = own_ps a b := by
  unfold own_ps; rw [if_pos h, if_neg h2]
theorem own_some {x y : Int32} (h : x = y) : (some (.int x) : Option Value) = some (.int y) := by rw [h]
theorem own_bv {x y : Int32} (h : ∀ i, i < 32 → x.toBitVec.getLsbD i = y.toBitVec.getLsbD i) : x = y := Int32.toBitVec_inj.mp (BitVec.eq_of_getLsbD_eq h)
theorem own_at {x y : Int32} (h : x = y) (i : Nat) : x.toBitVec.getLsbD i = y.toBitVec.getLsbD i := by rw [h]
theorem own_not (b : Int32) (i : Nat) (hi : i < 32) : (b ^^^ (-1 : Int32)).toBitVec.getLsbD i = !b.toBitVec.getLsbD i := by
  have e : (-1 : Int32).toBitVec = BitVec.allOnes 32 := by decide
  rw [Int32.toBitVec_xor, e, BitVec.getLsbD_xor, BitVec.getLsbD_allOnes]; simp [hi]
theorem own_zero (i : Nat) : (0 : Int32).toBitVec.getLsbD i = false := by
  have e : (0 : Int32).toBitVec = 0#32 := rfl
  rw [e]; simp
theorem own_sub {a b : Int32} : (a &&& (b ^^^ (-1 : Int32))) = (0 : Int32) ↔ ∀ i, i < 32 → a.toBitVec.getLsbD i = true → b.toBitVec.getLsbD i = true := by
  constructor
  · intro h i hi ha
    have q := own_at h i
    rw [Int32.toBitVec_and, BitVec.getLsbD_and, own_not b i hi, own_zero, ha] at q
    simpa using q
  · intro h
    apply own_bv
    intro i hi
    rw [Int32.toBitVec_and, BitVec.getLsbD_and, own_not b i hi, own_zero]
    cases ha : a.toBitVec.getLsbD i
    · rfl
    · rw [h i hi ha]; rfl
theorem own_m0a {a b : Int32} (h : (a &&& (b ^^^ (-1 : Int32))) = (0 : Int32)) : own_ps (a &&& b) a = (0 : Int32) := by
  have e : a &&& b = a := own_bv fun i hi => by
    rw [Int32.toBitVec_and, BitVec.getLsbD_and]
    cases ha : a.toBitVec.getLsbD i
    · rfl
    · rw [own_sub.mp h i hi ha]; rfl
  rw [e]; unfold own_ps; simp
theorem own_m0b {a b : Int32} (h : ¬ ((a &&& (b ^^^ (-1 : Int32))) = (0 : Int32))) : own_ps (a &&& b) a = (1 : Int32) := by
  have h1 : ((a &&& b) &&& (a ^^^ (-1 : Int32))) = (0 : Int32) := own_sub.mpr fun i hi ha => by
    rw [Int32.toBitVec_and, BitVec.getLsbD_and, Bool.and_eq_true] at ha; exact ha.1
  have h2 : ¬ (a &&& b = a) := fun e => h (own_sub.mpr fun i hi ha => by
    have q := own_at e i
    rw [Int32.toBitVec_and, BitVec.getLsbD_and, ha] at q
    simpa using q)
  unfold own_ps; rw [if_pos h1, if_neg h2]
theorem own_m1 (a : Int32) : own_ps a a = (0 : Int32) := by unfold own_ps; simp
theorem own_m2a {a b : Int32} (h : (a &&& b) = (0 : Int32)) : own_ps (a &&& (b ^^^ (-1 : Int32))) a = (0 : Int32) := by
  have e : a &&& (b ^^^ (-1 : Int32)) = a := own_bv fun i hi => by
    have q := own_at h i
    rw [Int32.toBitVec_and, BitVec.getLsbD_and, own_zero] at q
    rw [Int32.toBitVec_and, BitVec.getLsbD_and, own_not b i hi]
    cases ha : a.toBitVec.getLsbD i
    · rfl
    · rw [ha] at q; simp at q; rw [q]; rfl
  rw [e]; exact own_m1 a
theorem own_m2b {a b : Int32} (h : ¬ ((a &&& b) = (0 : Int32))) : own_ps (a &&& (b ^^^ (-1 : Int32))) a = (1 : Int32) := by
  have h1 : ((a &&& (b ^^^ (-1 : Int32))) &&& (a ^^^ (-1 : Int32))) = (0 : Int32) := own_sub.mpr fun i hi ha => by
    rw [Int32.toBitVec_and, BitVec.getLsbD_and, Bool.and_eq_true] at ha; exact ha.1
  have h2 : ¬ (a &&& (b ^^^ (-1 : Int32)) = a) := fun e => h (own_bv fun i hi => by
    have q := own_at e i
    rw [Int32.toBitVec_and, BitVec.getLsbD_and, own_not b i hi] at q
    rw [Int32.toBitVec_and, BitVec.getLsbD_and, own_zero]
    cases ha : a.toBitVec.getLsbD i
    · rfl
    · rw [ha] at q; simp at q; rw [q]; rfl)
  unfold own_ps; rw [if_pos h1, if_neg h2]
theorem own_or {a b : Int32} : (a ||| b) = b ↔ (a &&& (b ^^^ (-1 : Int32))) = (0 : Int32) := by
  rw [own_sub]
  constructor
  · intro h i hi ha
    have q := own_at h i
    rw [Int32.toBitVec_or, BitVec.getLsbD_or, ha] at q
    simpa using q.symm
  · intro h
    apply own_bv
    intro i hi
    rw [Int32.toBitVec_or, BitVec.getLsbD_or]
    cases ha : a.toBitVec.getLsbD i
    · rfl
    · rw [h i hi ha]; rfl
theorem own_m3a {a b : Int32} (h : ¬ ((a ||| b) = b)) : own_ps a b = (0 : Int32) := by
  unfold own_ps; rw [if_neg (fun q => h (own_or.mpr q))]
theorem own_m3b {a b : Int32} (h : a = b) : own_ps a b = (0 : Int32) := by rw [h]; exact own_m1 b
theorem own_m3c {a b : Int32} (h : (a ||| b) = b) (hn : ¬ (a = b)) : own_ps a b = (1 : Int32) := by
  unfold own_ps; rw [if_pos (own_or.mp h), if_neg hn]
theorem d1_0 : decode prog_67_method_6_code 0 = .ok (.iload_n 0, 1) := by decide +kernel
theorem d1_1 : decode prog_67_method_6_code 1 = .ok (.iload_n 1, 1) := by decide +kernel
theorem d1_2 : decode prog_67_method_6_code 2 = .ok (.iconst (-1), 1) := by decide +kernel
theorem d1_3 : decode prog_67_method_6_code 3 = .ok (.ixor, 1) := by decide +kernel
theorem d1_4 : decode prog_67_method_6_code 4 = .ok (.iand, 1) := by decide +kernel
theorem d1_5 : decode prog_67_method_6_code 5 = .ok (.ifCond .ne 12, 3) := by decide +kernel
theorem d1_8 : decode prog_67_method_6_code 8 = .ok (.iload_n 0, 1) := by decide +kernel
theorem d1_9 : decode prog_67_method_6_code 9 = .ok (.iload_n 1, 1) := by decide +kernel
theorem d1_10 : decode prog_67_method_6_code 10 = .ok (.if_icmp .eq 7, 3) := by decide +kernel
theorem d1_17 : decode prog_67_method_6_code 17 = .ok (.iconst 0, 1) := by decide +kernel
theorem d1_18 : decode prog_67_method_6_code 18 = .ok (.ireturn, 1) := by decide +kernel
theorem d1_13 : decode prog_67_method_6_code 13 = .ok (.iconst 1, 1) := by decide +kernel
theorem d1_14 : decode prog_67_method_6_code 14 = .ok (.goto 4, 3) := by decide +kernel
theorem pn_com_example_entropic_join_entropicjoin_VariableSets : plainName "com/example/entropic_join/entropicjoin/VariableSets" = true := by first | (simp [plainName, overriddenIn]; done) | decide +kernel
theorem ef_rm_ps (m : MethodId) (x0 : Int32) (x1 : Int32) : entryFrame m #[(.int x0), (.int x1)] 2 = mkF m 0 #[.val (.int x0), .val (.int x1)] [] := by first | (simp [entryFrame, mkF, argsToLocals, Value.category]; done) | rfl
def Q_rm_ps (Z : State) (p1 : Int32) (p2 : Int32) (h0 : Heap) (n0 : Nat) (v : Option Value) (h : Heap) (L : List Loc) : Prop := v = some (.int (own_ps p1 p2)) ∧ Fr n0 L ∧ h = h0
set_option maxRecDepth 65536 in
set_option maxHeartbeats 40000000 in
theorem rm_ps (l : Launch) (Z : State) (a0 : Array Value) (hw : ∀ d ∈ tables_1, d.before a0 Z = true) (ws : List Jvm.Cond) (p1 : Int32) (p2 : Int32) (h0 : Heap) (n0 : Nat) (Z0 : n0 ≤ h0.size) :
    MetFree l (⟨"com/example/entropic_join/entropicjoin/VariableSets", "isProperSubset", "(II)Z"⟩ : MethodName) (head1 (Jvm.Cond.code (⟨"com/example/entropic_join/entropicjoin/VariableSets", "isProperSubset", "(II)Z"⟩ : MethodName) prog_67_method_6_code 2 (some .boolean) :: ws) ({ frames := 0, cells := 0, slots := 0, locals := 0 } : Room)) (fun a U => a = #[(.int p1), (.int p2)] ∧ Z.Warmed39 U.vm ∧ U.heap = h0) (fun _ _ _ _ _ => True) (fun _ U o U' => ∃ v L, o = .returned v ∧ Q_rm_ps Z p1 p2 h0 n0 v U'.heap L ∧ FrameEnd U o U' L ({ frames := 0, cells := 0, slots := 0, locals := 0 } : Room).cells ({ frames := 0, cells := 0, slots := 0, locals := 0 } : Room).slots) := by
  refine MetFree.of_bodySF (plainFor_of_name pn_com_example_entropic_join_entropicjoin_VariableSets) hisR ?_
  intro p e s m args below meth c s₁ Bd hml0 hP hK
  obtain ⟨rfl, hZ, hh⟩ := hP
  have hx := Bd.exec
  have hby := Bd.bytes
  have hml : c.maxLocals = 2 := hml0
  have hown : s.vm.findClass "com/example/entropic_join/entropicjoin/VariableSets" = some m.cls := findClass_of_methodNamed Bd.named
  have hnm := (name_of_methodNamed Bd.named Bd.method).1
  have X0 : Stand p l e ({ frames := 0, cells := 0, slots := 0, locals := 0 } : Room) s m #[(.int p1), (.int p2)] below meth c s₁ [] 0 0 := Stand.of_body Bd
  have e0 : s₁.heap = h0 := by rw [← hh, Bd.state]; rfl
  have N0 := Fr.nil n0
  have pre0 : ∀ t, Steps p.tables e below (s₁.setTop (mkF m 0 #[.val (.int p1), .val (.int p2)] [])) t → Steps p.tables e below (s₁.setTop (entryFrame m #[(.int p1), (.int p2)] 2)) t := fun t k => castTop (ef_rm_ps m p1 p2) k
  by_cases hc1 : (p1 &&& (p2 ^^^ (-1 : Int32))) = (0 : Int32)
  · by_cases hc2 : p1 = p2
    · obtain ⟨fs, hr, hrun, hended, hW, hsame⟩ := X0.leave (v := some (.int (0 : Int32))) (fun h => by rw [Bd.returns] at h; cases h)
      refine ⟨_, _, pre0 _ ?_, hrun, hended, _, _, rfl, ?_, ⟨_, rfl⟩, hW, hsame.mono (by decide) (by decide)⟩
      · show Steps p.tables e below (s₁.setTop (mkF m 0 #[.val (.int p1), .val (.int p2)] [])) _
        refine XS.iloadN X0.here hx rfl (hb hby d1_0) rfl ?_
        show Steps p.tables e below (s₁.setTop (mkF m 1 #[.val (.int p1), .val (.int p2)] [(.int p1)])) _
        refine XS.iloadN X0.here hx rfl (hb hby d1_1) rfl ?_
        show Steps p.tables e below (s₁.setTop (mkF m 2 #[.val (.int p1), .val (.int p2)] [(.int p2), (.int p1)])) _
        refine XS.iconst X0.here hx rfl (hb hby d1_2) ?_
        show Steps p.tables e below (s₁.setTop (mkF m 3 #[.val (.int p1), .val (.int p2)] [(.int (-1 : Int32)), (.int p2), (.int p1)])) _
        refine XS.ixor X0.here hx rfl (hb hby d1_3) rfl ?_
        show Steps p.tables e below (s₁.setTop (mkF m 4 #[.val (.int p1), .val (.int p2)] [(.int (p2 ^^^ (-1 : Int32))), (.int p1)])) _
        refine XS.iand X0.here hx rfl (hb hby d1_4) rfl ?_
        show Steps p.tables e below (s₁.setTop (mkF m 5 #[.val (.int p1), .val (.int p2)] [(.int (p1 &&& (p2 ^^^ (-1 : Int32))))])) _
        refine XS.ifNo X0.here hx rfl (hb hby d1_5) rfl ((if0 _ _).trans (teq hc1).2) ?_
        show Steps p.tables e below (s₁.setTop (mkF m 8 #[.val (.int p1), .val (.int p2)] [])) _
        refine XS.iloadN X0.here hx rfl (hb hby d1_8) rfl ?_
        show Steps p.tables e below (s₁.setTop (mkF m 9 #[.val (.int p1), .val (.int p2)] [(.int p1)])) _
        refine XS.iloadN X0.here hx rfl (hb hby d1_9) rfl ?_
        show Steps p.tables e below (s₁.setTop (mkF m 10 #[.val (.int p1), .val (.int p2)] [(.int p2), (.int p1)])) _
        refine XS.icmpYes X0.here hx rfl (pc0 := 10) (pc' := 17) rfl (hb hby d1_10) rfl (teq hc2).1 (by decide) (by decide) ?_
        show Steps p.tables e below (s₁.setTop (mkF m 17 #[.val (.int p1), .val (.int p2)] [])) _
        refine XS.iconst X0.here hx rfl (hb hby d1_17) ?_
        show Steps p.tables e below (s₁.setTop (mkF m 18 #[.val (.int p1), .val (.int p2)] [(.int (0 : Int32))])) _
        exact retN X0 hx (t := .boolean) Bd.returns (by simp) (hb hby d1_18) hr
      · show Q_rm_ps Z p1 p2 h0 n0 _ s₁.heap _
        rw [e0]
        exact ⟨(own_some (own_psB hc1 hc2)), N0, rfl⟩
    · obtain ⟨fs, hr, hrun, hended, hW, hsame⟩ := X0.leave (v := some (.int (1 : Int32))) (fun h => by rw [Bd.returns] at h; cases h)
      refine ⟨_, _, pre0 _ ?_, hrun, hended, _, _, rfl, ?_, ⟨_, rfl⟩, hW, hsame.mono (by decide) (by decide)⟩
      · show Steps p.tables e below (s₁.setTop (mkF m 0 #[.val (.int p1), .val (.int p2)] [])) _
        refine XS.iloadN X0.here hx rfl (hb hby d1_0) rfl ?_
        show Steps p.tables e below (s₁.setTop (mkF m 1 #[.val (.int p1), .val (.int p2)] [(.int p1)])) _
        refine XS.iloadN X0.here hx rfl (hb hby d1_1) rfl ?_
        show Steps p.tables e below (s₁.setTop (mkF m 2 #[.val (.int p1), .val (.int p2)] [(.int p2), (.int p1)])) _
        refine XS.iconst X0.here hx rfl (hb hby d1_2) ?_
        show Steps p.tables e below (s₁.setTop (mkF m 3 #[.val (.int p1), .val (.int p2)] [(.int (-1 : Int32)), (.int p2), (.int p1)])) _
        refine XS.ixor X0.here hx rfl (hb hby d1_3) rfl ?_
        show Steps p.tables e below (s₁.setTop (mkF m 4 #[.val (.int p1), .val (.int p2)] [(.int (p2 ^^^ (-1 : Int32))), (.int p1)])) _
        refine XS.iand X0.here hx rfl (hb hby d1_4) rfl ?_
        show Steps p.tables e below (s₁.setTop (mkF m 5 #[.val (.int p1), .val (.int p2)] [(.int (p1 &&& (p2 ^^^ (-1 : Int32))))])) _
        refine XS.ifNo X0.here hx rfl (hb hby d1_5) rfl ((if0 _ _).trans (teq hc1).2) ?_
        show Steps p.tables e below (s₁.setTop (mkF m 8 #[.val (.int p1), .val (.int p2)] [])) _
        refine XS.iloadN X0.here hx rfl (hb hby d1_8) rfl ?_
        show Steps p.tables e below (s₁.setTop (mkF m 9 #[.val (.int p1), .val (.int p2)] [(.int p1)])) _
        refine XS.iloadN X0.here hx rfl (hb hby d1_9) rfl ?_
        show Steps p.tables e below (s₁.setTop (mkF m 10 #[.val (.int p1), .val (.int p2)] [(.int p2), (.int p1)])) _
        refine XS.icmpNo X0.here hx rfl (hb hby d1_10) rfl (feq hc2).1 ?_
        show Steps p.tables e below (s₁.setTop (mkF m 13 #[.val (.int p1), .val (.int p2)] [])) _
        refine XS.iconst X0.here hx rfl (hb hby d1_13) ?_
        show Steps p.tables e below (s₁.setTop (mkF m 14 #[.val (.int p1), .val (.int p2)] [(.int (1 : Int32))])) _
        refine XS.goto X0.here hx rfl (pc0 := 14) (pc' := 18) rfl (hb hby d1_14) (by decide) (by decide) ?_
        show Steps p.tables e below (s₁.setTop (mkF m 18 #[.val (.int p1), .val (.int p2)] [(.int (1 : Int32))])) _
        exact retN X0 hx (t := .boolean) Bd.returns (by simp) (hb hby d1_18) hr
      · show Q_rm_ps Z p1 p2 h0 n0 _ s₁.heap _
        rw [e0]
        exact ⟨(own_some (own_psC hc1 hc2)), N0, rfl⟩
  · obtain ⟨fs, hr, hrun, hended, hW, hsame⟩ := X0.leave (v := some (.int (0 : Int32))) (fun h => by rw [Bd.returns] at h; cases h)
    refine ⟨_, _, pre0 _ ?_, hrun, hended, _, _, rfl, ?_, ⟨_, rfl⟩, hW, hsame.mono (by decide) (by decide)⟩
    · show Steps p.tables e below (s₁.setTop (mkF m 0 #[.val (.int p1), .val (.int p2)] [])) _
      refine XS.iloadN X0.here hx rfl (hb hby d1_0) rfl ?_
      show Steps p.tables e below (s₁.setTop (mkF m 1 #[.val (.int p1), .val (.int p2)] [(.int p1)])) _
      refine XS.iloadN X0.here hx rfl (hb hby d1_1) rfl ?_
      show Steps p.tables e below (s₁.setTop (mkF m 2 #[.val (.int p1), .val (.int p2)] [(.int p2), (.int p1)])) _
      refine XS.iconst X0.here hx rfl (hb hby d1_2) ?_
      show Steps p.tables e below (s₁.setTop (mkF m 3 #[.val (.int p1), .val (.int p2)] [(.int (-1 : Int32)), (.int p2), (.int p1)])) _
      refine XS.ixor X0.here hx rfl (hb hby d1_3) rfl ?_
      show Steps p.tables e below (s₁.setTop (mkF m 4 #[.val (.int p1), .val (.int p2)] [(.int (p2 ^^^ (-1 : Int32))), (.int p1)])) _
      refine XS.iand X0.here hx rfl (hb hby d1_4) rfl ?_
      show Steps p.tables e below (s₁.setTop (mkF m 5 #[.val (.int p1), .val (.int p2)] [(.int (p1 &&& (p2 ^^^ (-1 : Int32))))])) _
      refine XS.ifYes X0.here hx rfl (pc0 := 5) (pc' := 17) rfl (hb hby d1_5) rfl ((if0 _ _).trans (feq hc1).2) (by decide) (by decide) ?_
      show Steps p.tables e below (s₁.setTop (mkF m 17 #[.val (.int p1), .val (.int p2)] [])) _
      refine XS.iconst X0.here hx rfl (hb hby d1_17) ?_
      show Steps p.tables e below (s₁.setTop (mkF m 18 #[.val (.int p1), .val (.int p2)] [(.int (0 : Int32))])) _
      exact retN X0 hx (t := .boolean) Bd.returns (by simp) (hb hby d1_18) hr
    · show Q_rm_ps Z p1 p2 h0 n0 _ s₁.heap _
      rw [e0]
      exact ⟨(own_some (own_psA hc1)), N0, rfl⟩
theorem pd__40II_41Z : parseMethodDescriptor "(II)Z" = some ⟨[.int, .int], some .boolean⟩ := by decide +kernel
theorem pn_com_example_entropic_join_entropicjoin_VariableSetsIsProperSubsetPinLaw : plainName "com/example/entropic_join/entropicjoin/VariableSetsIsProperSubsetPinLaw" = true := by first | (simp [plainName, overriddenIn]; done) | decide +kernel
theorem ef_rm0 (m : MethodId) (x0 : Int32) (x1 : Int32) (x2 : Int32) : entryFrame m #[(.int x0), (.int x1), (.int x2)] maxLocals = mkF m 0 #[.val (.int x0), .val (.int x1), .val (.int x2), .unset, .unset, .unset, .unset, .unset] [] := by first | (simp [entryFrame, mkF, argsToLocals, Value.category, maxLocals]; done) | rfl
def Q_rm0 (Z : State) (p1 : Int32) (p2 : Int32) (p3 : Int32) (h0 : Heap) (n0 : Nat) (v : Option Value) (h : Heap) (L : List Loc) : Prop := v = some (.int (1 : Int32)) ∧ Fr n0 L
set_option maxRecDepth 65536 in
set_option maxHeartbeats 40000000 in
theorem rm0 (l : Launch) (Z : State) (a0 : Array Value) (hw : ∀ d ∈ tables_1, d.before a0 Z = true) (ws : List Jvm.Cond) (p1 : Int32) (p2 : Int32) (p3 : Int32) (h0 : Heap) (n0 : Nat) (Z0 : n0 ≤ h0.size) :
    MetFree l x (head1 (Jvm.Cond.code x code maxLocals ret :: ws) room_1) (fun a U => a = #[(.int p1), (.int p2), (.int p3)] ∧ Z.Warmed39 U.vm ∧ U.heap = h0) (fun _ _ _ _ _ => True) (fun _ U o U' => ∃ v L, o = .returned v ∧ Q_rm0 Z p1 p2 p3 h0 n0 v U'.heap L ∧ FrameEnd U o U' L room_1.cells room_1.slots) := by
  refine MetFree.of_bodySF (plainFor_of_name pn_com_example_entropic_join_entropicjoin_VariableSetsIsProperSubsetPinLaw) hisR ?_
  intro p e s m args below meth c s₁ Bd hml0 hP hK
  obtain ⟨rfl, hZ, hh⟩ := hP
  have hx := Bd.exec
  have hby := Bd.bytes
  have hml : c.maxLocals = 8 := hml0
  have hown : s.vm.findClass "com/example/entropic_join/entropicjoin/VariableSetsIsProperSubsetPinLaw" = some m.cls := findClass_of_methodNamed Bd.named
  have hnm := (name_of_methodNamed Bd.named Bd.method).1
  have X0 : Stand p l e room_1 s m #[(.int p1), (.int p2), (.int p3)] below meth c s₁ [] 0 0 := Stand.of_body Bd
  have e0 : s₁.heap = h0 := by rw [← hh, Bd.state]; rfl
  have N0 := Fr.nil n0
  have pre0 : ∀ t, Steps p.tables e below (s₁.setTop (mkF m 0 #[.val (.int p1), .val (.int p2), .val (.int p3), .unset, .unset, .unset, .unset, .unset] [])) t → Steps p.tables e below (s₁.setTop (entryFrame m #[(.int p1), (.int p2), (.int p3)] maxLocals)) t := fun t k => castTop (ef_rm0 m p1 p2 p3) k
  by_cases hc1 : (p3 &&& (3 : Int32)) = (0 : Int32)
  · by_cases hc2 : (p1 &&& (p2 ^^^ (-1 : Int32))) = (0 : Int32)
    · obtain ⟨_, _, ⟨T1, L1, k1, n1⟩, -, X1, ⟨Lc1, hQ1, l1, y1, z1⟩, st1⟩ := Jvm.LawKit.callS X0 hx (y := (⟨"com/example/entropic_join/entropicjoin/VariableSets", "isProperSubset", "(II)Z"⟩ : MethodName)) hown (mvT hZ (hw _ (List.mem_of_getElem? (i := 0) rfl))) (mvT hZ (hw _ (List.mem_of_getElem? (i := 1) rfl))) (mvT hZ (hw _ (List.mem_of_getElem? (i := 2) rfl))) (mvT hZ (hw _ (List.mem_of_getElem? (i := 3) rfl))) (by decide) (backOf (W := 0) (rm_ps l Z a0 hw [] (p1 &&& p2) p1 h0 n0 Z0) hZ (hw _ (List.mem_of_getElem? (i := 3) rfl)) (hw _ (List.mem_of_getElem? (i := 2) rfl)) (by decide) (by decide)) (g := (mkF m 121 #[.val (.int p1), .val (.int p2), .val (.int p3), .val (.int (p3 &&& (3 : Int32))), .val (.int ((1 : Int32) <<< ((p2 &&& (31 : Int32)) &&& 31))), .val (.int (p1 &&& p2)), .val (.int p1), .val (.int (0 : Int32))] [(.int p1), (.int (p1 &&& p2))])) rfl (by rw [hml]; rfl) (argsL := [(.int (p1 &&& p2)), (.int p1)]) (rest := []) (lenOf pd__40II_41Z rfl) rfl (by show 2 * 0 + _ ≤ _; exact Nat.le_of_eq rfl) (hb hby at_121) (fun _ _ => ⟨rfl, e0, (by decide : 0 + 0 ≤ _), (by decide : 0 + 0 ≤ _)⟩)
      dsimp only [Pt.U, Pt.locs, Pt.cells, Pt.slots] at X1 l1 y1 z1 st1 hQ1
      subst l1 y1 z1
      obtain ⟨rfl, Nq1, e1⟩ := hQ1
      have N1 := Fr.app N0 Nq1
      obtain ⟨fs, hr, hrun, hended, hW, hsame⟩ := X1.leave (v := some (.int (1 : Int32))) (fun h => by rw [Bd.returns] at h; cases h)
      refine ⟨_, _, pre0 _ ?_, hrun, hended, _, _, rfl, ?_, ⟨_, rfl⟩, hW, hsame.mono (by decide) (by decide)⟩
      · show Steps p.tables e below (s₁.setTop (mkF m 0 #[.val (.int p1), .val (.int p2), .val (.int p3), .unset, .unset, .unset, .unset, .unset] [])) _
        refine XS.iloadN X0.here hx rfl (hb hby at_0) rfl ?_
        show Steps p.tables e below (s₁.setTop (mkF m 1 #[.val (.int p1), .val (.int p2), .val (.int p3), .unset, .unset, .unset, .unset, .unset] [(.int p3)])) _
        refine XS.iconst X0.here hx rfl (hb hby at_1) ?_
        show Steps p.tables e below (s₁.setTop (mkF m 2 #[.val (.int p1), .val (.int p2), .val (.int p3), .unset, .unset, .unset, .unset, .unset] [(.int (3 : Int32)), (.int p3)])) _
        refine XS.iand X0.here hx rfl (hb hby at_2) rfl ?_
        show Steps p.tables e below (s₁.setTop (mkF m 3 #[.val (.int p1), .val (.int p2), .val (.int p3), .unset, .unset, .unset, .unset, .unset] [(.int (p3 &&& (3 : Int32)))])) _
        refine XS.istoreN X0.here hx rfl (hb hby at_3) rfl (l' := #[.val (.int p1), .val (.int p2), .val (.int p3), .val (.int (p3 &&& (3 : Int32))), .unset, .unset, .unset, .unset]) rfl ?_
        show Steps p.tables e below (s₁.setTop (mkF m 4 #[.val (.int p1), .val (.int p2), .val (.int p3), .val (.int (p3 &&& (3 : Int32))), .unset, .unset, .unset, .unset] [])) _
        refine XS.iconst X0.here hx rfl (hb hby at_4) ?_
        show Steps p.tables e below (s₁.setTop (mkF m 5 #[.val (.int p1), .val (.int p2), .val (.int p3), .val (.int (p3 &&& (3 : Int32))), .unset, .unset, .unset, .unset] [(.int (1 : Int32))])) _
        refine XS.iloadN X0.here hx rfl (hb hby at_5) rfl ?_
        show Steps p.tables e below (s₁.setTop (mkF m 6 #[.val (.int p1), .val (.int p2), .val (.int p3), .val (.int (p3 &&& (3 : Int32))), .unset, .unset, .unset, .unset] [(.int p2), (.int (1 : Int32))])) _
        refine XS.bipush X0.here hx rfl (hb hby at_6) ?_
        show Steps p.tables e below (s₁.setTop (mkF m 8 #[.val (.int p1), .val (.int p2), .val (.int p3), .val (.int (p3 &&& (3 : Int32))), .unset, .unset, .unset, .unset] [(.int (31 : Int32)), (.int p2), (.int (1 : Int32))])) _
        refine XS.iand X0.here hx rfl (hb hby at_8) rfl ?_
        show Steps p.tables e below (s₁.setTop (mkF m 9 #[.val (.int p1), .val (.int p2), .val (.int p3), .val (.int (p3 &&& (3 : Int32))), .unset, .unset, .unset, .unset] [(.int (p2 &&& (31 : Int32))), (.int (1 : Int32))])) _
        refine XS.ishl X0.here hx rfl (hb hby at_9) rfl ?_
        show Steps p.tables e below (s₁.setTop (mkF m 10 #[.val (.int p1), .val (.int p2), .val (.int p3), .val (.int (p3 &&& (3 : Int32))), .unset, .unset, .unset, .unset] [(.int ((1 : Int32) <<< ((p2 &&& (31 : Int32)) &&& 31)))])) _
        refine XS.istore X0.here hx rfl (hb hby at_10) rfl (l' := #[.val (.int p1), .val (.int p2), .val (.int p3), .val (.int (p3 &&& (3 : Int32))), .val (.int ((1 : Int32) <<< ((p2 &&& (31 : Int32)) &&& 31))), .unset, .unset, .unset]) rfl ?_
        show Steps p.tables e below (s₁.setTop (mkF m 12 #[.val (.int p1), .val (.int p2), .val (.int p3), .val (.int (p3 &&& (3 : Int32))), .val (.int ((1 : Int32) <<< ((p2 &&& (31 : Int32)) &&& 31))), .unset, .unset, .unset] [])) _
        refine XS.iloadN X0.here hx rfl (hb hby at_12) rfl ?_
        show Steps p.tables e below (s₁.setTop (mkF m 13 #[.val (.int p1), .val (.int p2), .val (.int p3), .val (.int (p3 &&& (3 : Int32))), .val (.int ((1 : Int32) <<< ((p2 &&& (31 : Int32)) &&& 31))), .unset, .unset, .unset] [(.int (p3 &&& (3 : Int32)))])) _
        refine XS.ifNo X0.here hx rfl (hb hby at_13) rfl ((if0 _ _).trans (teq hc1).2) ?_
        show Steps p.tables e below (s₁.setTop (mkF m 16 #[.val (.int p1), .val (.int p2), .val (.int p3), .val (.int (p3 &&& (3 : Int32))), .val (.int ((1 : Int32) <<< ((p2 &&& (31 : Int32)) &&& 31))), .unset, .unset, .unset] [])) _
        refine XS.iloadN X0.here hx rfl (hb hby at_16) rfl ?_
        show Steps p.tables e below (s₁.setTop (mkF m 17 #[.val (.int p1), .val (.int p2), .val (.int p3), .val (.int (p3 &&& (3 : Int32))), .val (.int ((1 : Int32) <<< ((p2 &&& (31 : Int32)) &&& 31))), .unset, .unset, .unset] [(.int p1)])) _
        refine XS.iloadN X0.here hx rfl (hb hby at_17) rfl ?_
        show Steps p.tables e below (s₁.setTop (mkF m 18 #[.val (.int p1), .val (.int p2), .val (.int p3), .val (.int (p3 &&& (3 : Int32))), .val (.int ((1 : Int32) <<< ((p2 &&& (31 : Int32)) &&& 31))), .unset, .unset, .unset] [(.int p2), (.int p1)])) _
        refine XS.iand X0.here hx rfl (hb hby at_18) rfl ?_
        show Steps p.tables e below (s₁.setTop (mkF m 19 #[.val (.int p1), .val (.int p2), .val (.int p3), .val (.int (p3 &&& (3 : Int32))), .val (.int ((1 : Int32) <<< ((p2 &&& (31 : Int32)) &&& 31))), .unset, .unset, .unset] [(.int (p1 &&& p2))])) _
        refine XS.istore X0.here hx rfl (hb hby at_19) rfl (l' := #[.val (.int p1), .val (.int p2), .val (.int p3), .val (.int (p3 &&& (3 : Int32))), .val (.int ((1 : Int32) <<< ((p2 &&& (31 : Int32)) &&& 31))), .val (.int (p1 &&& p2)), .unset, .unset]) rfl ?_
        show Steps p.tables e below (s₁.setTop (mkF m 21 #[.val (.int p1), .val (.int p2), .val (.int p3), .val (.int (p3 &&& (3 : Int32))), .val (.int ((1 : Int32) <<< ((p2 &&& (31 : Int32)) &&& 31))), .val (.int (p1 &&& p2)), .unset, .unset] [])) _
        refine XS.iloadN X0.here hx rfl (hb hby at_21) rfl ?_
        show Steps p.tables e below (s₁.setTop (mkF m 22 #[.val (.int p1), .val (.int p2), .val (.int p3), .val (.int (p3 &&& (3 : Int32))), .val (.int ((1 : Int32) <<< ((p2 &&& (31 : Int32)) &&& 31))), .val (.int (p1 &&& p2)), .unset, .unset] [(.int p1)])) _
        refine XS.istore X0.here hx rfl (hb hby at_22) rfl (l' := #[.val (.int p1), .val (.int p2), .val (.int p3), .val (.int (p3 &&& (3 : Int32))), .val (.int ((1 : Int32) <<< ((p2 &&& (31 : Int32)) &&& 31))), .val (.int (p1 &&& p2)), .val (.int p1), .unset]) rfl ?_
        show Steps p.tables e below (s₁.setTop (mkF m 24 #[.val (.int p1), .val (.int p2), .val (.int p3), .val (.int (p3 &&& (3 : Int32))), .val (.int ((1 : Int32) <<< ((p2 &&& (31 : Int32)) &&& 31))), .val (.int (p1 &&& p2)), .val (.int p1), .unset] [])) _
        refine XS.iloadN X0.here hx rfl (hb hby at_24) rfl ?_
        show Steps p.tables e below (s₁.setTop (mkF m 25 #[.val (.int p1), .val (.int p2), .val (.int p3), .val (.int (p3 &&& (3 : Int32))), .val (.int ((1 : Int32) <<< ((p2 &&& (31 : Int32)) &&& 31))), .val (.int (p1 &&& p2)), .val (.int p1), .unset] [(.int p1)])) _
        refine XS.iloadN X0.here hx rfl (hb hby at_25) rfl ?_
        show Steps p.tables e below (s₁.setTop (mkF m 26 #[.val (.int p1), .val (.int p2), .val (.int p3), .val (.int (p3 &&& (3 : Int32))), .val (.int ((1 : Int32) <<< ((p2 &&& (31 : Int32)) &&& 31))), .val (.int (p1 &&& p2)), .val (.int p1), .unset] [(.int p2), (.int p1)])) _
        refine XS.iconst X0.here hx rfl (hb hby at_26) ?_
        show Steps p.tables e below (s₁.setTop (mkF m 27 #[.val (.int p1), .val (.int p2), .val (.int p3), .val (.int (p3 &&& (3 : Int32))), .val (.int ((1 : Int32) <<< ((p2 &&& (31 : Int32)) &&& 31))), .val (.int (p1 &&& p2)), .val (.int p1), .unset] [(.int (-1 : Int32)), (.int p2), (.int p1)])) _
        refine XS.ixor X0.here hx rfl (hb hby at_27) rfl ?_
        show Steps p.tables e below (s₁.setTop (mkF m 28 #[.val (.int p1), .val (.int p2), .val (.int p3), .val (.int (p3 &&& (3 : Int32))), .val (.int ((1 : Int32) <<< ((p2 &&& (31 : Int32)) &&& 31))), .val (.int (p1 &&& p2)), .val (.int p1), .unset] [(.int (p2 ^^^ (-1 : Int32))), (.int p1)])) _
        refine XS.iand X0.here hx rfl (hb hby at_28) rfl ?_
        show Steps p.tables e below (s₁.setTop (mkF m 29 #[.val (.int p1), .val (.int p2), .val (.int p3), .val (.int (p3 &&& (3 : Int32))), .val (.int ((1 : Int32) <<< ((p2 &&& (31 : Int32)) &&& 31))), .val (.int (p1 &&& p2)), .val (.int p1), .unset] [(.int (p1 &&& (p2 ^^^ (-1 : Int32))))])) _
        refine XS.ifYes X0.here hx rfl (pc0 := 29) (pc' := 36) rfl (hb hby at_29) rfl ((if0 _ _).trans (teq hc2).1) (by decide) (by decide) ?_
        show Steps p.tables e below (s₁.setTop (mkF m 36 #[.val (.int p1), .val (.int p2), .val (.int p3), .val (.int (p3 &&& (3 : Int32))), .val (.int ((1 : Int32) <<< ((p2 &&& (31 : Int32)) &&& 31))), .val (.int (p1 &&& p2)), .val (.int p1), .unset] [])) _
        refine XS.iconst X0.here hx rfl (hb hby at_36) ?_
        show Steps p.tables e below (s₁.setTop (mkF m 37 #[.val (.int p1), .val (.int p2), .val (.int p3), .val (.int (p3 &&& (3 : Int32))), .val (.int ((1 : Int32) <<< ((p2 &&& (31 : Int32)) &&& 31))), .val (.int (p1 &&& p2)), .val (.int p1), .unset] [(.int (0 : Int32))])) _
        refine XS.istore X0.here hx rfl (hb hby at_37) rfl (l' := #[.val (.int p1), .val (.int p2), .val (.int p3), .val (.int (p3 &&& (3 : Int32))), .val (.int ((1 : Int32) <<< ((p2 &&& (31 : Int32)) &&& 31))), .val (.int (p1 &&& p2)), .val (.int p1), .val (.int (0 : Int32))]) rfl ?_
        show Steps p.tables e below (s₁.setTop (mkF m 39 #[.val (.int p1), .val (.int p2), .val (.int p3), .val (.int (p3 &&& (3 : Int32))), .val (.int ((1 : Int32) <<< ((p2 &&& (31 : Int32)) &&& 31))), .val (.int (p1 &&& p2)), .val (.int p1), .val (.int (0 : Int32))] [])) _
        refine XS.goto X0.here hx rfl (pc0 := 39) (pc' := 117) rfl (hb hby at_39) (by decide) (by decide) ?_
        show Steps p.tables e below (s₁.setTop (mkF m 117 #[.val (.int p1), .val (.int p2), .val (.int p3), .val (.int (p3 &&& (3 : Int32))), .val (.int ((1 : Int32) <<< ((p2 &&& (31 : Int32)) &&& 31))), .val (.int (p1 &&& p2)), .val (.int p1), .val (.int (0 : Int32))] [])) _
        refine XS.iload X0.here hx rfl (hb hby at_117) rfl ?_
        show Steps p.tables e below (s₁.setTop (mkF m 119 #[.val (.int p1), .val (.int p2), .val (.int p3), .val (.int (p3 &&& (3 : Int32))), .val (.int ((1 : Int32) <<< ((p2 &&& (31 : Int32)) &&& 31))), .val (.int (p1 &&& p2)), .val (.int p1), .val (.int (0 : Int32))] [(.int (p1 &&& p2))])) _
        refine XS.iload X0.here hx rfl (hb hby at_119) rfl ?_
        show Steps p.tables e below (s₁.setTop (mkF m 121 #[.val (.int p1), .val (.int p2), .val (.int p3), .val (.int (p3 &&& (3 : Int32))), .val (.int ((1 : Int32) <<< ((p2 &&& (31 : Int32)) &&& 31))), .val (.int (p1 &&& p2)), .val (.int p1), .val (.int (0 : Int32))] [(.int p1), (.int (p1 &&& p2))])) _
        refine st1 _ ?_
        show Steps p.tables e below (T1.setTop (mkF m 124 #[.val (.int p1), .val (.int p2), .val (.int p3), .val (.int (p3 &&& (3 : Int32))), .val (.int ((1 : Int32) <<< ((p2 &&& (31 : Int32)) &&& 31))), .val (.int (p1 &&& p2)), .val (.int p1), .val (.int (0 : Int32))] [(.int (own_ps (p1 &&& p2) p1))])) _
        refine XS.iload X1.here hx rfl (hb hby at_124) rfl ?_
        show Steps p.tables e below (T1.setTop (mkF m 126 #[.val (.int p1), .val (.int p2), .val (.int p3), .val (.int (p3 &&& (3 : Int32))), .val (.int ((1 : Int32) <<< ((p2 &&& (31 : Int32)) &&& 31))), .val (.int (p1 &&& p2)), .val (.int p1), .val (.int (0 : Int32))] [(.int (0 : Int32)), (.int (own_ps (p1 &&& p2) p1))])) _
        refine XS.icmpNo X1.here hx rfl (hb hby at_126) rfl (teq (own_m0a hc2)).2 ?_
        show Steps p.tables e below (T1.setTop (mkF m 129 #[.val (.int p1), .val (.int p2), .val (.int p3), .val (.int (p3 &&& (3 : Int32))), .val (.int ((1 : Int32) <<< ((p2 &&& (31 : Int32)) &&& 31))), .val (.int (p1 &&& p2)), .val (.int p1), .val (.int (0 : Int32))] [])) _
        refine XS.iconst X1.here hx rfl (hb hby at_129) ?_
        show Steps p.tables e below (T1.setTop (mkF m 130 #[.val (.int p1), .val (.int p2), .val (.int p3), .val (.int (p3 &&& (3 : Int32))), .val (.int ((1 : Int32) <<< ((p2 &&& (31 : Int32)) &&& 31))), .val (.int (p1 &&& p2)), .val (.int p1), .val (.int (0 : Int32))] [(.int (1 : Int32))])) _
        refine XS.goto X1.here hx rfl (pc0 := 130) (pc' := 134) rfl (hb hby at_130) (by decide) (by decide) ?_
        show Steps p.tables e below (T1.setTop (mkF m 134 #[.val (.int p1), .val (.int p2), .val (.int p3), .val (.int (p3 &&& (3 : Int32))), .val (.int ((1 : Int32) <<< ((p2 &&& (31 : Int32)) &&& 31))), .val (.int (p1 &&& p2)), .val (.int p1), .val (.int (0 : Int32))] [(.int (1 : Int32))])) _
        exact retN X1 hx (t := .boolean) Bd.returns (by simp) (hb hby at_134) hr
      · show Q_rm0 Z p1 p2 p3 h0 n0 _ T1.heap _
        exact ⟨rfl, N1⟩
    · obtain ⟨_, _, ⟨T2, L2, k2, n2⟩, -, X2, ⟨Lc2, hQ2, l2, y2, z2⟩, st2⟩ := Jvm.LawKit.callS X0 hx (y := (⟨"com/example/entropic_join/entropicjoin/VariableSets", "isProperSubset", "(II)Z"⟩ : MethodName)) hown (mvT hZ (hw _ (List.mem_of_getElem? (i := 0) rfl))) (mvT hZ (hw _ (List.mem_of_getElem? (i := 1) rfl))) (mvT hZ (hw _ (List.mem_of_getElem? (i := 2) rfl))) (mvT hZ (hw _ (List.mem_of_getElem? (i := 3) rfl))) (by decide) (backOf (W := 0) (rm_ps l Z a0 hw [] (p1 &&& p2) p1 h0 n0 Z0) hZ (hw _ (List.mem_of_getElem? (i := 3) rfl)) (hw _ (List.mem_of_getElem? (i := 2) rfl)) (by decide) (by decide)) (g := (mkF m 121 #[.val (.int p1), .val (.int p2), .val (.int p3), .val (.int (p3 &&& (3 : Int32))), .val (.int ((1 : Int32) <<< ((p2 &&& (31 : Int32)) &&& 31))), .val (.int (p1 &&& p2)), .val (.int p1), .val (.int (1 : Int32))] [(.int p1), (.int (p1 &&& p2))])) rfl (by rw [hml]; rfl) (argsL := [(.int (p1 &&& p2)), (.int p1)]) (rest := []) (lenOf pd__40II_41Z rfl) rfl (by show 2 * 0 + _ ≤ _; exact Nat.le_of_eq rfl) (hb hby at_121) (fun _ _ => ⟨rfl, e0, (by decide : 0 + 0 ≤ _), (by decide : 0 + 0 ≤ _)⟩)
      dsimp only [Pt.U, Pt.locs, Pt.cells, Pt.slots] at X2 l2 y2 z2 st2 hQ2
      subst l2 y2 z2
      obtain ⟨rfl, Nq2, e2⟩ := hQ2
      have N2 := Fr.app N0 Nq2
      obtain ⟨fs, hr, hrun, hended, hW, hsame⟩ := X2.leave (v := some (.int (1 : Int32))) (fun h => by rw [Bd.returns] at h; cases h)
      refine ⟨_, _, pre0 _ ?_, hrun, hended, _, _, rfl, ?_, ⟨_, rfl⟩, hW, hsame.mono (by decide) (by decide)⟩
      · show Steps p.tables e below (s₁.setTop (mkF m 0 #[.val (.int p1), .val (.int p2), .val (.int p3), .unset, .unset, .unset, .unset, .unset] [])) _
        refine XS.iloadN X0.here hx rfl (hb hby at_0) rfl ?_
        show Steps p.tables e below (s₁.setTop (mkF m 1 #[.val (.int p1), .val (.int p2), .val (.int p3), .unset, .unset, .unset, .unset, .unset] [(.int p3)])) _
        refine XS.iconst X0.here hx rfl (hb hby at_1) ?_
        show Steps p.tables e below (s₁.setTop (mkF m 2 #[.val (.int p1), .val (.int p2), .val (.int p3), .unset, .unset, .unset, .unset, .unset] [(.int (3 : Int32)), (.int p3)])) _
        refine XS.iand X0.here hx rfl (hb hby at_2) rfl ?_
        show Steps p.tables e below (s₁.setTop (mkF m 3 #[.val (.int p1), .val (.int p2), .val (.int p3), .unset, .unset, .unset, .unset, .unset] [(.int (p3 &&& (3 : Int32)))])) _
        refine XS.istoreN X0.here hx rfl (hb hby at_3) rfl (l' := #[.val (.int p1), .val (.int p2), .val (.int p3), .val (.int (p3 &&& (3 : Int32))), .unset, .unset, .unset, .unset]) rfl ?_
        show Steps p.tables e below (s₁.setTop (mkF m 4 #[.val (.int p1), .val (.int p2), .val (.int p3), .val (.int (p3 &&& (3 : Int32))), .unset, .unset, .unset, .unset] [])) _
        refine XS.iconst X0.here hx rfl (hb hby at_4) ?_
        show Steps p.tables e below (s₁.setTop (mkF m 5 #[.val (.int p1), .val (.int p2), .val (.int p3), .val (.int (p3 &&& (3 : Int32))), .unset, .unset, .unset, .unset] [(.int (1 : Int32))])) _
        refine XS.iloadN X0.here hx rfl (hb hby at_5) rfl ?_
        show Steps p.tables e below (s₁.setTop (mkF m 6 #[.val (.int p1), .val (.int p2), .val (.int p3), .val (.int (p3 &&& (3 : Int32))), .unset, .unset, .unset, .unset] [(.int p2), (.int (1 : Int32))])) _
        refine XS.bipush X0.here hx rfl (hb hby at_6) ?_
        show Steps p.tables e below (s₁.setTop (mkF m 8 #[.val (.int p1), .val (.int p2), .val (.int p3), .val (.int (p3 &&& (3 : Int32))), .unset, .unset, .unset, .unset] [(.int (31 : Int32)), (.int p2), (.int (1 : Int32))])) _
        refine XS.iand X0.here hx rfl (hb hby at_8) rfl ?_
        show Steps p.tables e below (s₁.setTop (mkF m 9 #[.val (.int p1), .val (.int p2), .val (.int p3), .val (.int (p3 &&& (3 : Int32))), .unset, .unset, .unset, .unset] [(.int (p2 &&& (31 : Int32))), (.int (1 : Int32))])) _
        refine XS.ishl X0.here hx rfl (hb hby at_9) rfl ?_
        show Steps p.tables e below (s₁.setTop (mkF m 10 #[.val (.int p1), .val (.int p2), .val (.int p3), .val (.int (p3 &&& (3 : Int32))), .unset, .unset, .unset, .unset] [(.int ((1 : Int32) <<< ((p2 &&& (31 : Int32)) &&& 31)))])) _
        refine XS.istore X0.here hx rfl (hb hby at_10) rfl (l' := #[.val (.int p1), .val (.int p2), .val (.int p3), .val (.int (p3 &&& (3 : Int32))), .val (.int ((1 : Int32) <<< ((p2 &&& (31 : Int32)) &&& 31))), .unset, .unset, .unset]) rfl ?_
        show Steps p.tables e below (s₁.setTop (mkF m 12 #[.val (.int p1), .val (.int p2), .val (.int p3), .val (.int (p3 &&& (3 : Int32))), .val (.int ((1 : Int32) <<< ((p2 &&& (31 : Int32)) &&& 31))), .unset, .unset, .unset] [])) _
        refine XS.iloadN X0.here hx rfl (hb hby at_12) rfl ?_
        show Steps p.tables e below (s₁.setTop (mkF m 13 #[.val (.int p1), .val (.int p2), .val (.int p3), .val (.int (p3 &&& (3 : Int32))), .val (.int ((1 : Int32) <<< ((p2 &&& (31 : Int32)) &&& 31))), .unset, .unset, .unset] [(.int (p3 &&& (3 : Int32)))])) _
        refine XS.ifNo X0.here hx rfl (hb hby at_13) rfl ((if0 _ _).trans (teq hc1).2) ?_
        show Steps p.tables e below (s₁.setTop (mkF m 16 #[.val (.int p1), .val (.int p2), .val (.int p3), .val (.int (p3 &&& (3 : Int32))), .val (.int ((1 : Int32) <<< ((p2 &&& (31 : Int32)) &&& 31))), .unset, .unset, .unset] [])) _
        refine XS.iloadN X0.here hx rfl (hb hby at_16) rfl ?_
        show Steps p.tables e below (s₁.setTop (mkF m 17 #[.val (.int p1), .val (.int p2), .val (.int p3), .val (.int (p3 &&& (3 : Int32))), .val (.int ((1 : Int32) <<< ((p2 &&& (31 : Int32)) &&& 31))), .unset, .unset, .unset] [(.int p1)])) _
        refine XS.iloadN X0.here hx rfl (hb hby at_17) rfl ?_
        show Steps p.tables e below (s₁.setTop (mkF m 18 #[.val (.int p1), .val (.int p2), .val (.int p3), .val (.int (p3 &&& (3 : Int32))), .val (.int ((1 : Int32) <<< ((p2 &&& (31 : Int32)) &&& 31))), .unset, .unset, .unset] [(.int p2), (.int p1)])) _
        refine XS.iand X0.here hx rfl (hb hby at_18) rfl ?_
        show Steps p.tables e below (s₁.setTop (mkF m 19 #[.val (.int p1), .val (.int p2), .val (.int p3), .val (.int (p3 &&& (3 : Int32))), .val (.int ((1 : Int32) <<< ((p2 &&& (31 : Int32)) &&& 31))), .unset, .unset, .unset] [(.int (p1 &&& p2))])) _
        refine XS.istore X0.here hx rfl (hb hby at_19) rfl (l' := #[.val (.int p1), .val (.int p2), .val (.int p3), .val (.int (p3 &&& (3 : Int32))), .val (.int ((1 : Int32) <<< ((p2 &&& (31 : Int32)) &&& 31))), .val (.int (p1 &&& p2)), .unset, .unset]) rfl ?_
        show Steps p.tables e below (s₁.setTop (mkF m 21 #[.val (.int p1), .val (.int p2), .val (.int p3), .val (.int (p3 &&& (3 : Int32))), .val (.int ((1 : Int32) <<< ((p2 &&& (31 : Int32)) &&& 31))), .val (.int (p1 &&& p2)), .unset, .unset] [])) _
        refine XS.iloadN X0.here hx rfl (hb hby at_21) rfl ?_
        show Steps p.tables e below (s₁.setTop (mkF m 22 #[.val (.int p1), .val (.int p2), .val (.int p3), .val (.int (p3 &&& (3 : Int32))), .val (.int ((1 : Int32) <<< ((p2 &&& (31 : Int32)) &&& 31))), .val (.int (p1 &&& p2)), .unset, .unset] [(.int p1)])) _
        refine XS.istore X0.here hx rfl (hb hby at_22) rfl (l' := #[.val (.int p1), .val (.int p2), .val (.int p3), .val (.int (p3 &&& (3 : Int32))), .val (.int ((1 : Int32) <<< ((p2 &&& (31 : Int32)) &&& 31))), .val (.int (p1 &&& p2)), .val (.int p1), .unset]) rfl ?_
        show Steps p.tables e below (s₁.setTop (mkF m 24 #[.val (.int p1), .val (.int p2), .val (.int p3), .val (.int (p3 &&& (3 : Int32))), .val (.int ((1 : Int32) <<< ((p2 &&& (31 : Int32)) &&& 31))), .val (.int (p1 &&& p2)), .val (.int p1), .unset] [])) _
        refine XS.iloadN X0.here hx rfl (hb hby at_24) rfl ?_
        show Steps p.tables e below (s₁.setTop (mkF m 25 #[.val (.int p1), .val (.int p2), .val (.int p3), .val (.int (p3 &&& (3 : Int32))), .val (.int ((1 : Int32) <<< ((p2 &&& (31 : Int32)) &&& 31))), .val (.int (p1 &&& p2)), .val (.int p1), .unset] [(.int p1)])) _
        refine XS.iloadN X0.here hx rfl (hb hby at_25) rfl ?_
        show Steps p.tables e below (s₁.setTop (mkF m 26 #[.val (.int p1), .val (.int p2), .val (.int p3), .val (.int (p3 &&& (3 : Int32))), .val (.int ((1 : Int32) <<< ((p2 &&& (31 : Int32)) &&& 31))), .val (.int (p1 &&& p2)), .val (.int p1), .unset] [(.int p2), (.int p1)])) _
        refine XS.iconst X0.here hx rfl (hb hby at_26) ?_
        show Steps p.tables e below (s₁.setTop (mkF m 27 #[.val (.int p1), .val (.int p2), .val (.int p3), .val (.int (p3 &&& (3 : Int32))), .val (.int ((1 : Int32) <<< ((p2 &&& (31 : Int32)) &&& 31))), .val (.int (p1 &&& p2)), .val (.int p1), .unset] [(.int (-1 : Int32)), (.int p2), (.int p1)])) _
        refine XS.ixor X0.here hx rfl (hb hby at_27) rfl ?_
        show Steps p.tables e below (s₁.setTop (mkF m 28 #[.val (.int p1), .val (.int p2), .val (.int p3), .val (.int (p3 &&& (3 : Int32))), .val (.int ((1 : Int32) <<< ((p2 &&& (31 : Int32)) &&& 31))), .val (.int (p1 &&& p2)), .val (.int p1), .unset] [(.int (p2 ^^^ (-1 : Int32))), (.int p1)])) _
        refine XS.iand X0.here hx rfl (hb hby at_28) rfl ?_
        show Steps p.tables e below (s₁.setTop (mkF m 29 #[.val (.int p1), .val (.int p2), .val (.int p3), .val (.int (p3 &&& (3 : Int32))), .val (.int ((1 : Int32) <<< ((p2 &&& (31 : Int32)) &&& 31))), .val (.int (p1 &&& p2)), .val (.int p1), .unset] [(.int (p1 &&& (p2 ^^^ (-1 : Int32))))])) _
        refine XS.ifNo X0.here hx rfl (hb hby at_29) rfl ((if0 _ _).trans (feq hc2).1) ?_
        show Steps p.tables e below (s₁.setTop (mkF m 32 #[.val (.int p1), .val (.int p2), .val (.int p3), .val (.int (p3 &&& (3 : Int32))), .val (.int ((1 : Int32) <<< ((p2 &&& (31 : Int32)) &&& 31))), .val (.int (p1 &&& p2)), .val (.int p1), .unset] [])) _
        refine XS.iconst X0.here hx rfl (hb hby at_32) ?_
        show Steps p.tables e below (s₁.setTop (mkF m 33 #[.val (.int p1), .val (.int p2), .val (.int p3), .val (.int (p3 &&& (3 : Int32))), .val (.int ((1 : Int32) <<< ((p2 &&& (31 : Int32)) &&& 31))), .val (.int (p1 &&& p2)), .val (.int p1), .unset] [(.int (1 : Int32))])) _
        refine XS.goto X0.here hx rfl (pc0 := 33) (pc' := 37) rfl (hb hby at_33) (by decide) (by decide) ?_
        show Steps p.tables e below (s₁.setTop (mkF m 37 #[.val (.int p1), .val (.int p2), .val (.int p3), .val (.int (p3 &&& (3 : Int32))), .val (.int ((1 : Int32) <<< ((p2 &&& (31 : Int32)) &&& 31))), .val (.int (p1 &&& p2)), .val (.int p1), .unset] [(.int (1 : Int32))])) _
        refine XS.istore X0.here hx rfl (hb hby at_37) rfl (l' := #[.val (.int p1), .val (.int p2), .val (.int p3), .val (.int (p3 &&& (3 : Int32))), .val (.int ((1 : Int32) <<< ((p2 &&& (31 : Int32)) &&& 31))), .val (.int (p1 &&& p2)), .val (.int p1), .val (.int (1 : Int32))]) rfl ?_
        show Steps p.tables e below (s₁.setTop (mkF m 39 #[.val (.int p1), .val (.int p2), .val (.int p3), .val (.int (p3 &&& (3 : Int32))), .val (.int ((1 : Int32) <<< ((p2 &&& (31 : Int32)) &&& 31))), .val (.int (p1 &&& p2)), .val (.int p1), .val (.int (1 : Int32))] [])) _
        refine XS.goto X0.here hx rfl (pc0 := 39) (pc' := 117) rfl (hb hby at_39) (by decide) (by decide) ?_
        show Steps p.tables e below (s₁.setTop (mkF m 117 #[.val (.int p1), .val (.int p2), .val (.int p3), .val (.int (p3 &&& (3 : Int32))), .val (.int ((1 : Int32) <<< ((p2 &&& (31 : Int32)) &&& 31))), .val (.int (p1 &&& p2)), .val (.int p1), .val (.int (1 : Int32))] [])) _
        refine XS.iload X0.here hx rfl (hb hby at_117) rfl ?_
        show Steps p.tables e below (s₁.setTop (mkF m 119 #[.val (.int p1), .val (.int p2), .val (.int p3), .val (.int (p3 &&& (3 : Int32))), .val (.int ((1 : Int32) <<< ((p2 &&& (31 : Int32)) &&& 31))), .val (.int (p1 &&& p2)), .val (.int p1), .val (.int (1 : Int32))] [(.int (p1 &&& p2))])) _
        refine XS.iload X0.here hx rfl (hb hby at_119) rfl ?_
        show Steps p.tables e below (s₁.setTop (mkF m 121 #[.val (.int p1), .val (.int p2), .val (.int p3), .val (.int (p3 &&& (3 : Int32))), .val (.int ((1 : Int32) <<< ((p2 &&& (31 : Int32)) &&& 31))), .val (.int (p1 &&& p2)), .val (.int p1), .val (.int (1 : Int32))] [(.int p1), (.int (p1 &&& p2))])) _
        refine st2 _ ?_
        show Steps p.tables e below (T2.setTop (mkF m 124 #[.val (.int p1), .val (.int p2), .val (.int p3), .val (.int (p3 &&& (3 : Int32))), .val (.int ((1 : Int32) <<< ((p2 &&& (31 : Int32)) &&& 31))), .val (.int (p1 &&& p2)), .val (.int p1), .val (.int (1 : Int32))] [(.int (own_ps (p1 &&& p2) p1))])) _
        refine XS.iload X2.here hx rfl (hb hby at_124) rfl ?_
        show Steps p.tables e below (T2.setTop (mkF m 126 #[.val (.int p1), .val (.int p2), .val (.int p3), .val (.int (p3 &&& (3 : Int32))), .val (.int ((1 : Int32) <<< ((p2 &&& (31 : Int32)) &&& 31))), .val (.int (p1 &&& p2)), .val (.int p1), .val (.int (1 : Int32))] [(.int (1 : Int32)), (.int (own_ps (p1 &&& p2) p1))])) _
        refine XS.icmpNo X2.here hx rfl (hb hby at_126) rfl (teq (own_m0b hc2)).2 ?_
        show Steps p.tables e below (T2.setTop (mkF m 129 #[.val (.int p1), .val (.int p2), .val (.int p3), .val (.int (p3 &&& (3 : Int32))), .val (.int ((1 : Int32) <<< ((p2 &&& (31 : Int32)) &&& 31))), .val (.int (p1 &&& p2)), .val (.int p1), .val (.int (1 : Int32))] [])) _
        refine XS.iconst X2.here hx rfl (hb hby at_129) ?_
        show Steps p.tables e below (T2.setTop (mkF m 130 #[.val (.int p1), .val (.int p2), .val (.int p3), .val (.int (p3 &&& (3 : Int32))), .val (.int ((1 : Int32) <<< ((p2 &&& (31 : Int32)) &&& 31))), .val (.int (p1 &&& p2)), .val (.int p1), .val (.int (1 : Int32))] [(.int (1 : Int32))])) _
        refine XS.goto X2.here hx rfl (pc0 := 130) (pc' := 134) rfl (hb hby at_130) (by decide) (by decide) ?_
        show Steps p.tables e below (T2.setTop (mkF m 134 #[.val (.int p1), .val (.int p2), .val (.int p3), .val (.int (p3 &&& (3 : Int32))), .val (.int ((1 : Int32) <<< ((p2 &&& (31 : Int32)) &&& 31))), .val (.int (p1 &&& p2)), .val (.int p1), .val (.int (1 : Int32))] [(.int (1 : Int32))])) _
        exact retN X2 hx (t := .boolean) Bd.returns (by simp) (hb hby at_134) hr
      · show Q_rm0 Z p1 p2 p3 h0 n0 _ T2.heap _
        exact ⟨rfl, N2⟩
  · by_cases hc3 : (p3 &&& (3 : Int32)) = (1 : Int32)
    · obtain ⟨_, _, ⟨T3, L3, k3, n3⟩, -, X3, ⟨Lc3, hQ3, l3, y3, z3⟩, st3⟩ := Jvm.LawKit.callS X0 hx (y := (⟨"com/example/entropic_join/entropicjoin/VariableSets", "isProperSubset", "(II)Z"⟩ : MethodName)) hown (mvT hZ (hw _ (List.mem_of_getElem? (i := 0) rfl))) (mvT hZ (hw _ (List.mem_of_getElem? (i := 1) rfl))) (mvT hZ (hw _ (List.mem_of_getElem? (i := 2) rfl))) (mvT hZ (hw _ (List.mem_of_getElem? (i := 3) rfl))) (by decide) (backOf (W := 0) (rm_ps l Z a0 hw [] p1 p1 h0 n0 Z0) hZ (hw _ (List.mem_of_getElem? (i := 3) rfl)) (hw _ (List.mem_of_getElem? (i := 2) rfl)) (by decide) (by decide)) (g := (mkF m 121 #[.val (.int p1), .val (.int p2), .val (.int p3), .val (.int (p3 &&& (3 : Int32))), .val (.int ((1 : Int32) <<< ((p2 &&& (31 : Int32)) &&& 31))), .val (.int p1), .val (.int p1), .val (.int (0 : Int32))] [(.int p1), (.int p1)])) rfl (by rw [hml]; rfl) (argsL := [(.int p1), (.int p1)]) (rest := []) (lenOf pd__40II_41Z rfl) rfl (by show 2 * 0 + _ ≤ _; exact Nat.le_of_eq rfl) (hb hby at_121) (fun _ _ => ⟨rfl, e0, (by decide : 0 + 0 ≤ _), (by decide : 0 + 0 ≤ _)⟩)
      dsimp only [Pt.U, Pt.locs, Pt.cells, Pt.slots] at X3 l3 y3 z3 st3 hQ3
      subst l3 y3 z3
      obtain ⟨rfl, Nq3, e3⟩ := hQ3
      have N3 := Fr.app N0 Nq3
      obtain ⟨fs, hr, hrun, hended, hW, hsame⟩ := X3.leave (v := some (.int (1 : Int32))) (fun h => by rw [Bd.returns] at h; cases h)
      refine ⟨_, _, pre0 _ ?_, hrun, hended, _, _, rfl, ?_, ⟨_, rfl⟩, hW, hsame.mono (by decide) (by decide)⟩
      · show Steps p.tables e below (s₁.setTop (mkF m 0 #[.val (.int p1), .val (.int p2), .val (.int p3), .unset, .unset, .unset, .unset, .unset] [])) _
        refine XS.iloadN X0.here hx rfl (hb hby at_0) rfl ?_
        show Steps p.tables e below (s₁.setTop (mkF m 1 #[.val (.int p1), .val (.int p2), .val (.int p3), .unset, .unset, .unset, .unset, .unset] [(.int p3)])) _
        refine XS.iconst X0.here hx rfl (hb hby at_1) ?_
        show Steps p.tables e below (s₁.setTop (mkF m 2 #[.val (.int p1), .val (.int p2), .val (.int p3), .unset, .unset, .unset, .unset, .unset] [(.int (3 : Int32)), (.int p3)])) _
        refine XS.iand X0.here hx rfl (hb hby at_2) rfl ?_
        show Steps p.tables e below (s₁.setTop (mkF m 3 #[.val (.int p1), .val (.int p2), .val (.int p3), .unset, .unset, .unset, .unset, .unset] [(.int (p3 &&& (3 : Int32)))])) _
        refine XS.istoreN X0.here hx rfl (hb hby at_3) rfl (l' := #[.val (.int p1), .val (.int p2), .val (.int p3), .val (.int (p3 &&& (3 : Int32))), .unset, .unset, .unset, .unset]) rfl ?_
        show Steps p.tables e below (s₁.setTop (mkF m 4 #[.val (.int p1), .val (.int p2), .val (.int p3), .val (.int (p3 &&& (3 : Int32))), .unset, .unset, .unset, .unset] [])) _
        refine XS.iconst X0.here hx rfl (hb hby at_4) ?_
        show Steps p.tables e below (s₁.setTop (mkF m 5 #[.val (.int p1), .val (.int p2), .val (.int p3), .val (.int (p3 &&& (3 : Int32))), .unset, .unset, .unset, .unset] [(.int (1 : Int32))])) _
        refine XS.iloadN X0.here hx rfl (hb hby at_5) rfl ?_
        show Steps p.tables e below (s₁.setTop (mkF m 6 #[.val (.int p1), .val (.int p2), .val (.int p3), .val (.int (p3 &&& (3 : Int32))), .unset, .unset, .unset, .unset] [(.int p2), (.int (1 : Int32))])) _
        refine XS.bipush X0.here hx rfl (hb hby at_6) ?_
        show Steps p.tables e below (s₁.setTop (mkF m 8 #[.val (.int p1), .val (.int p2), .val (.int p3), .val (.int (p3 &&& (3 : Int32))), .unset, .unset, .unset, .unset] [(.int (31 : Int32)), (.int p2), (.int (1 : Int32))])) _
        refine XS.iand X0.here hx rfl (hb hby at_8) rfl ?_
        show Steps p.tables e below (s₁.setTop (mkF m 9 #[.val (.int p1), .val (.int p2), .val (.int p3), .val (.int (p3 &&& (3 : Int32))), .unset, .unset, .unset, .unset] [(.int (p2 &&& (31 : Int32))), (.int (1 : Int32))])) _
        refine XS.ishl X0.here hx rfl (hb hby at_9) rfl ?_
        show Steps p.tables e below (s₁.setTop (mkF m 10 #[.val (.int p1), .val (.int p2), .val (.int p3), .val (.int (p3 &&& (3 : Int32))), .unset, .unset, .unset, .unset] [(.int ((1 : Int32) <<< ((p2 &&& (31 : Int32)) &&& 31)))])) _
        refine XS.istore X0.here hx rfl (hb hby at_10) rfl (l' := #[.val (.int p1), .val (.int p2), .val (.int p3), .val (.int (p3 &&& (3 : Int32))), .val (.int ((1 : Int32) <<< ((p2 &&& (31 : Int32)) &&& 31))), .unset, .unset, .unset]) rfl ?_
        show Steps p.tables e below (s₁.setTop (mkF m 12 #[.val (.int p1), .val (.int p2), .val (.int p3), .val (.int (p3 &&& (3 : Int32))), .val (.int ((1 : Int32) <<< ((p2 &&& (31 : Int32)) &&& 31))), .unset, .unset, .unset] [])) _
        refine XS.iloadN X0.here hx rfl (hb hby at_12) rfl ?_
        show Steps p.tables e below (s₁.setTop (mkF m 13 #[.val (.int p1), .val (.int p2), .val (.int p3), .val (.int (p3 &&& (3 : Int32))), .val (.int ((1 : Int32) <<< ((p2 &&& (31 : Int32)) &&& 31))), .unset, .unset, .unset] [(.int (p3 &&& (3 : Int32)))])) _
        refine XS.ifYes X0.here hx rfl (pc0 := 13) (pc' := 42) rfl (hb hby at_13) rfl ((if0 _ _).trans (feq hc1).2) (by decide) (by decide) ?_
        show Steps p.tables e below (s₁.setTop (mkF m 42 #[.val (.int p1), .val (.int p2), .val (.int p3), .val (.int (p3 &&& (3 : Int32))), .val (.int ((1 : Int32) <<< ((p2 &&& (31 : Int32)) &&& 31))), .unset, .unset, .unset] [])) _
        refine XS.iloadN X0.here hx rfl (hb hby at_42) rfl ?_
        show Steps p.tables e below (s₁.setTop (mkF m 43 #[.val (.int p1), .val (.int p2), .val (.int p3), .val (.int (p3 &&& (3 : Int32))), .val (.int ((1 : Int32) <<< ((p2 &&& (31 : Int32)) &&& 31))), .unset, .unset, .unset] [(.int (p3 &&& (3 : Int32)))])) _
        refine XS.iconst X0.here hx rfl (hb hby at_43) ?_
        show Steps p.tables e below (s₁.setTop (mkF m 44 #[.val (.int p1), .val (.int p2), .val (.int p3), .val (.int (p3 &&& (3 : Int32))), .val (.int ((1 : Int32) <<< ((p2 &&& (31 : Int32)) &&& 31))), .unset, .unset, .unset] [(.int (1 : Int32)), (.int (p3 &&& (3 : Int32)))])) _
        refine XS.icmpNo X0.here hx rfl (hb hby at_44) rfl (teq hc3).2 ?_
        show Steps p.tables e below (s₁.setTop (mkF m 47 #[.val (.int p1), .val (.int p2), .val (.int p3), .val (.int (p3 &&& (3 : Int32))), .val (.int ((1 : Int32) <<< ((p2 &&& (31 : Int32)) &&& 31))), .unset, .unset, .unset] [])) _
        refine XS.iloadN X0.here hx rfl (hb hby at_47) rfl ?_
        show Steps p.tables e below (s₁.setTop (mkF m 48 #[.val (.int p1), .val (.int p2), .val (.int p3), .val (.int (p3 &&& (3 : Int32))), .val (.int ((1 : Int32) <<< ((p2 &&& (31 : Int32)) &&& 31))), .unset, .unset, .unset] [(.int p1)])) _
        refine XS.istore X0.here hx rfl (hb hby at_48) rfl (l' := #[.val (.int p1), .val (.int p2), .val (.int p3), .val (.int (p3 &&& (3 : Int32))), .val (.int ((1 : Int32) <<< ((p2 &&& (31 : Int32)) &&& 31))), .val (.int p1), .unset, .unset]) rfl ?_
        show Steps p.tables e below (s₁.setTop (mkF m 50 #[.val (.int p1), .val (.int p2), .val (.int p3), .val (.int (p3 &&& (3 : Int32))), .val (.int ((1 : Int32) <<< ((p2 &&& (31 : Int32)) &&& 31))), .val (.int p1), .unset, .unset] [])) _
        refine XS.iloadN X0.here hx rfl (hb hby at_50) rfl ?_
        show Steps p.tables e below (s₁.setTop (mkF m 51 #[.val (.int p1), .val (.int p2), .val (.int p3), .val (.int (p3 &&& (3 : Int32))), .val (.int ((1 : Int32) <<< ((p2 &&& (31 : Int32)) &&& 31))), .val (.int p1), .unset, .unset] [(.int p1)])) _
        refine XS.istore X0.here hx rfl (hb hby at_51) rfl (l' := #[.val (.int p1), .val (.int p2), .val (.int p3), .val (.int (p3 &&& (3 : Int32))), .val (.int ((1 : Int32) <<< ((p2 &&& (31 : Int32)) &&& 31))), .val (.int p1), .val (.int p1), .unset]) rfl ?_
        show Steps p.tables e below (s₁.setTop (mkF m 53 #[.val (.int p1), .val (.int p2), .val (.int p3), .val (.int (p3 &&& (3 : Int32))), .val (.int ((1 : Int32) <<< ((p2 &&& (31 : Int32)) &&& 31))), .val (.int p1), .val (.int p1), .unset] [])) _
        refine XS.iconst X0.here hx rfl (hb hby at_53) ?_
        show Steps p.tables e below (s₁.setTop (mkF m 54 #[.val (.int p1), .val (.int p2), .val (.int p3), .val (.int (p3 &&& (3 : Int32))), .val (.int ((1 : Int32) <<< ((p2 &&& (31 : Int32)) &&& 31))), .val (.int p1), .val (.int p1), .unset] [(.int (0 : Int32))])) _
        refine XS.istore X0.here hx rfl (hb hby at_54) rfl (l' := #[.val (.int p1), .val (.int p2), .val (.int p3), .val (.int (p3 &&& (3 : Int32))), .val (.int ((1 : Int32) <<< ((p2 &&& (31 : Int32)) &&& 31))), .val (.int p1), .val (.int p1), .val (.int (0 : Int32))]) rfl ?_
        show Steps p.tables e below (s₁.setTop (mkF m 56 #[.val (.int p1), .val (.int p2), .val (.int p3), .val (.int (p3 &&& (3 : Int32))), .val (.int ((1 : Int32) <<< ((p2 &&& (31 : Int32)) &&& 31))), .val (.int p1), .val (.int p1), .val (.int (0 : Int32))] [])) _
        refine XS.goto X0.here hx rfl (pc0 := 56) (pc' := 117) rfl (hb hby at_56) (by decide) (by decide) ?_
        show Steps p.tables e below (s₁.setTop (mkF m 117 #[.val (.int p1), .val (.int p2), .val (.int p3), .val (.int (p3 &&& (3 : Int32))), .val (.int ((1 : Int32) <<< ((p2 &&& (31 : Int32)) &&& 31))), .val (.int p1), .val (.int p1), .val (.int (0 : Int32))] [])) _
        refine XS.iload X0.here hx rfl (hb hby at_117) rfl ?_
        show Steps p.tables e below (s₁.setTop (mkF m 119 #[.val (.int p1), .val (.int p2), .val (.int p3), .val (.int (p3 &&& (3 : Int32))), .val (.int ((1 : Int32) <<< ((p2 &&& (31 : Int32)) &&& 31))), .val (.int p1), .val (.int p1), .val (.int (0 : Int32))] [(.int p1)])) _
        refine XS.iload X0.here hx rfl (hb hby at_119) rfl ?_
        show Steps p.tables e below (s₁.setTop (mkF m 121 #[.val (.int p1), .val (.int p2), .val (.int p3), .val (.int (p3 &&& (3 : Int32))), .val (.int ((1 : Int32) <<< ((p2 &&& (31 : Int32)) &&& 31))), .val (.int p1), .val (.int p1), .val (.int (0 : Int32))] [(.int p1), (.int p1)])) _
        refine st3 _ ?_
        show Steps p.tables e below (T3.setTop (mkF m 124 #[.val (.int p1), .val (.int p2), .val (.int p3), .val (.int (p3 &&& (3 : Int32))), .val (.int ((1 : Int32) <<< ((p2 &&& (31 : Int32)) &&& 31))), .val (.int p1), .val (.int p1), .val (.int (0 : Int32))] [(.int (own_ps p1 p1))])) _
        refine XS.iload X3.here hx rfl (hb hby at_124) rfl ?_
        show Steps p.tables e below (T3.setTop (mkF m 126 #[.val (.int p1), .val (.int p2), .val (.int p3), .val (.int (p3 &&& (3 : Int32))), .val (.int ((1 : Int32) <<< ((p2 &&& (31 : Int32)) &&& 31))), .val (.int p1), .val (.int p1), .val (.int (0 : Int32))] [(.int (0 : Int32)), (.int (own_ps p1 p1))])) _
        refine XS.icmpNo X3.here hx rfl (hb hby at_126) rfl (teq (own_m1 p1)).2 ?_
        show Steps p.tables e below (T3.setTop (mkF m 129 #[.val (.int p1), .val (.int p2), .val (.int p3), .val (.int (p3 &&& (3 : Int32))), .val (.int ((1 : Int32) <<< ((p2 &&& (31 : Int32)) &&& 31))), .val (.int p1), .val (.int p1), .val (.int (0 : Int32))] [])) _
        refine XS.iconst X3.here hx rfl (hb hby at_129) ?_
        show Steps p.tables e below (T3.setTop (mkF m 130 #[.val (.int p1), .val (.int p2), .val (.int p3), .val (.int (p3 &&& (3 : Int32))), .val (.int ((1 : Int32) <<< ((p2 &&& (31 : Int32)) &&& 31))), .val (.int p1), .val (.int p1), .val (.int (0 : Int32))] [(.int (1 : Int32))])) _
        refine XS.goto X3.here hx rfl (pc0 := 130) (pc' := 134) rfl (hb hby at_130) (by decide) (by decide) ?_
        show Steps p.tables e below (T3.setTop (mkF m 134 #[.val (.int p1), .val (.int p2), .val (.int p3), .val (.int (p3 &&& (3 : Int32))), .val (.int ((1 : Int32) <<< ((p2 &&& (31 : Int32)) &&& 31))), .val (.int p1), .val (.int p1), .val (.int (0 : Int32))] [(.int (1 : Int32))])) _
        exact retN X3 hx (t := .boolean) Bd.returns (by simp) (hb hby at_134) hr
      · show Q_rm0 Z p1 p2 p3 h0 n0 _ T3.heap _
        exact ⟨rfl, N3⟩
    · by_cases hc4 : (p3 &&& (3 : Int32)) = (2 : Int32)
      · by_cases hc5 : (p1 &&& ((1 : Int32) <<< ((p2 &&& (31 : Int32)) &&& 31))) = (0 : Int32)
        · obtain ⟨_, _, ⟨T4, L4, k4, n4⟩, -, X4, ⟨Lc4, hQ4, l4, y4, z4⟩, st4⟩ := Jvm.LawKit.callS X0 hx (y := (⟨"com/example/entropic_join/entropicjoin/VariableSets", "isProperSubset", "(II)Z"⟩ : MethodName)) hown (mvT hZ (hw _ (List.mem_of_getElem? (i := 0) rfl))) (mvT hZ (hw _ (List.mem_of_getElem? (i := 1) rfl))) (mvT hZ (hw _ (List.mem_of_getElem? (i := 2) rfl))) (mvT hZ (hw _ (List.mem_of_getElem? (i := 3) rfl))) (by decide) (backOf (W := 0) (rm_ps l Z a0 hw [] (p1 &&& (((1 : Int32) <<< ((p2 &&& (31 : Int32)) &&& 31)) ^^^ (-1 : Int32))) p1 h0 n0 Z0) hZ (hw _ (List.mem_of_getElem? (i := 3) rfl)) (hw _ (List.mem_of_getElem? (i := 2) rfl)) (by decide) (by decide)) (g := (mkF m 121 #[.val (.int p1), .val (.int p2), .val (.int p3), .val (.int (p3 &&& (3 : Int32))), .val (.int ((1 : Int32) <<< ((p2 &&& (31 : Int32)) &&& 31))), .val (.int (p1 &&& (((1 : Int32) <<< ((p2 &&& (31 : Int32)) &&& 31)) ^^^ (-1 : Int32)))), .val (.int p1), .val (.int (0 : Int32))] [(.int p1), (.int (p1 &&& (((1 : Int32) <<< ((p2 &&& (31 : Int32)) &&& 31)) ^^^ (-1 : Int32))))])) rfl (by rw [hml]; rfl) (argsL := [(.int (p1 &&& (((1 : Int32) <<< ((p2 &&& (31 : Int32)) &&& 31)) ^^^ (-1 : Int32)))), (.int p1)]) (rest := []) (lenOf pd__40II_41Z rfl) rfl (by show 2 * 0 + _ ≤ _; exact Nat.le_of_eq rfl) (hb hby at_121) (fun _ _ => ⟨rfl, e0, (by decide : 0 + 0 ≤ _), (by decide : 0 + 0 ≤ _)⟩)
          dsimp only [Pt.U, Pt.locs, Pt.cells, Pt.slots] at X4 l4 y4 z4 st4 hQ4
          subst l4 y4 z4
          obtain ⟨rfl, Nq4, e4⟩ := hQ4
          have N4 := Fr.app N0 Nq4
          obtain ⟨fs, hr, hrun, hended, hW, hsame⟩ := X4.leave (v := some (.int (1 : Int32))) (fun h => by rw [Bd.returns] at h; cases h)
          refine ⟨_, _, pre0 _ ?_, hrun, hended, _, _, rfl, ?_, ⟨_, rfl⟩, hW, hsame.mono (by decide) (by decide)⟩
          · show Steps p.tables e below (s₁.setTop (mkF m 0 #[.val (.int p1), .val (.int p2), .val (.int p3), .unset, .unset, .unset, .unset, .unset] [])) _
            refine XS.iloadN X0.here hx rfl (hb hby at_0) rfl ?_
            show Steps p.tables e below (s₁.setTop (mkF m 1 #[.val (.int p1), .val (.int p2), .val (.int p3), .unset, .unset, .unset, .unset, .unset] [(.int p3)])) _
            refine XS.iconst X0.here hx rfl (hb hby at_1) ?_
            show Steps p.tables e below (s₁.setTop (mkF m 2 #[.val (.int p1), .val (.int p2), .val (.int p3), .unset, .unset, .unset, .unset, .unset] [(.int (3 : Int32)), (.int p3)])) _
            refine XS.iand X0.here hx rfl (hb hby at_2) rfl ?_
            show Steps p.tables e below (s₁.setTop (mkF m 3 #[.val (.int p1), .val (.int p2), .val (.int p3), .unset, .unset, .unset, .unset, .unset] [(.int (p3 &&& (3 : Int32)))])) _
            refine XS.istoreN X0.here hx rfl (hb hby at_3) rfl (l' := #[.val (.int p1), .val (.int p2), .val (.int p3), .val (.int (p3 &&& (3 : Int32))), .unset, .unset, .unset, .unset]) rfl ?_
            show Steps p.tables e below (s₁.setTop (mkF m 4 #[.val (.int p1), .val (.int p2), .val (.int p3), .val (.int (p3 &&& (3 : Int32))), .unset, .unset, .unset, .unset] [])) _
            refine XS.iconst X0.here hx rfl (hb hby at_4) ?_
            show Steps p.tables e below (s₁.setTop (mkF m 5 #[.val (.int p1), .val (.int p2), .val (.int p3), .val (.int (p3 &&& (3 : Int32))), .unset, .unset, .unset, .unset] [(.int (1 : Int32))])) _
            refine XS.iloadN X0.here hx rfl (hb hby at_5) rfl ?_
            show Steps p.tables e below (s₁.setTop (mkF m 6 #[.val (.int p1), .val (.int p2), .val (.int p3), .val (.int (p3 &&& (3 : Int32))), .unset, .unset, .unset, .unset] [(.int p2), (.int (1 : Int32))])) _
            refine XS.bipush X0.here hx rfl (hb hby at_6) ?_
            show Steps p.tables e below (s₁.setTop (mkF m 8 #[.val (.int p1), .val (.int p2), .val (.int p3), .val (.int (p3 &&& (3 : Int32))), .unset, .unset, .unset, .unset] [(.int (31 : Int32)), (.int p2), (.int (1 : Int32))])) _
            refine XS.iand X0.here hx rfl (hb hby at_8) rfl ?_
            show Steps p.tables e below (s₁.setTop (mkF m 9 #[.val (.int p1), .val (.int p2), .val (.int p3), .val (.int (p3 &&& (3 : Int32))), .unset, .unset, .unset, .unset] [(.int (p2 &&& (31 : Int32))), (.int (1 : Int32))])) _
            refine XS.ishl X0.here hx rfl (hb hby at_9) rfl ?_
            show Steps p.tables e below (s₁.setTop (mkF m 10 #[.val (.int p1), .val (.int p2), .val (.int p3), .val (.int (p3 &&& (3 : Int32))), .unset, .unset, .unset, .unset] [(.int ((1 : Int32) <<< ((p2 &&& (31 : Int32)) &&& 31)))])) _
            refine XS.istore X0.here hx rfl (hb hby at_10) rfl (l' := #[.val (.int p1), .val (.int p2), .val (.int p3), .val (.int (p3 &&& (3 : Int32))), .val (.int ((1 : Int32) <<< ((p2 &&& (31 : Int32)) &&& 31))), .unset, .unset, .unset]) rfl ?_
            show Steps p.tables e below (s₁.setTop (mkF m 12 #[.val (.int p1), .val (.int p2), .val (.int p3), .val (.int (p3 &&& (3 : Int32))), .val (.int ((1 : Int32) <<< ((p2 &&& (31 : Int32)) &&& 31))), .unset, .unset, .unset] [])) _
            refine XS.iloadN X0.here hx rfl (hb hby at_12) rfl ?_
            show Steps p.tables e below (s₁.setTop (mkF m 13 #[.val (.int p1), .val (.int p2), .val (.int p3), .val (.int (p3 &&& (3 : Int32))), .val (.int ((1 : Int32) <<< ((p2 &&& (31 : Int32)) &&& 31))), .unset, .unset, .unset] [(.int (p3 &&& (3 : Int32)))])) _
            refine XS.ifYes X0.here hx rfl (pc0 := 13) (pc' := 42) rfl (hb hby at_13) rfl ((if0 _ _).trans (feq hc1).2) (by decide) (by decide) ?_
            show Steps p.tables e below (s₁.setTop (mkF m 42 #[.val (.int p1), .val (.int p2), .val (.int p3), .val (.int (p3 &&& (3 : Int32))), .val (.int ((1 : Int32) <<< ((p2 &&& (31 : Int32)) &&& 31))), .unset, .unset, .unset] [])) _
            refine XS.iloadN X0.here hx rfl (hb hby at_42) rfl ?_
            show Steps p.tables e below (s₁.setTop (mkF m 43 #[.val (.int p1), .val (.int p2), .val (.int p3), .val (.int (p3 &&& (3 : Int32))), .val (.int ((1 : Int32) <<< ((p2 &&& (31 : Int32)) &&& 31))), .unset, .unset, .unset] [(.int (p3 &&& (3 : Int32)))])) _
            refine XS.iconst X0.here hx rfl (hb hby at_43) ?_
            show Steps p.tables e below (s₁.setTop (mkF m 44 #[.val (.int p1), .val (.int p2), .val (.int p3), .val (.int (p3 &&& (3 : Int32))), .val (.int ((1 : Int32) <<< ((p2 &&& (31 : Int32)) &&& 31))), .unset, .unset, .unset] [(.int (1 : Int32)), (.int (p3 &&& (3 : Int32)))])) _
            refine XS.icmpYes X0.here hx rfl (pc0 := 44) (pc' := 59) rfl (hb hby at_44) rfl (feq hc3).2 (by decide) (by decide) ?_
            show Steps p.tables e below (s₁.setTop (mkF m 59 #[.val (.int p1), .val (.int p2), .val (.int p3), .val (.int (p3 &&& (3 : Int32))), .val (.int ((1 : Int32) <<< ((p2 &&& (31 : Int32)) &&& 31))), .unset, .unset, .unset] [])) _
            refine XS.iloadN X0.here hx rfl (hb hby at_59) rfl ?_
            show Steps p.tables e below (s₁.setTop (mkF m 60 #[.val (.int p1), .val (.int p2), .val (.int p3), .val (.int (p3 &&& (3 : Int32))), .val (.int ((1 : Int32) <<< ((p2 &&& (31 : Int32)) &&& 31))), .unset, .unset, .unset] [(.int (p3 &&& (3 : Int32)))])) _
            refine XS.iconst X0.here hx rfl (hb hby at_60) ?_
            show Steps p.tables e below (s₁.setTop (mkF m 61 #[.val (.int p1), .val (.int p2), .val (.int p3), .val (.int (p3 &&& (3 : Int32))), .val (.int ((1 : Int32) <<< ((p2 &&& (31 : Int32)) &&& 31))), .unset, .unset, .unset] [(.int (2 : Int32)), (.int (p3 &&& (3 : Int32)))])) _
            refine XS.icmpNo X0.here hx rfl (hb hby at_61) rfl (teq hc4).2 ?_
            show Steps p.tables e below (s₁.setTop (mkF m 64 #[.val (.int p1), .val (.int p2), .val (.int p3), .val (.int (p3 &&& (3 : Int32))), .val (.int ((1 : Int32) <<< ((p2 &&& (31 : Int32)) &&& 31))), .unset, .unset, .unset] [])) _
            refine XS.iloadN X0.here hx rfl (hb hby at_64) rfl ?_
            show Steps p.tables e below (s₁.setTop (mkF m 65 #[.val (.int p1), .val (.int p2), .val (.int p3), .val (.int (p3 &&& (3 : Int32))), .val (.int ((1 : Int32) <<< ((p2 &&& (31 : Int32)) &&& 31))), .unset, .unset, .unset] [(.int p1)])) _
            refine XS.iload X0.here hx rfl (hb hby at_65) rfl ?_
            show Steps p.tables e below (s₁.setTop (mkF m 67 #[.val (.int p1), .val (.int p2), .val (.int p3), .val (.int (p3 &&& (3 : Int32))), .val (.int ((1 : Int32) <<< ((p2 &&& (31 : Int32)) &&& 31))), .unset, .unset, .unset] [(.int ((1 : Int32) <<< ((p2 &&& (31 : Int32)) &&& 31))), (.int p1)])) _
            refine XS.iconst X0.here hx rfl (hb hby at_67) ?_
            show Steps p.tables e below (s₁.setTop (mkF m 68 #[.val (.int p1), .val (.int p2), .val (.int p3), .val (.int (p3 &&& (3 : Int32))), .val (.int ((1 : Int32) <<< ((p2 &&& (31 : Int32)) &&& 31))), .unset, .unset, .unset] [(.int (-1 : Int32)), (.int ((1 : Int32) <<< ((p2 &&& (31 : Int32)) &&& 31))), (.int p1)])) _
            refine XS.ixor X0.here hx rfl (hb hby at_68) rfl ?_
            show Steps p.tables e below (s₁.setTop (mkF m 69 #[.val (.int p1), .val (.int p2), .val (.int p3), .val (.int (p3 &&& (3 : Int32))), .val (.int ((1 : Int32) <<< ((p2 &&& (31 : Int32)) &&& 31))), .unset, .unset, .unset] [(.int (((1 : Int32) <<< ((p2 &&& (31 : Int32)) &&& 31)) ^^^ (-1 : Int32))), (.int p1)])) _
            refine XS.iand X0.here hx rfl (hb hby at_69) rfl ?_
            show Steps p.tables e below (s₁.setTop (mkF m 70 #[.val (.int p1), .val (.int p2), .val (.int p3), .val (.int (p3 &&& (3 : Int32))), .val (.int ((1 : Int32) <<< ((p2 &&& (31 : Int32)) &&& 31))), .unset, .unset, .unset] [(.int (p1 &&& (((1 : Int32) <<< ((p2 &&& (31 : Int32)) &&& 31)) ^^^ (-1 : Int32))))])) _
            refine XS.istore X0.here hx rfl (hb hby at_70) rfl (l' := #[.val (.int p1), .val (.int p2), .val (.int p3), .val (.int (p3 &&& (3 : Int32))), .val (.int ((1 : Int32) <<< ((p2 &&& (31 : Int32)) &&& 31))), .val (.int (p1 &&& (((1 : Int32) <<< ((p2 &&& (31 : Int32)) &&& 31)) ^^^ (-1 : Int32)))), .unset, .unset]) rfl ?_
            show Steps p.tables e below (s₁.setTop (mkF m 72 #[.val (.int p1), .val (.int p2), .val (.int p3), .val (.int (p3 &&& (3 : Int32))), .val (.int ((1 : Int32) <<< ((p2 &&& (31 : Int32)) &&& 31))), .val (.int (p1 &&& (((1 : Int32) <<< ((p2 &&& (31 : Int32)) &&& 31)) ^^^ (-1 : Int32)))), .unset, .unset] [])) _
            refine XS.iloadN X0.here hx rfl (hb hby at_72) rfl ?_
            show Steps p.tables e below (s₁.setTop (mkF m 73 #[.val (.int p1), .val (.int p2), .val (.int p3), .val (.int (p3 &&& (3 : Int32))), .val (.int ((1 : Int32) <<< ((p2 &&& (31 : Int32)) &&& 31))), .val (.int (p1 &&& (((1 : Int32) <<< ((p2 &&& (31 : Int32)) &&& 31)) ^^^ (-1 : Int32)))), .unset, .unset] [(.int p1)])) _
            refine XS.istore X0.here hx rfl (hb hby at_73) rfl (l' := #[.val (.int p1), .val (.int p2), .val (.int p3), .val (.int (p3 &&& (3 : Int32))), .val (.int ((1 : Int32) <<< ((p2 &&& (31 : Int32)) &&& 31))), .val (.int (p1 &&& (((1 : Int32) <<< ((p2 &&& (31 : Int32)) &&& 31)) ^^^ (-1 : Int32)))), .val (.int p1), .unset]) rfl ?_
            show Steps p.tables e below (s₁.setTop (mkF m 75 #[.val (.int p1), .val (.int p2), .val (.int p3), .val (.int (p3 &&& (3 : Int32))), .val (.int ((1 : Int32) <<< ((p2 &&& (31 : Int32)) &&& 31))), .val (.int (p1 &&& (((1 : Int32) <<< ((p2 &&& (31 : Int32)) &&& 31)) ^^^ (-1 : Int32)))), .val (.int p1), .unset] [])) _
            refine XS.iloadN X0.here hx rfl (hb hby at_75) rfl ?_
            show Steps p.tables e below (s₁.setTop (mkF m 76 #[.val (.int p1), .val (.int p2), .val (.int p3), .val (.int (p3 &&& (3 : Int32))), .val (.int ((1 : Int32) <<< ((p2 &&& (31 : Int32)) &&& 31))), .val (.int (p1 &&& (((1 : Int32) <<< ((p2 &&& (31 : Int32)) &&& 31)) ^^^ (-1 : Int32)))), .val (.int p1), .unset] [(.int p1)])) _
            refine XS.iload X0.here hx rfl (hb hby at_76) rfl ?_
            show Steps p.tables e below (s₁.setTop (mkF m 78 #[.val (.int p1), .val (.int p2), .val (.int p3), .val (.int (p3 &&& (3 : Int32))), .val (.int ((1 : Int32) <<< ((p2 &&& (31 : Int32)) &&& 31))), .val (.int (p1 &&& (((1 : Int32) <<< ((p2 &&& (31 : Int32)) &&& 31)) ^^^ (-1 : Int32)))), .val (.int p1), .unset] [(.int ((1 : Int32) <<< ((p2 &&& (31 : Int32)) &&& 31))), (.int p1)])) _
            refine XS.iand X0.here hx rfl (hb hby at_78) rfl ?_
            show Steps p.tables e below (s₁.setTop (mkF m 79 #[.val (.int p1), .val (.int p2), .val (.int p3), .val (.int (p3 &&& (3 : Int32))), .val (.int ((1 : Int32) <<< ((p2 &&& (31 : Int32)) &&& 31))), .val (.int (p1 &&& (((1 : Int32) <<< ((p2 &&& (31 : Int32)) &&& 31)) ^^^ (-1 : Int32)))), .val (.int p1), .unset] [(.int (p1 &&& ((1 : Int32) <<< ((p2 &&& (31 : Int32)) &&& 31))))])) _
            refine XS.ifYes X0.here hx rfl (pc0 := 79) (pc' := 86) rfl (hb hby at_79) rfl ((if0 _ _).trans (teq hc5).1) (by decide) (by decide) ?_
            show Steps p.tables e below (s₁.setTop (mkF m 86 #[.val (.int p1), .val (.int p2), .val (.int p3), .val (.int (p3 &&& (3 : Int32))), .val (.int ((1 : Int32) <<< ((p2 &&& (31 : Int32)) &&& 31))), .val (.int (p1 &&& (((1 : Int32) <<< ((p2 &&& (31 : Int32)) &&& 31)) ^^^ (-1 : Int32)))), .val (.int p1), .unset] [])) _
            refine XS.iconst X0.here hx rfl (hb hby at_86) ?_
            show Steps p.tables e below (s₁.setTop (mkF m 87 #[.val (.int p1), .val (.int p2), .val (.int p3), .val (.int (p3 &&& (3 : Int32))), .val (.int ((1 : Int32) <<< ((p2 &&& (31 : Int32)) &&& 31))), .val (.int (p1 &&& (((1 : Int32) <<< ((p2 &&& (31 : Int32)) &&& 31)) ^^^ (-1 : Int32)))), .val (.int p1), .unset] [(.int (0 : Int32))])) _
            refine XS.istore X0.here hx rfl (hb hby at_87) rfl (l' := #[.val (.int p1), .val (.int p2), .val (.int p3), .val (.int (p3 &&& (3 : Int32))), .val (.int ((1 : Int32) <<< ((p2 &&& (31 : Int32)) &&& 31))), .val (.int (p1 &&& (((1 : Int32) <<< ((p2 &&& (31 : Int32)) &&& 31)) ^^^ (-1 : Int32)))), .val (.int p1), .val (.int (0 : Int32))]) rfl ?_
            show Steps p.tables e below (s₁.setTop (mkF m 89 #[.val (.int p1), .val (.int p2), .val (.int p3), .val (.int (p3 &&& (3 : Int32))), .val (.int ((1 : Int32) <<< ((p2 &&& (31 : Int32)) &&& 31))), .val (.int (p1 &&& (((1 : Int32) <<< ((p2 &&& (31 : Int32)) &&& 31)) ^^^ (-1 : Int32)))), .val (.int p1), .val (.int (0 : Int32))] [])) _
            refine XS.goto X0.here hx rfl (pc0 := 89) (pc' := 117) rfl (hb hby at_89) (by decide) (by decide) ?_
            show Steps p.tables e below (s₁.setTop (mkF m 117 #[.val (.int p1), .val (.int p2), .val (.int p3), .val (.int (p3 &&& (3 : Int32))), .val (.int ((1 : Int32) <<< ((p2 &&& (31 : Int32)) &&& 31))), .val (.int (p1 &&& (((1 : Int32) <<< ((p2 &&& (31 : Int32)) &&& 31)) ^^^ (-1 : Int32)))), .val (.int p1), .val (.int (0 : Int32))] [])) _
            refine XS.iload X0.here hx rfl (hb hby at_117) rfl ?_
            show Steps p.tables e below (s₁.setTop (mkF m 119 #[.val (.int p1), .val (.int p2), .val (.int p3), .val (.int (p3 &&& (3 : Int32))), .val (.int ((1 : Int32) <<< ((p2 &&& (31 : Int32)) &&& 31))), .val (.int (p1 &&& (((1 : Int32) <<< ((p2 &&& (31 : Int32)) &&& 31)) ^^^ (-1 : Int32)))), .val (.int p1), .val (.int (0 : Int32))] [(.int (p1 &&& (((1 : Int32) <<< ((p2 &&& (31 : Int32)) &&& 31)) ^^^ (-1 : Int32))))])) _
            refine XS.iload X0.here hx rfl (hb hby at_119) rfl ?_
            show Steps p.tables e below (s₁.setTop (mkF m 121 #[.val (.int p1), .val (.int p2), .val (.int p3), .val (.int (p3 &&& (3 : Int32))), .val (.int ((1 : Int32) <<< ((p2 &&& (31 : Int32)) &&& 31))), .val (.int (p1 &&& (((1 : Int32) <<< ((p2 &&& (31 : Int32)) &&& 31)) ^^^ (-1 : Int32)))), .val (.int p1), .val (.int (0 : Int32))] [(.int p1), (.int (p1 &&& (((1 : Int32) <<< ((p2 &&& (31 : Int32)) &&& 31)) ^^^ (-1 : Int32))))])) _
            refine st4 _ ?_
            show Steps p.tables e below (T4.setTop (mkF m 124 #[.val (.int p1), .val (.int p2), .val (.int p3), .val (.int (p3 &&& (3 : Int32))), .val (.int ((1 : Int32) <<< ((p2 &&& (31 : Int32)) &&& 31))), .val (.int (p1 &&& (((1 : Int32) <<< ((p2 &&& (31 : Int32)) &&& 31)) ^^^ (-1 : Int32)))), .val (.int p1), .val (.int (0 : Int32))] [(.int (own_ps (p1 &&& (((1 : Int32) <<< ((p2 &&& (31 : Int32)) &&& 31)) ^^^ (-1 : Int32))) p1))])) _
            refine XS.iload X4.here hx rfl (hb hby at_124) rfl ?_
            show Steps p.tables e below (T4.setTop (mkF m 126 #[.val (.int p1), .val (.int p2), .val (.int p3), .val (.int (p3 &&& (3 : Int32))), .val (.int ((1 : Int32) <<< ((p2 &&& (31 : Int32)) &&& 31))), .val (.int (p1 &&& (((1 : Int32) <<< ((p2 &&& (31 : Int32)) &&& 31)) ^^^ (-1 : Int32)))), .val (.int p1), .val (.int (0 : Int32))] [(.int (0 : Int32)), (.int (own_ps (p1 &&& (((1 : Int32) <<< ((p2 &&& (31 : Int32)) &&& 31)) ^^^ (-1 : Int32))) p1))])) _
            refine XS.icmpNo X4.here hx rfl (hb hby at_126) rfl (teq (own_m2a hc5)).2 ?_
            show Steps p.tables e below (T4.setTop (mkF m 129 #[.val (.int p1), .val (.int p2), .val (.int p3), .val (.int (p3 &&& (3 : Int32))), .val (.int ((1 : Int32) <<< ((p2 &&& (31 : Int32)) &&& 31))), .val (.int (p1 &&& (((1 : Int32) <<< ((p2 &&& (31 : Int32)) &&& 31)) ^^^ (-1 : Int32)))), .val (.int p1), .val (.int (0 : Int32))] [])) _
            refine XS.iconst X4.here hx rfl (hb hby at_129) ?_
            show Steps p.tables e below (T4.setTop (mkF m 130 #[.val (.int p1), .val (.int p2), .val (.int p3), .val (.int (p3 &&& (3 : Int32))), .val (.int ((1 : Int32) <<< ((p2 &&& (31 : Int32)) &&& 31))), .val (.int (p1 &&& (((1 : Int32) <<< ((p2 &&& (31 : Int32)) &&& 31)) ^^^ (-1 : Int32)))), .val (.int p1), .val (.int (0 : Int32))] [(.int (1 : Int32))])) _
            refine XS.goto X4.here hx rfl (pc0 := 130) (pc' := 134) rfl (hb hby at_130) (by decide) (by decide) ?_
            show Steps p.tables e below (T4.setTop (mkF m 134 #[.val (.int p1), .val (.int p2), .val (.int p3), .val (.int (p3 &&& (3 : Int32))), .val (.int ((1 : Int32) <<< ((p2 &&& (31 : Int32)) &&& 31))), .val (.int (p1 &&& (((1 : Int32) <<< ((p2 &&& (31 : Int32)) &&& 31)) ^^^ (-1 : Int32)))), .val (.int p1), .val (.int (0 : Int32))] [(.int (1 : Int32))])) _
            exact retN X4 hx (t := .boolean) Bd.returns (by simp) (hb hby at_134) hr
          · show Q_rm0 Z p1 p2 p3 h0 n0 _ T4.heap _
            exact ⟨rfl, N4⟩
        · obtain ⟨_, _, ⟨T5, L5, k5, n5⟩, -, X5, ⟨Lc5, hQ5, l5, y5, z5⟩, st5⟩ := Jvm.LawKit.callS X0 hx (y := (⟨"com/example/entropic_join/entropicjoin/VariableSets", "isProperSubset", "(II)Z"⟩ : MethodName)) hown (mvT hZ (hw _ (List.mem_of_getElem? (i := 0) rfl))) (mvT hZ (hw _ (List.mem_of_getElem? (i := 1) rfl))) (mvT hZ (hw _ (List.mem_of_getElem? (i := 2) rfl))) (mvT hZ (hw _ (List.mem_of_getElem? (i := 3) rfl))) (by decide) (backOf (W := 0) (rm_ps l Z a0 hw [] (p1 &&& (((1 : Int32) <<< ((p2 &&& (31 : Int32)) &&& 31)) ^^^ (-1 : Int32))) p1 h0 n0 Z0) hZ (hw _ (List.mem_of_getElem? (i := 3) rfl)) (hw _ (List.mem_of_getElem? (i := 2) rfl)) (by decide) (by decide)) (g := (mkF m 121 #[.val (.int p1), .val (.int p2), .val (.int p3), .val (.int (p3 &&& (3 : Int32))), .val (.int ((1 : Int32) <<< ((p2 &&& (31 : Int32)) &&& 31))), .val (.int (p1 &&& (((1 : Int32) <<< ((p2 &&& (31 : Int32)) &&& 31)) ^^^ (-1 : Int32)))), .val (.int p1), .val (.int (1 : Int32))] [(.int p1), (.int (p1 &&& (((1 : Int32) <<< ((p2 &&& (31 : Int32)) &&& 31)) ^^^ (-1 : Int32))))])) rfl (by rw [hml]; rfl) (argsL := [(.int (p1 &&& (((1 : Int32) <<< ((p2 &&& (31 : Int32)) &&& 31)) ^^^ (-1 : Int32)))), (.int p1)]) (rest := []) (lenOf pd__40II_41Z rfl) rfl (by show 2 * 0 + _ ≤ _; exact Nat.le_of_eq rfl) (hb hby at_121) (fun _ _ => ⟨rfl, e0, (by decide : 0 + 0 ≤ _), (by decide : 0 + 0 ≤ _)⟩)
          dsimp only [Pt.U, Pt.locs, Pt.cells, Pt.slots] at X5 l5 y5 z5 st5 hQ5
          subst l5 y5 z5
          obtain ⟨rfl, Nq5, e5⟩ := hQ5
          have N5 := Fr.app N0 Nq5
          obtain ⟨fs, hr, hrun, hended, hW, hsame⟩ := X5.leave (v := some (.int (1 : Int32))) (fun h => by rw [Bd.returns] at h; cases h)
          refine ⟨_, _, pre0 _ ?_, hrun, hended, _, _, rfl, ?_, ⟨_, rfl⟩, hW, hsame.mono (by decide) (by decide)⟩
          · show Steps p.tables e below (s₁.setTop (mkF m 0 #[.val (.int p1), .val (.int p2), .val (.int p3), .unset, .unset, .unset, .unset, .unset] [])) _
            refine XS.iloadN X0.here hx rfl (hb hby at_0) rfl ?_
            show Steps p.tables e below (s₁.setTop (mkF m 1 #[.val (.int p1), .val (.int p2), .val (.int p3), .unset, .unset, .unset, .unset, .unset] [(.int p3)])) _
            refine XS.iconst X0.here hx rfl (hb hby at_1) ?_
            show Steps p.tables e below (s₁.setTop (mkF m 2 #[.val (.int p1), .val (.int p2), .val (.int p3), .unset, .unset, .unset, .unset, .unset] [(.int (3 : Int32)), (.int p3)])) _
            refine XS.iand X0.here hx rfl (hb hby at_2) rfl ?_
            show Steps p.tables e below (s₁.setTop (mkF m 3 #[.val (.int p1), .val (.int p2), .val (.int p3), .unset, .unset, .unset, .unset, .unset] [(.int (p3 &&& (3 : Int32)))])) _
            refine XS.istoreN X0.here hx rfl (hb hby at_3) rfl (l' := #[.val (.int p1), .val (.int p2), .val (.int p3), .val (.int (p3 &&& (3 : Int32))), .unset, .unset, .unset, .unset]) rfl ?_
            show Steps p.tables e below (s₁.setTop (mkF m 4 #[.val (.int p1), .val (.int p2), .val (.int p3), .val (.int (p3 &&& (3 : Int32))), .unset, .unset, .unset, .unset] [])) _
            refine XS.iconst X0.here hx rfl (hb hby at_4) ?_
            show Steps p.tables e below (s₁.setTop (mkF m 5 #[.val (.int p1), .val (.int p2), .val (.int p3), .val (.int (p3 &&& (3 : Int32))), .unset, .unset, .unset, .unset] [(.int (1 : Int32))])) _
            refine XS.iloadN X0.here hx rfl (hb hby at_5) rfl ?_
            show Steps p.tables e below (s₁.setTop (mkF m 6 #[.val (.int p1), .val (.int p2), .val (.int p3), .val (.int (p3 &&& (3 : Int32))), .unset, .unset, .unset, .unset] [(.int p2), (.int (1 : Int32))])) _
            refine XS.bipush X0.here hx rfl (hb hby at_6) ?_
            show Steps p.tables e below (s₁.setTop (mkF m 8 #[.val (.int p1), .val (.int p2), .val (.int p3), .val (.int (p3 &&& (3 : Int32))), .unset, .unset, .unset, .unset] [(.int (31 : Int32)), (.int p2), (.int (1 : Int32))])) _
            refine XS.iand X0.here hx rfl (hb hby at_8) rfl ?_
            show Steps p.tables e below (s₁.setTop (mkF m 9 #[.val (.int p1), .val (.int p2), .val (.int p3), .val (.int (p3 &&& (3 : Int32))), .unset, .unset, .unset, .unset] [(.int (p2 &&& (31 : Int32))), (.int (1 : Int32))])) _
            refine XS.ishl X0.here hx rfl (hb hby at_9) rfl ?_
            show Steps p.tables e below (s₁.setTop (mkF m 10 #[.val (.int p1), .val (.int p2), .val (.int p3), .val (.int (p3 &&& (3 : Int32))), .unset, .unset, .unset, .unset] [(.int ((1 : Int32) <<< ((p2 &&& (31 : Int32)) &&& 31)))])) _
            refine XS.istore X0.here hx rfl (hb hby at_10) rfl (l' := #[.val (.int p1), .val (.int p2), .val (.int p3), .val (.int (p3 &&& (3 : Int32))), .val (.int ((1 : Int32) <<< ((p2 &&& (31 : Int32)) &&& 31))), .unset, .unset, .unset]) rfl ?_
            show Steps p.tables e below (s₁.setTop (mkF m 12 #[.val (.int p1), .val (.int p2), .val (.int p3), .val (.int (p3 &&& (3 : Int32))), .val (.int ((1 : Int32) <<< ((p2 &&& (31 : Int32)) &&& 31))), .unset, .unset, .unset] [])) _
            refine XS.iloadN X0.here hx rfl (hb hby at_12) rfl ?_
            show Steps p.tables e below (s₁.setTop (mkF m 13 #[.val (.int p1), .val (.int p2), .val (.int p3), .val (.int (p3 &&& (3 : Int32))), .val (.int ((1 : Int32) <<< ((p2 &&& (31 : Int32)) &&& 31))), .unset, .unset, .unset] [(.int (p3 &&& (3 : Int32)))])) _
            refine XS.ifYes X0.here hx rfl (pc0 := 13) (pc' := 42) rfl (hb hby at_13) rfl ((if0 _ _).trans (feq hc1).2) (by decide) (by decide) ?_
            show Steps p.tables e below (s₁.setTop (mkF m 42 #[.val (.int p1), .val (.int p2), .val (.int p3), .val (.int (p3 &&& (3 : Int32))), .val (.int ((1 : Int32) <<< ((p2 &&& (31 : Int32)) &&& 31))), .unset, .unset, .unset] [])) _
            refine XS.iloadN X0.here hx rfl (hb hby at_42) rfl ?_
            show Steps p.tables e below (s₁.setTop (mkF m 43 #[.val (.int p1), .val (.int p2), .val (.int p3), .val (.int (p3 &&& (3 : Int32))), .val (.int ((1 : Int32) <<< ((p2 &&& (31 : Int32)) &&& 31))), .unset, .unset, .unset] [(.int (p3 &&& (3 : Int32)))])) _
            refine XS.iconst X0.here hx rfl (hb hby at_43) ?_
            show Steps p.tables e below (s₁.setTop (mkF m 44 #[.val (.int p1), .val (.int p2), .val (.int p3), .val (.int (p3 &&& (3 : Int32))), .val (.int ((1 : Int32) <<< ((p2 &&& (31 : Int32)) &&& 31))), .unset, .unset, .unset] [(.int (1 : Int32)), (.int (p3 &&& (3 : Int32)))])) _
            refine XS.icmpYes X0.here hx rfl (pc0 := 44) (pc' := 59) rfl (hb hby at_44) rfl (feq hc3).2 (by decide) (by decide) ?_
            show Steps p.tables e below (s₁.setTop (mkF m 59 #[.val (.int p1), .val (.int p2), .val (.int p3), .val (.int (p3 &&& (3 : Int32))), .val (.int ((1 : Int32) <<< ((p2 &&& (31 : Int32)) &&& 31))), .unset, .unset, .unset] [])) _
            refine XS.iloadN X0.here hx rfl (hb hby at_59) rfl ?_
            show Steps p.tables e below (s₁.setTop (mkF m 60 #[.val (.int p1), .val (.int p2), .val (.int p3), .val (.int (p3 &&& (3 : Int32))), .val (.int ((1 : Int32) <<< ((p2 &&& (31 : Int32)) &&& 31))), .unset, .unset, .unset] [(.int (p3 &&& (3 : Int32)))])) _
            refine XS.iconst X0.here hx rfl (hb hby at_60) ?_
            show Steps p.tables e below (s₁.setTop (mkF m 61 #[.val (.int p1), .val (.int p2), .val (.int p3), .val (.int (p3 &&& (3 : Int32))), .val (.int ((1 : Int32) <<< ((p2 &&& (31 : Int32)) &&& 31))), .unset, .unset, .unset] [(.int (2 : Int32)), (.int (p3 &&& (3 : Int32)))])) _
            refine XS.icmpNo X0.here hx rfl (hb hby at_61) rfl (teq hc4).2 ?_
            show Steps p.tables e below (s₁.setTop (mkF m 64 #[.val (.int p1), .val (.int p2), .val (.int p3), .val (.int (p3 &&& (3 : Int32))), .val (.int ((1 : Int32) <<< ((p2 &&& (31 : Int32)) &&& 31))), .unset, .unset, .unset] [])) _
            refine XS.iloadN X0.here hx rfl (hb hby at_64) rfl ?_
            show Steps p.tables e below (s₁.setTop (mkF m 65 #[.val (.int p1), .val (.int p2), .val (.int p3), .val (.int (p3 &&& (3 : Int32))), .val (.int ((1 : Int32) <<< ((p2 &&& (31 : Int32)) &&& 31))), .unset, .unset, .unset] [(.int p1)])) _
            refine XS.iload X0.here hx rfl (hb hby at_65) rfl ?_
            show Steps p.tables e below (s₁.setTop (mkF m 67 #[.val (.int p1), .val (.int p2), .val (.int p3), .val (.int (p3 &&& (3 : Int32))), .val (.int ((1 : Int32) <<< ((p2 &&& (31 : Int32)) &&& 31))), .unset, .unset, .unset] [(.int ((1 : Int32) <<< ((p2 &&& (31 : Int32)) &&& 31))), (.int p1)])) _
            refine XS.iconst X0.here hx rfl (hb hby at_67) ?_
            show Steps p.tables e below (s₁.setTop (mkF m 68 #[.val (.int p1), .val (.int p2), .val (.int p3), .val (.int (p3 &&& (3 : Int32))), .val (.int ((1 : Int32) <<< ((p2 &&& (31 : Int32)) &&& 31))), .unset, .unset, .unset] [(.int (-1 : Int32)), (.int ((1 : Int32) <<< ((p2 &&& (31 : Int32)) &&& 31))), (.int p1)])) _
            refine XS.ixor X0.here hx rfl (hb hby at_68) rfl ?_
            show Steps p.tables e below (s₁.setTop (mkF m 69 #[.val (.int p1), .val (.int p2), .val (.int p3), .val (.int (p3 &&& (3 : Int32))), .val (.int ((1 : Int32) <<< ((p2 &&& (31 : Int32)) &&& 31))), .unset, .unset, .unset] [(.int (((1 : Int32) <<< ((p2 &&& (31 : Int32)) &&& 31)) ^^^ (-1 : Int32))), (.int p1)])) _
            refine XS.iand X0.here hx rfl (hb hby at_69) rfl ?_
            show Steps p.tables e below (s₁.setTop (mkF m 70 #[.val (.int p1), .val (.int p2), .val (.int p3), .val (.int (p3 &&& (3 : Int32))), .val (.int ((1 : Int32) <<< ((p2 &&& (31 : Int32)) &&& 31))), .unset, .unset, .unset] [(.int (p1 &&& (((1 : Int32) <<< ((p2 &&& (31 : Int32)) &&& 31)) ^^^ (-1 : Int32))))])) _
            refine XS.istore X0.here hx rfl (hb hby at_70) rfl (l' := #[.val (.int p1), .val (.int p2), .val (.int p3), .val (.int (p3 &&& (3 : Int32))), .val (.int ((1 : Int32) <<< ((p2 &&& (31 : Int32)) &&& 31))), .val (.int (p1 &&& (((1 : Int32) <<< ((p2 &&& (31 : Int32)) &&& 31)) ^^^ (-1 : Int32)))), .unset, .unset]) rfl ?_
            show Steps p.tables e below (s₁.setTop (mkF m 72 #[.val (.int p1), .val (.int p2), .val (.int p3), .val (.int (p3 &&& (3 : Int32))), .val (.int ((1 : Int32) <<< ((p2 &&& (31 : Int32)) &&& 31))), .val (.int (p1 &&& (((1 : Int32) <<< ((p2 &&& (31 : Int32)) &&& 31)) ^^^ (-1 : Int32)))), .unset, .unset] [])) _
            refine XS.iloadN X0.here hx rfl (hb hby at_72) rfl ?_
            show Steps p.tables e below (s₁.setTop (mkF m 73 #[.val (.int p1), .val (.int p2), .val (.int p3), .val (.int (p3 &&& (3 : Int32))), .val (.int ((1 : Int32) <<< ((p2 &&& (31 : Int32)) &&& 31))), .val (.int (p1 &&& (((1 : Int32) <<< ((p2 &&& (31 : Int32)) &&& 31)) ^^^ (-1 : Int32)))), .unset, .unset] [(.int p1)])) _
            refine XS.istore X0.here hx rfl (hb hby at_73) rfl (l' := #[.val (.int p1), .val (.int p2), .val (.int p3), .val (.int (p3 &&& (3 : Int32))), .val (.int ((1 : Int32) <<< ((p2 &&& (31 : Int32)) &&& 31))), .val (.int (p1 &&& (((1 : Int32) <<< ((p2 &&& (31 : Int32)) &&& 31)) ^^^ (-1 : Int32)))), .val (.int p1), .unset]) rfl ?_
            show Steps p.tables e below (s₁.setTop (mkF m 75 #[.val (.int p1), .val (.int p2), .val (.int p3), .val (.int (p3 &&& (3 : Int32))), .val (.int ((1 : Int32) <<< ((p2 &&& (31 : Int32)) &&& 31))), .val (.int (p1 &&& (((1 : Int32) <<< ((p2 &&& (31 : Int32)) &&& 31)) ^^^ (-1 : Int32)))), .val (.int p1), .unset] [])) _
            refine XS.iloadN X0.here hx rfl (hb hby at_75) rfl ?_
            show Steps p.tables e below (s₁.setTop (mkF m 76 #[.val (.int p1), .val (.int p2), .val (.int p3), .val (.int (p3 &&& (3 : Int32))), .val (.int ((1 : Int32) <<< ((p2 &&& (31 : Int32)) &&& 31))), .val (.int (p1 &&& (((1 : Int32) <<< ((p2 &&& (31 : Int32)) &&& 31)) ^^^ (-1 : Int32)))), .val (.int p1), .unset] [(.int p1)])) _
            refine XS.iload X0.here hx rfl (hb hby at_76) rfl ?_
            show Steps p.tables e below (s₁.setTop (mkF m 78 #[.val (.int p1), .val (.int p2), .val (.int p3), .val (.int (p3 &&& (3 : Int32))), .val (.int ((1 : Int32) <<< ((p2 &&& (31 : Int32)) &&& 31))), .val (.int (p1 &&& (((1 : Int32) <<< ((p2 &&& (31 : Int32)) &&& 31)) ^^^ (-1 : Int32)))), .val (.int p1), .unset] [(.int ((1 : Int32) <<< ((p2 &&& (31 : Int32)) &&& 31))), (.int p1)])) _
            refine XS.iand X0.here hx rfl (hb hby at_78) rfl ?_
            show Steps p.tables e below (s₁.setTop (mkF m 79 #[.val (.int p1), .val (.int p2), .val (.int p3), .val (.int (p3 &&& (3 : Int32))), .val (.int ((1 : Int32) <<< ((p2 &&& (31 : Int32)) &&& 31))), .val (.int (p1 &&& (((1 : Int32) <<< ((p2 &&& (31 : Int32)) &&& 31)) ^^^ (-1 : Int32)))), .val (.int p1), .unset] [(.int (p1 &&& ((1 : Int32) <<< ((p2 &&& (31 : Int32)) &&& 31))))])) _
            refine XS.ifNo X0.here hx rfl (hb hby at_79) rfl ((if0 _ _).trans (feq hc5).1) ?_
            show Steps p.tables e below (s₁.setTop (mkF m 82 #[.val (.int p1), .val (.int p2), .val (.int p3), .val (.int (p3 &&& (3 : Int32))), .val (.int ((1 : Int32) <<< ((p2 &&& (31 : Int32)) &&& 31))), .val (.int (p1 &&& (((1 : Int32) <<< ((p2 &&& (31 : Int32)) &&& 31)) ^^^ (-1 : Int32)))), .val (.int p1), .unset] [])) _
            refine XS.iconst X0.here hx rfl (hb hby at_82) ?_
            show Steps p.tables e below (s₁.setTop (mkF m 83 #[.val (.int p1), .val (.int p2), .val (.int p3), .val (.int (p3 &&& (3 : Int32))), .val (.int ((1 : Int32) <<< ((p2 &&& (31 : Int32)) &&& 31))), .val (.int (p1 &&& (((1 : Int32) <<< ((p2 &&& (31 : Int32)) &&& 31)) ^^^ (-1 : Int32)))), .val (.int p1), .unset] [(.int (1 : Int32))])) _
            refine XS.goto X0.here hx rfl (pc0 := 83) (pc' := 87) rfl (hb hby at_83) (by decide) (by decide) ?_
            show Steps p.tables e below (s₁.setTop (mkF m 87 #[.val (.int p1), .val (.int p2), .val (.int p3), .val (.int (p3 &&& (3 : Int32))), .val (.int ((1 : Int32) <<< ((p2 &&& (31 : Int32)) &&& 31))), .val (.int (p1 &&& (((1 : Int32) <<< ((p2 &&& (31 : Int32)) &&& 31)) ^^^ (-1 : Int32)))), .val (.int p1), .unset] [(.int (1 : Int32))])) _
            refine XS.istore X0.here hx rfl (hb hby at_87) rfl (l' := #[.val (.int p1), .val (.int p2), .val (.int p3), .val (.int (p3 &&& (3 : Int32))), .val (.int ((1 : Int32) <<< ((p2 &&& (31 : Int32)) &&& 31))), .val (.int (p1 &&& (((1 : Int32) <<< ((p2 &&& (31 : Int32)) &&& 31)) ^^^ (-1 : Int32)))), .val (.int p1), .val (.int (1 : Int32))]) rfl ?_
            show Steps p.tables e below (s₁.setTop (mkF m 89 #[.val (.int p1), .val (.int p2), .val (.int p3), .val (.int (p3 &&& (3 : Int32))), .val (.int ((1 : Int32) <<< ((p2 &&& (31 : Int32)) &&& 31))), .val (.int (p1 &&& (((1 : Int32) <<< ((p2 &&& (31 : Int32)) &&& 31)) ^^^ (-1 : Int32)))), .val (.int p1), .val (.int (1 : Int32))] [])) _
            refine XS.goto X0.here hx rfl (pc0 := 89) (pc' := 117) rfl (hb hby at_89) (by decide) (by decide) ?_
            show Steps p.tables e below (s₁.setTop (mkF m 117 #[.val (.int p1), .val (.int p2), .val (.int p3), .val (.int (p3 &&& (3 : Int32))), .val (.int ((1 : Int32) <<< ((p2 &&& (31 : Int32)) &&& 31))), .val (.int (p1 &&& (((1 : Int32) <<< ((p2 &&& (31 : Int32)) &&& 31)) ^^^ (-1 : Int32)))), .val (.int p1), .val (.int (1 : Int32))] [])) _
            refine XS.iload X0.here hx rfl (hb hby at_117) rfl ?_
            show Steps p.tables e below (s₁.setTop (mkF m 119 #[.val (.int p1), .val (.int p2), .val (.int p3), .val (.int (p3 &&& (3 : Int32))), .val (.int ((1 : Int32) <<< ((p2 &&& (31 : Int32)) &&& 31))), .val (.int (p1 &&& (((1 : Int32) <<< ((p2 &&& (31 : Int32)) &&& 31)) ^^^ (-1 : Int32)))), .val (.int p1), .val (.int (1 : Int32))] [(.int (p1 &&& (((1 : Int32) <<< ((p2 &&& (31 : Int32)) &&& 31)) ^^^ (-1 : Int32))))])) _
            refine XS.iload X0.here hx rfl (hb hby at_119) rfl ?_
            show Steps p.tables e below (s₁.setTop (mkF m 121 #[.val (.int p1), .val (.int p2), .val (.int p3), .val (.int (p3 &&& (3 : Int32))), .val (.int ((1 : Int32) <<< ((p2 &&& (31 : Int32)) &&& 31))), .val (.int (p1 &&& (((1 : Int32) <<< ((p2 &&& (31 : Int32)) &&& 31)) ^^^ (-1 : Int32)))), .val (.int p1), .val (.int (1 : Int32))] [(.int p1), (.int (p1 &&& (((1 : Int32) <<< ((p2 &&& (31 : Int32)) &&& 31)) ^^^ (-1 : Int32))))])) _
            refine st5 _ ?_
            show Steps p.tables e below (T5.setTop (mkF m 124 #[.val (.int p1), .val (.int p2), .val (.int p3), .val (.int (p3 &&& (3 : Int32))), .val (.int ((1 : Int32) <<< ((p2 &&& (31 : Int32)) &&& 31))), .val (.int (p1 &&& (((1 : Int32) <<< ((p2 &&& (31 : Int32)) &&& 31)) ^^^ (-1 : Int32)))), .val (.int p1), .val (.int (1 : Int32))] [(.int (own_ps (p1 &&& (((1 : Int32) <<< ((p2 &&& (31 : Int32)) &&& 31)) ^^^ (-1 : Int32))) p1))])) _
            refine XS.iload X5.here hx rfl (hb hby at_124) rfl ?_
            show Steps p.tables e below (T5.setTop (mkF m 126 #[.val (.int p1), .val (.int p2), .val (.int p3), .val (.int (p3 &&& (3 : Int32))), .val (.int ((1 : Int32) <<< ((p2 &&& (31 : Int32)) &&& 31))), .val (.int (p1 &&& (((1 : Int32) <<< ((p2 &&& (31 : Int32)) &&& 31)) ^^^ (-1 : Int32)))), .val (.int p1), .val (.int (1 : Int32))] [(.int (1 : Int32)), (.int (own_ps (p1 &&& (((1 : Int32) <<< ((p2 &&& (31 : Int32)) &&& 31)) ^^^ (-1 : Int32))) p1))])) _
            refine XS.icmpNo X5.here hx rfl (hb hby at_126) rfl (teq (own_m2b hc5)).2 ?_
            show Steps p.tables e below (T5.setTop (mkF m 129 #[.val (.int p1), .val (.int p2), .val (.int p3), .val (.int (p3 &&& (3 : Int32))), .val (.int ((1 : Int32) <<< ((p2 &&& (31 : Int32)) &&& 31))), .val (.int (p1 &&& (((1 : Int32) <<< ((p2 &&& (31 : Int32)) &&& 31)) ^^^ (-1 : Int32)))), .val (.int p1), .val (.int (1 : Int32))] [])) _
            refine XS.iconst X5.here hx rfl (hb hby at_129) ?_
            show Steps p.tables e below (T5.setTop (mkF m 130 #[.val (.int p1), .val (.int p2), .val (.int p3), .val (.int (p3 &&& (3 : Int32))), .val (.int ((1 : Int32) <<< ((p2 &&& (31 : Int32)) &&& 31))), .val (.int (p1 &&& (((1 : Int32) <<< ((p2 &&& (31 : Int32)) &&& 31)) ^^^ (-1 : Int32)))), .val (.int p1), .val (.int (1 : Int32))] [(.int (1 : Int32))])) _
            refine XS.goto X5.here hx rfl (pc0 := 130) (pc' := 134) rfl (hb hby at_130) (by decide) (by decide) ?_
            show Steps p.tables e below (T5.setTop (mkF m 134 #[.val (.int p1), .val (.int p2), .val (.int p3), .val (.int (p3 &&& (3 : Int32))), .val (.int ((1 : Int32) <<< ((p2 &&& (31 : Int32)) &&& 31))), .val (.int (p1 &&& (((1 : Int32) <<< ((p2 &&& (31 : Int32)) &&& 31)) ^^^ (-1 : Int32)))), .val (.int p1), .val (.int (1 : Int32))] [(.int (1 : Int32))])) _
            exact retN X5 hx (t := .boolean) Bd.returns (by simp) (hb hby at_134) hr
          · show Q_rm0 Z p1 p2 p3 h0 n0 _ T5.heap _
            exact ⟨rfl, N5⟩
      · by_cases hc6 : (p1 ||| p2) = p2
        · by_cases hc7 : p1 = p2
          · obtain ⟨_, _, ⟨T6, L6, k6, n6⟩, -, X6, ⟨Lc6, hQ6, l6, y6, z6⟩, st6⟩ := Jvm.LawKit.callS X0 hx (y := (⟨"com/example/entropic_join/entropicjoin/VariableSets", "isProperSubset", "(II)Z"⟩ : MethodName)) hown (mvT hZ (hw _ (List.mem_of_getElem? (i := 0) rfl))) (mvT hZ (hw _ (List.mem_of_getElem? (i := 1) rfl))) (mvT hZ (hw _ (List.mem_of_getElem? (i := 2) rfl))) (mvT hZ (hw _ (List.mem_of_getElem? (i := 3) rfl))) (by decide) (backOf (W := 0) (rm_ps l Z a0 hw [] p1 p2 h0 n0 Z0) hZ (hw _ (List.mem_of_getElem? (i := 3) rfl)) (hw _ (List.mem_of_getElem? (i := 2) rfl)) (by decide) (by decide)) (g := (mkF m 121 #[.val (.int p1), .val (.int p2), .val (.int p3), .val (.int (p3 &&& (3 : Int32))), .val (.int ((1 : Int32) <<< ((p2 &&& (31 : Int32)) &&& 31))), .val (.int p1), .val (.int p2), .val (.int (0 : Int32))] [(.int p2), (.int p1)])) rfl (by rw [hml]; rfl) (argsL := [(.int p1), (.int p2)]) (rest := []) (lenOf pd__40II_41Z rfl) rfl (by show 2 * 0 + _ ≤ _; exact Nat.le_of_eq rfl) (hb hby at_121) (fun _ _ => ⟨rfl, e0, (by decide : 0 + 0 ≤ _), (by decide : 0 + 0 ≤ _)⟩)
            dsimp only [Pt.U, Pt.locs, Pt.cells, Pt.slots] at X6 l6 y6 z6 st6 hQ6
            subst l6 y6 z6
            obtain ⟨rfl, Nq6, e6⟩ := hQ6
            have N6 := Fr.app N0 Nq6
            obtain ⟨fs, hr, hrun, hended, hW, hsame⟩ := X6.leave (v := some (.int (1 : Int32))) (fun h => by rw [Bd.returns] at h; cases h)
            refine ⟨_, _, pre0 _ ?_, hrun, hended, _, _, rfl, ?_, ⟨_, rfl⟩, hW, hsame.mono (by decide) (by decide)⟩
            · show Steps p.tables e below (s₁.setTop (mkF m 0 #[.val (.int p1), .val (.int p2), .val (.int p3), .unset, .unset, .unset, .unset, .unset] [])) _
              refine XS.iloadN X0.here hx rfl (hb hby at_0) rfl ?_
              show Steps p.tables e below (s₁.setTop (mkF m 1 #[.val (.int p1), .val (.int p2), .val (.int p3), .unset, .unset, .unset, .unset, .unset] [(.int p3)])) _
              refine XS.iconst X0.here hx rfl (hb hby at_1) ?_
              show Steps p.tables e below (s₁.setTop (mkF m 2 #[.val (.int p1), .val (.int p2), .val (.int p3), .unset, .unset, .unset, .unset, .unset] [(.int (3 : Int32)), (.int p3)])) _
              refine XS.iand X0.here hx rfl (hb hby at_2) rfl ?_
              show Steps p.tables e below (s₁.setTop (mkF m 3 #[.val (.int p1), .val (.int p2), .val (.int p3), .unset, .unset, .unset, .unset, .unset] [(.int (p3 &&& (3 : Int32)))])) _
              refine XS.istoreN X0.here hx rfl (hb hby at_3) rfl (l' := #[.val (.int p1), .val (.int p2), .val (.int p3), .val (.int (p3 &&& (3 : Int32))), .unset, .unset, .unset, .unset]) rfl ?_
              show Steps p.tables e below (s₁.setTop (mkF m 4 #[.val (.int p1), .val (.int p2), .val (.int p3), .val (.int (p3 &&& (3 : Int32))), .unset, .unset, .unset, .unset] [])) _
              refine XS.iconst X0.here hx rfl (hb hby at_4) ?_
              show Steps p.tables e below (s₁.setTop (mkF m 5 #[.val (.int p1), .val (.int p2), .val (.int p3), .val (.int (p3 &&& (3 : Int32))), .unset, .unset, .unset, .unset] [(.int (1 : Int32))])) _
              refine XS.iloadN X0.here hx rfl (hb hby at_5) rfl ?_
              show Steps p.tables e below (s₁.setTop (mkF m 6 #[.val (.int p1), .val (.int p2), .val (.int p3), .val (.int (p3 &&& (3 : Int32))), .unset, .unset, .unset, .unset] [(.int p2), (.int (1 : Int32))])) _
              refine XS.bipush X0.here hx rfl (hb hby at_6) ?_
              show Steps p.tables e below (s₁.setTop (mkF m 8 #[.val (.int p1), .val (.int p2), .val (.int p3), .val (.int (p3 &&& (3 : Int32))), .unset, .unset, .unset, .unset] [(.int (31 : Int32)), (.int p2), (.int (1 : Int32))])) _
              refine XS.iand X0.here hx rfl (hb hby at_8) rfl ?_
              show Steps p.tables e below (s₁.setTop (mkF m 9 #[.val (.int p1), .val (.int p2), .val (.int p3), .val (.int (p3 &&& (3 : Int32))), .unset, .unset, .unset, .unset] [(.int (p2 &&& (31 : Int32))), (.int (1 : Int32))])) _
              refine XS.ishl X0.here hx rfl (hb hby at_9) rfl ?_
              show Steps p.tables e below (s₁.setTop (mkF m 10 #[.val (.int p1), .val (.int p2), .val (.int p3), .val (.int (p3 &&& (3 : Int32))), .unset, .unset, .unset, .unset] [(.int ((1 : Int32) <<< ((p2 &&& (31 : Int32)) &&& 31)))])) _
              refine XS.istore X0.here hx rfl (hb hby at_10) rfl (l' := #[.val (.int p1), .val (.int p2), .val (.int p3), .val (.int (p3 &&& (3 : Int32))), .val (.int ((1 : Int32) <<< ((p2 &&& (31 : Int32)) &&& 31))), .unset, .unset, .unset]) rfl ?_
              show Steps p.tables e below (s₁.setTop (mkF m 12 #[.val (.int p1), .val (.int p2), .val (.int p3), .val (.int (p3 &&& (3 : Int32))), .val (.int ((1 : Int32) <<< ((p2 &&& (31 : Int32)) &&& 31))), .unset, .unset, .unset] [])) _
              refine XS.iloadN X0.here hx rfl (hb hby at_12) rfl ?_
              show Steps p.tables e below (s₁.setTop (mkF m 13 #[.val (.int p1), .val (.int p2), .val (.int p3), .val (.int (p3 &&& (3 : Int32))), .val (.int ((1 : Int32) <<< ((p2 &&& (31 : Int32)) &&& 31))), .unset, .unset, .unset] [(.int (p3 &&& (3 : Int32)))])) _
              refine XS.ifYes X0.here hx rfl (pc0 := 13) (pc' := 42) rfl (hb hby at_13) rfl ((if0 _ _).trans (feq hc1).2) (by decide) (by decide) ?_
              show Steps p.tables e below (s₁.setTop (mkF m 42 #[.val (.int p1), .val (.int p2), .val (.int p3), .val (.int (p3 &&& (3 : Int32))), .val (.int ((1 : Int32) <<< ((p2 &&& (31 : Int32)) &&& 31))), .unset, .unset, .unset] [])) _
              refine XS.iloadN X0.here hx rfl (hb hby at_42) rfl ?_
              show Steps p.tables e below (s₁.setTop (mkF m 43 #[.val (.int p1), .val (.int p2), .val (.int p3), .val (.int (p3 &&& (3 : Int32))), .val (.int ((1 : Int32) <<< ((p2 &&& (31 : Int32)) &&& 31))), .unset, .unset, .unset] [(.int (p3 &&& (3 : Int32)))])) _
              refine XS.iconst X0.here hx rfl (hb hby at_43) ?_
              show Steps p.tables e below (s₁.setTop (mkF m 44 #[.val (.int p1), .val (.int p2), .val (.int p3), .val (.int (p3 &&& (3 : Int32))), .val (.int ((1 : Int32) <<< ((p2 &&& (31 : Int32)) &&& 31))), .unset, .unset, .unset] [(.int (1 : Int32)), (.int (p3 &&& (3 : Int32)))])) _
              refine XS.icmpYes X0.here hx rfl (pc0 := 44) (pc' := 59) rfl (hb hby at_44) rfl (feq hc3).2 (by decide) (by decide) ?_
              show Steps p.tables e below (s₁.setTop (mkF m 59 #[.val (.int p1), .val (.int p2), .val (.int p3), .val (.int (p3 &&& (3 : Int32))), .val (.int ((1 : Int32) <<< ((p2 &&& (31 : Int32)) &&& 31))), .unset, .unset, .unset] [])) _
              refine XS.iloadN X0.here hx rfl (hb hby at_59) rfl ?_
              show Steps p.tables e below (s₁.setTop (mkF m 60 #[.val (.int p1), .val (.int p2), .val (.int p3), .val (.int (p3 &&& (3 : Int32))), .val (.int ((1 : Int32) <<< ((p2 &&& (31 : Int32)) &&& 31))), .unset, .unset, .unset] [(.int (p3 &&& (3 : Int32)))])) _
              refine XS.iconst X0.here hx rfl (hb hby at_60) ?_
              show Steps p.tables e below (s₁.setTop (mkF m 61 #[.val (.int p1), .val (.int p2), .val (.int p3), .val (.int (p3 &&& (3 : Int32))), .val (.int ((1 : Int32) <<< ((p2 &&& (31 : Int32)) &&& 31))), .unset, .unset, .unset] [(.int (2 : Int32)), (.int (p3 &&& (3 : Int32)))])) _
              refine XS.icmpYes X0.here hx rfl (pc0 := 61) (pc' := 92) rfl (hb hby at_61) rfl (feq hc4).2 (by decide) (by decide) ?_
              show Steps p.tables e below (s₁.setTop (mkF m 92 #[.val (.int p1), .val (.int p2), .val (.int p3), .val (.int (p3 &&& (3 : Int32))), .val (.int ((1 : Int32) <<< ((p2 &&& (31 : Int32)) &&& 31))), .unset, .unset, .unset] [])) _
              refine XS.iloadN X0.here hx rfl (hb hby at_92) rfl ?_
              show Steps p.tables e below (s₁.setTop (mkF m 93 #[.val (.int p1), .val (.int p2), .val (.int p3), .val (.int (p3 &&& (3 : Int32))), .val (.int ((1 : Int32) <<< ((p2 &&& (31 : Int32)) &&& 31))), .unset, .unset, .unset] [(.int p1)])) _
              refine XS.istore X0.here hx rfl (hb hby at_93) rfl (l' := #[.val (.int p1), .val (.int p2), .val (.int p3), .val (.int (p3 &&& (3 : Int32))), .val (.int ((1 : Int32) <<< ((p2 &&& (31 : Int32)) &&& 31))), .val (.int p1), .unset, .unset]) rfl ?_
              show Steps p.tables e below (s₁.setTop (mkF m 95 #[.val (.int p1), .val (.int p2), .val (.int p3), .val (.int (p3 &&& (3 : Int32))), .val (.int ((1 : Int32) <<< ((p2 &&& (31 : Int32)) &&& 31))), .val (.int p1), .unset, .unset] [])) _
              refine XS.iloadN X0.here hx rfl (hb hby at_95) rfl ?_
              show Steps p.tables e below (s₁.setTop (mkF m 96 #[.val (.int p1), .val (.int p2), .val (.int p3), .val (.int (p3 &&& (3 : Int32))), .val (.int ((1 : Int32) <<< ((p2 &&& (31 : Int32)) &&& 31))), .val (.int p1), .unset, .unset] [(.int p2)])) _
              refine XS.istore X0.here hx rfl (hb hby at_96) rfl (l' := #[.val (.int p1), .val (.int p2), .val (.int p3), .val (.int (p3 &&& (3 : Int32))), .val (.int ((1 : Int32) <<< ((p2 &&& (31 : Int32)) &&& 31))), .val (.int p1), .val (.int p2), .unset]) rfl ?_
              show Steps p.tables e below (s₁.setTop (mkF m 98 #[.val (.int p1), .val (.int p2), .val (.int p3), .val (.int (p3 &&& (3 : Int32))), .val (.int ((1 : Int32) <<< ((p2 &&& (31 : Int32)) &&& 31))), .val (.int p1), .val (.int p2), .unset] [])) _
              refine XS.iloadN X0.here hx rfl (hb hby at_98) rfl ?_
              show Steps p.tables e below (s₁.setTop (mkF m 99 #[.val (.int p1), .val (.int p2), .val (.int p3), .val (.int (p3 &&& (3 : Int32))), .val (.int ((1 : Int32) <<< ((p2 &&& (31 : Int32)) &&& 31))), .val (.int p1), .val (.int p2), .unset] [(.int p1)])) _
              refine XS.iloadN X0.here hx rfl (hb hby at_99) rfl ?_
              show Steps p.tables e below (s₁.setTop (mkF m 100 #[.val (.int p1), .val (.int p2), .val (.int p3), .val (.int (p3 &&& (3 : Int32))), .val (.int ((1 : Int32) <<< ((p2 &&& (31 : Int32)) &&& 31))), .val (.int p1), .val (.int p2), .unset] [(.int p2), (.int p1)])) _
              refine XS.ior X0.here hx rfl (hb hby at_100) rfl ?_
              show Steps p.tables e below (s₁.setTop (mkF m 101 #[.val (.int p1), .val (.int p2), .val (.int p3), .val (.int (p3 &&& (3 : Int32))), .val (.int ((1 : Int32) <<< ((p2 &&& (31 : Int32)) &&& 31))), .val (.int p1), .val (.int p2), .unset] [(.int (p1 ||| p2))])) _
              refine XS.iloadN X0.here hx rfl (hb hby at_101) rfl ?_
              show Steps p.tables e below (s₁.setTop (mkF m 102 #[.val (.int p1), .val (.int p2), .val (.int p3), .val (.int (p3 &&& (3 : Int32))), .val (.int ((1 : Int32) <<< ((p2 &&& (31 : Int32)) &&& 31))), .val (.int p1), .val (.int p2), .unset] [(.int p2), (.int (p1 ||| p2))])) _
              refine XS.icmpNo X0.here hx rfl (hb hby at_102) rfl (teq hc6).2 ?_
              show Steps p.tables e below (s₁.setTop (mkF m 105 #[.val (.int p1), .val (.int p2), .val (.int p3), .val (.int (p3 &&& (3 : Int32))), .val (.int ((1 : Int32) <<< ((p2 &&& (31 : Int32)) &&& 31))), .val (.int p1), .val (.int p2), .unset] [])) _
              refine XS.iloadN X0.here hx rfl (hb hby at_105) rfl ?_
              show Steps p.tables e below (s₁.setTop (mkF m 106 #[.val (.int p1), .val (.int p2), .val (.int p3), .val (.int (p3 &&& (3 : Int32))), .val (.int ((1 : Int32) <<< ((p2 &&& (31 : Int32)) &&& 31))), .val (.int p1), .val (.int p2), .unset] [(.int p1)])) _
              refine XS.iloadN X0.here hx rfl (hb hby at_106) rfl ?_
              show Steps p.tables e below (s₁.setTop (mkF m 107 #[.val (.int p1), .val (.int p2), .val (.int p3), .val (.int (p3 &&& (3 : Int32))), .val (.int ((1 : Int32) <<< ((p2 &&& (31 : Int32)) &&& 31))), .val (.int p1), .val (.int p2), .unset] [(.int p2), (.int p1)])) _
              refine XS.icmpYes X0.here hx rfl (pc0 := 107) (pc' := 114) rfl (hb hby at_107) rfl (teq hc7).1 (by decide) (by decide) ?_
              show Steps p.tables e below (s₁.setTop (mkF m 114 #[.val (.int p1), .val (.int p2), .val (.int p3), .val (.int (p3 &&& (3 : Int32))), .val (.int ((1 : Int32) <<< ((p2 &&& (31 : Int32)) &&& 31))), .val (.int p1), .val (.int p2), .unset] [])) _
              refine XS.iconst X0.here hx rfl (hb hby at_114) ?_
              show Steps p.tables e below (s₁.setTop (mkF m 115 #[.val (.int p1), .val (.int p2), .val (.int p3), .val (.int (p3 &&& (3 : Int32))), .val (.int ((1 : Int32) <<< ((p2 &&& (31 : Int32)) &&& 31))), .val (.int p1), .val (.int p2), .unset] [(.int (0 : Int32))])) _
              refine XS.istore X0.here hx rfl (hb hby at_115) rfl (l' := #[.val (.int p1), .val (.int p2), .val (.int p3), .val (.int (p3 &&& (3 : Int32))), .val (.int ((1 : Int32) <<< ((p2 &&& (31 : Int32)) &&& 31))), .val (.int p1), .val (.int p2), .val (.int (0 : Int32))]) rfl ?_
              show Steps p.tables e below (s₁.setTop (mkF m 117 #[.val (.int p1), .val (.int p2), .val (.int p3), .val (.int (p3 &&& (3 : Int32))), .val (.int ((1 : Int32) <<< ((p2 &&& (31 : Int32)) &&& 31))), .val (.int p1), .val (.int p2), .val (.int (0 : Int32))] [])) _
              refine XS.iload X0.here hx rfl (hb hby at_117) rfl ?_
              show Steps p.tables e below (s₁.setTop (mkF m 119 #[.val (.int p1), .val (.int p2), .val (.int p3), .val (.int (p3 &&& (3 : Int32))), .val (.int ((1 : Int32) <<< ((p2 &&& (31 : Int32)) &&& 31))), .val (.int p1), .val (.int p2), .val (.int (0 : Int32))] [(.int p1)])) _
              refine XS.iload X0.here hx rfl (hb hby at_119) rfl ?_
              show Steps p.tables e below (s₁.setTop (mkF m 121 #[.val (.int p1), .val (.int p2), .val (.int p3), .val (.int (p3 &&& (3 : Int32))), .val (.int ((1 : Int32) <<< ((p2 &&& (31 : Int32)) &&& 31))), .val (.int p1), .val (.int p2), .val (.int (0 : Int32))] [(.int p2), (.int p1)])) _
              refine st6 _ ?_
              show Steps p.tables e below (T6.setTop (mkF m 124 #[.val (.int p1), .val (.int p2), .val (.int p3), .val (.int (p3 &&& (3 : Int32))), .val (.int ((1 : Int32) <<< ((p2 &&& (31 : Int32)) &&& 31))), .val (.int p1), .val (.int p2), .val (.int (0 : Int32))] [(.int (own_ps p1 p2))])) _
              refine XS.iload X6.here hx rfl (hb hby at_124) rfl ?_
              show Steps p.tables e below (T6.setTop (mkF m 126 #[.val (.int p1), .val (.int p2), .val (.int p3), .val (.int (p3 &&& (3 : Int32))), .val (.int ((1 : Int32) <<< ((p2 &&& (31 : Int32)) &&& 31))), .val (.int p1), .val (.int p2), .val (.int (0 : Int32))] [(.int (0 : Int32)), (.int (own_ps p1 p2))])) _
              refine XS.icmpNo X6.here hx rfl (hb hby at_126) rfl (teq (own_m3b hc7)).2 ?_
              show Steps p.tables e below (T6.setTop (mkF m 129 #[.val (.int p1), .val (.int p2), .val (.int p3), .val (.int (p3 &&& (3 : Int32))), .val (.int ((1 : Int32) <<< ((p2 &&& (31 : Int32)) &&& 31))), .val (.int p1), .val (.int p2), .val (.int (0 : Int32))] [])) _
              refine XS.iconst X6.here hx rfl (hb hby at_129) ?_
              show Steps p.tables e below (T6.setTop (mkF m 130 #[.val (.int p1), .val (.int p2), .val (.int p3), .val (.int (p3 &&& (3 : Int32))), .val (.int ((1 : Int32) <<< ((p2 &&& (31 : Int32)) &&& 31))), .val (.int p1), .val (.int p2), .val (.int (0 : Int32))] [(.int (1 : Int32))])) _
              refine XS.goto X6.here hx rfl (pc0 := 130) (pc' := 134) rfl (hb hby at_130) (by decide) (by decide) ?_
              show Steps p.tables e below (T6.setTop (mkF m 134 #[.val (.int p1), .val (.int p2), .val (.int p3), .val (.int (p3 &&& (3 : Int32))), .val (.int ((1 : Int32) <<< ((p2 &&& (31 : Int32)) &&& 31))), .val (.int p1), .val (.int p2), .val (.int (0 : Int32))] [(.int (1 : Int32))])) _
              exact retN X6 hx (t := .boolean) Bd.returns (by simp) (hb hby at_134) hr
            · show Q_rm0 Z p1 p2 p3 h0 n0 _ T6.heap _
              exact ⟨rfl, N6⟩
          · obtain ⟨_, _, ⟨T7, L7, k7, n7⟩, -, X7, ⟨Lc7, hQ7, l7, y7, z7⟩, st7⟩ := Jvm.LawKit.callS X0 hx (y := (⟨"com/example/entropic_join/entropicjoin/VariableSets", "isProperSubset", "(II)Z"⟩ : MethodName)) hown (mvT hZ (hw _ (List.mem_of_getElem? (i := 0) rfl))) (mvT hZ (hw _ (List.mem_of_getElem? (i := 1) rfl))) (mvT hZ (hw _ (List.mem_of_getElem? (i := 2) rfl))) (mvT hZ (hw _ (List.mem_of_getElem? (i := 3) rfl))) (by decide) (backOf (W := 0) (rm_ps l Z a0 hw [] p1 p2 h0 n0 Z0) hZ (hw _ (List.mem_of_getElem? (i := 3) rfl)) (hw _ (List.mem_of_getElem? (i := 2) rfl)) (by decide) (by decide)) (g := (mkF m 121 #[.val (.int p1), .val (.int p2), .val (.int p3), .val (.int (p3 &&& (3 : Int32))), .val (.int ((1 : Int32) <<< ((p2 &&& (31 : Int32)) &&& 31))), .val (.int p1), .val (.int p2), .val (.int (1 : Int32))] [(.int p2), (.int p1)])) rfl (by rw [hml]; rfl) (argsL := [(.int p1), (.int p2)]) (rest := []) (lenOf pd__40II_41Z rfl) rfl (by show 2 * 0 + _ ≤ _; exact Nat.le_of_eq rfl) (hb hby at_121) (fun _ _ => ⟨rfl, e0, (by decide : 0 + 0 ≤ _), (by decide : 0 + 0 ≤ _)⟩)
            dsimp only [Pt.U, Pt.locs, Pt.cells, Pt.slots] at X7 l7 y7 z7 st7 hQ7
            subst l7 y7 z7
            obtain ⟨rfl, Nq7, e7⟩ := hQ7
            have N7 := Fr.app N0 Nq7
            obtain ⟨fs, hr, hrun, hended, hW, hsame⟩ := X7.leave (v := some (.int (1 : Int32))) (fun h => by rw [Bd.returns] at h; cases h)
            refine ⟨_, _, pre0 _ ?_, hrun, hended, _, _, rfl, ?_, ⟨_, rfl⟩, hW, hsame.mono (by decide) (by decide)⟩
            · show Steps p.tables e below (s₁.setTop (mkF m 0 #[.val (.int p1), .val (.int p2), .val (.int p3), .unset, .unset, .unset, .unset, .unset] [])) _
              refine XS.iloadN X0.here hx rfl (hb hby at_0) rfl ?_
              show Steps p.tables e below (s₁.setTop (mkF m 1 #[.val (.int p1), .val (.int p2), .val (.int p3), .unset, .unset, .unset, .unset, .unset] [(.int p3)])) _
              refine XS.iconst X0.here hx rfl (hb hby at_1) ?_
              show Steps p.tables e below (s₁.setTop (mkF m 2 #[.val (.int p1), .val (.int p2), .val (.int p3), .unset, .unset, .unset, .unset, .unset] [(.int (3 : Int32)), (.int p3)])) _
              refine XS.iand X0.here hx rfl (hb hby at_2) rfl ?_
              show Steps p.tables e below (s₁.setTop (mkF m 3 #[.val (.int p1), .val (.int p2), .val (.int p3), .unset, .unset, .unset, .unset, .unset] [(.int (p3 &&& (3 : Int32)))])) _
              refine XS.istoreN X0.here hx rfl (hb hby at_3) rfl (l' := #[.val (.int p1), .val (.int p2), .val (.int p3), .val (.int (p3 &&& (3 : Int32))), .unset, .unset, .unset, .unset]) rfl ?_
              show Steps p.tables e below (s₁.setTop (mkF m 4 #[.val (.int p1), .val (.int p2), .val (.int p3), .val (.int (p3 &&& (3 : Int32))), .unset, .unset, .unset, .unset] [])) _
              refine XS.iconst X0.here hx rfl (hb hby at_4) ?_
              show Steps p.tables e below (s₁.setTop (mkF m 5 #[.val (.int p1), .val (.int p2), .val (.int p3), .val (.int (p3 &&& (3 : Int32))), .unset, .unset, .unset, .unset] [(.int (1 : Int32))])) _
              refine XS.iloadN X0.here hx rfl (hb hby at_5) rfl ?_
              show Steps p.tables e below (s₁.setTop (mkF m 6 #[.val (.int p1), .val (.int p2), .val (.int p3), .val (.int (p3 &&& (3 : Int32))), .unset, .unset, .unset, .unset] [(.int p2), (.int (1 : Int32))])) _
              refine XS.bipush X0.here hx rfl (hb hby at_6) ?_
              show Steps p.tables e below (s₁.setTop (mkF m 8 #[.val (.int p1), .val (.int p2), .val (.int p3), .val (.int (p3 &&& (3 : Int32))), .unset, .unset, .unset, .unset] [(.int (31 : Int32)), (.int p2), (.int (1 : Int32))])) _
              refine XS.iand X0.here hx rfl (hb hby at_8) rfl ?_
              show Steps p.tables e below (s₁.setTop (mkF m 9 #[.val (.int p1), .val (.int p2), .val (.int p3), .val (.int (p3 &&& (3 : Int32))), .unset, .unset, .unset, .unset] [(.int (p2 &&& (31 : Int32))), (.int (1 : Int32))])) _
              refine XS.ishl X0.here hx rfl (hb hby at_9) rfl ?_
              show Steps p.tables e below (s₁.setTop (mkF m 10 #[.val (.int p1), .val (.int p2), .val (.int p3), .val (.int (p3 &&& (3 : Int32))), .unset, .unset, .unset, .unset] [(.int ((1 : Int32) <<< ((p2 &&& (31 : Int32)) &&& 31)))])) _
              refine XS.istore X0.here hx rfl (hb hby at_10) rfl (l' := #[.val (.int p1), .val (.int p2), .val (.int p3), .val (.int (p3 &&& (3 : Int32))), .val (.int ((1 : Int32) <<< ((p2 &&& (31 : Int32)) &&& 31))), .unset, .unset, .unset]) rfl ?_
              show Steps p.tables e below (s₁.setTop (mkF m 12 #[.val (.int p1), .val (.int p2), .val (.int p3), .val (.int (p3 &&& (3 : Int32))), .val (.int ((1 : Int32) <<< ((p2 &&& (31 : Int32)) &&& 31))), .unset, .unset, .unset] [])) _
              refine XS.iloadN X0.here hx rfl (hb hby at_12) rfl ?_
              show Steps p.tables e below (s₁.setTop (mkF m 13 #[.val (.int p1), .val (.int p2), .val (.int p3), .val (.int (p3 &&& (3 : Int32))), .val (.int ((1 : Int32) <<< ((p2 &&& (31 : Int32)) &&& 31))), .unset, .unset, .unset] [(.int (p3 &&& (3 : Int32)))])) _
              refine XS.ifYes X0.here hx rfl (pc0 := 13) (pc' := 42) rfl (hb hby at_13) rfl ((if0 _ _).trans (feq hc1).2) (by decide) (by decide) ?_
              show Steps p.tables e below (s₁.setTop (mkF m 42 #[.val (.int p1), .val (.int p2), .val (.int p3), .val (.int (p3 &&& (3 : Int32))), .val (.int ((1 : Int32) <<< ((p2 &&& (31 : Int32)) &&& 31))), .unset, .unset, .unset] [])) _
              refine XS.iloadN X0.here hx rfl (hb hby at_42) rfl ?_
              show Steps p.tables e below (s₁.setTop (mkF m 43 #[.val (.int p1), .val (.int p2), .val (.int p3), .val (.int (p3 &&& (3 : Int32))), .val (.int ((1 : Int32) <<< ((p2 &&& (31 : Int32)) &&& 31))), .unset, .unset, .unset] [(.int (p3 &&& (3 : Int32)))])) _
              refine XS.iconst X0.here hx rfl (hb hby at_43) ?_
              show Steps p.tables e below (s₁.setTop (mkF m 44 #[.val (.int p1), .val (.int p2), .val (.int p3), .val (.int (p3 &&& (3 : Int32))), .val (.int ((1 : Int32) <<< ((p2 &&& (31 : Int32)) &&& 31))), .unset, .unset, .unset] [(.int (1 : Int32)), (.int (p3 &&& (3 : Int32)))])) _
              refine XS.icmpYes X0.here hx rfl (pc0 := 44) (pc' := 59) rfl (hb hby at_44) rfl (feq hc3).2 (by decide) (by decide) ?_
              show Steps p.tables e below (s₁.setTop (mkF m 59 #[.val (.int p1), .val (.int p2), .val (.int p3), .val (.int (p3 &&& (3 : Int32))), .val (.int ((1 : Int32) <<< ((p2 &&& (31 : Int32)) &&& 31))), .unset, .unset, .unset] [])) _
              refine XS.iloadN X0.here hx rfl (hb hby at_59) rfl ?_
              show Steps p.tables e below (s₁.setTop (mkF m 60 #[.val (.int p1), .val (.int p2), .val (.int p3), .val (.int (p3 &&& (3 : Int32))), .val (.int ((1 : Int32) <<< ((p2 &&& (31 : Int32)) &&& 31))), .unset, .unset, .unset] [(.int (p3 &&& (3 : Int32)))])) _
              refine XS.iconst X0.here hx rfl (hb hby at_60) ?_
              show Steps p.tables e below (s₁.setTop (mkF m 61 #[.val (.int p1), .val (.int p2), .val (.int p3), .val (.int (p3 &&& (3 : Int32))), .val (.int ((1 : Int32) <<< ((p2 &&& (31 : Int32)) &&& 31))), .unset, .unset, .unset] [(.int (2 : Int32)), (.int (p3 &&& (3 : Int32)))])) _
              refine XS.icmpYes X0.here hx rfl (pc0 := 61) (pc' := 92) rfl (hb hby at_61) rfl (feq hc4).2 (by decide) (by decide) ?_
              show Steps p.tables e below (s₁.setTop (mkF m 92 #[.val (.int p1), .val (.int p2), .val (.int p3), .val (.int (p3 &&& (3 : Int32))), .val (.int ((1 : Int32) <<< ((p2 &&& (31 : Int32)) &&& 31))), .unset, .unset, .unset] [])) _
              refine XS.iloadN X0.here hx rfl (hb hby at_92) rfl ?_
              show Steps p.tables e below (s₁.setTop (mkF m 93 #[.val (.int p1), .val (.int p2), .val (.int p3), .val (.int (p3 &&& (3 : Int32))), .val (.int ((1 : Int32) <<< ((p2 &&& (31 : Int32)) &&& 31))), .unset, .unset, .unset] [(.int p1)])) _
              refine XS.istore X0.here hx rfl (hb hby at_93) rfl (l' := #[.val (.int p1), .val (.int p2), .val (.int p3), .val (.int (p3 &&& (3 : Int32))), .val (.int ((1 : Int32) <<< ((p2 &&& (31 : Int32)) &&& 31))), .val (.int p1), .unset, .unset]) rfl ?_
              show Steps p.tables e below (s₁.setTop (mkF m 95 #[.val (.int p1), .val (.int p2), .val (.int p3), .val (.int (p3 &&& (3 : Int32))), .val (.int ((1 : Int32) <<< ((p2 &&& (31 : Int32)) &&& 31))), .val (.int p1), .unset, .unset] [])) _
              refine XS.iloadN X0.here hx rfl (hb hby at_95) rfl ?_
              show Steps p.tables e below (s₁.setTop (mkF m 96 #[.val (.int p1), .val (.int p2), .val (.int p3), .val (.int (p3 &&& (3 : Int32))), .val (.int ((1 : Int32) <<< ((p2 &&& (31 : Int32)) &&& 31))), .val (.int p1), .unset, .unset] [(.int p2)])) _
              refine XS.istore X0.here hx rfl (hb hby at_96) rfl (l' := #[.val (.int p1), .val (.int p2), .val (.int p3), .val (.int (p3 &&& (3 : Int32))), .val (.int ((1 : Int32) <<< ((p2 &&& (31 : Int32)) &&& 31))), .val (.int p1), .val (.int p2), .unset]) rfl ?_
              show Steps p.tables e below (s₁.setTop (mkF m 98 #[.val (.int p1), .val (.int p2), .val (.int p3), .val (.int (p3 &&& (3 : Int32))), .val (.int ((1 : Int32) <<< ((p2 &&& (31 : Int32)) &&& 31))), .val (.int p1), .val (.int p2), .unset] [])) _
              refine XS.iloadN X0.here hx rfl (hb hby at_98) rfl ?_
              show Steps p.tables e below (s₁.setTop (mkF m 99 #[.val (.int p1), .val (.int p2), .val (.int p3), .val (.int (p3 &&& (3 : Int32))), .val (.int ((1 : Int32) <<< ((p2 &&& (31 : Int32)) &&& 31))), .val (.int p1), .val (.int p2), .unset] [(.int p1)])) _
              refine XS.iloadN X0.here hx rfl (hb hby at_99) rfl ?_
              show Steps p.tables e below (s₁.setTop (mkF m 100 #[.val (.int p1), .val (.int p2), .val (.int p3), .val (.int (p3 &&& (3 : Int32))), .val (.int ((1 : Int32) <<< ((p2 &&& (31 : Int32)) &&& 31))), .val (.int p1), .val (.int p2), .unset] [(.int p2), (.int p1)])) _
              refine XS.ior X0.here hx rfl (hb hby at_100) rfl ?_
              show Steps p.tables e below (s₁.setTop (mkF m 101 #[.val (.int p1), .val (.int p2), .val (.int p3), .val (.int (p3 &&& (3 : Int32))), .val (.int ((1 : Int32) <<< ((p2 &&& (31 : Int32)) &&& 31))), .val (.int p1), .val (.int p2), .unset] [(.int (p1 ||| p2))])) _
              refine XS.iloadN X0.here hx rfl (hb hby at_101) rfl ?_
              show Steps p.tables e below (s₁.setTop (mkF m 102 #[.val (.int p1), .val (.int p2), .val (.int p3), .val (.int (p3 &&& (3 : Int32))), .val (.int ((1 : Int32) <<< ((p2 &&& (31 : Int32)) &&& 31))), .val (.int p1), .val (.int p2), .unset] [(.int p2), (.int (p1 ||| p2))])) _
              refine XS.icmpNo X0.here hx rfl (hb hby at_102) rfl (teq hc6).2 ?_
              show Steps p.tables e below (s₁.setTop (mkF m 105 #[.val (.int p1), .val (.int p2), .val (.int p3), .val (.int (p3 &&& (3 : Int32))), .val (.int ((1 : Int32) <<< ((p2 &&& (31 : Int32)) &&& 31))), .val (.int p1), .val (.int p2), .unset] [])) _
              refine XS.iloadN X0.here hx rfl (hb hby at_105) rfl ?_
              show Steps p.tables e below (s₁.setTop (mkF m 106 #[.val (.int p1), .val (.int p2), .val (.int p3), .val (.int (p3 &&& (3 : Int32))), .val (.int ((1 : Int32) <<< ((p2 &&& (31 : Int32)) &&& 31))), .val (.int p1), .val (.int p2), .unset] [(.int p1)])) _
              refine XS.iloadN X0.here hx rfl (hb hby at_106) rfl ?_
              show Steps p.tables e below (s₁.setTop (mkF m 107 #[.val (.int p1), .val (.int p2), .val (.int p3), .val (.int (p3 &&& (3 : Int32))), .val (.int ((1 : Int32) <<< ((p2 &&& (31 : Int32)) &&& 31))), .val (.int p1), .val (.int p2), .unset] [(.int p2), (.int p1)])) _
              refine XS.icmpNo X0.here hx rfl (hb hby at_107) rfl (feq hc7).1 ?_
              show Steps p.tables e below (s₁.setTop (mkF m 110 #[.val (.int p1), .val (.int p2), .val (.int p3), .val (.int (p3 &&& (3 : Int32))), .val (.int ((1 : Int32) <<< ((p2 &&& (31 : Int32)) &&& 31))), .val (.int p1), .val (.int p2), .unset] [])) _
              refine XS.iconst X0.here hx rfl (hb hby at_110) ?_
              show Steps p.tables e below (s₁.setTop (mkF m 111 #[.val (.int p1), .val (.int p2), .val (.int p3), .val (.int (p3 &&& (3 : Int32))), .val (.int ((1 : Int32) <<< ((p2 &&& (31 : Int32)) &&& 31))), .val (.int p1), .val (.int p2), .unset] [(.int (1 : Int32))])) _
              refine XS.goto X0.here hx rfl (pc0 := 111) (pc' := 115) rfl (hb hby at_111) (by decide) (by decide) ?_
              show Steps p.tables e below (s₁.setTop (mkF m 115 #[.val (.int p1), .val (.int p2), .val (.int p3), .val (.int (p3 &&& (3 : Int32))), .val (.int ((1 : Int32) <<< ((p2 &&& (31 : Int32)) &&& 31))), .val (.int p1), .val (.int p2), .unset] [(.int (1 : Int32))])) _
              refine XS.istore X0.here hx rfl (hb hby at_115) rfl (l' := #[.val (.int p1), .val (.int p2), .val (.int p3), .val (.int (p3 &&& (3 : Int32))), .val (.int ((1 : Int32) <<< ((p2 &&& (31 : Int32)) &&& 31))), .val (.int p1), .val (.int p2), .val (.int (1 : Int32))]) rfl ?_
              show Steps p.tables e below (s₁.setTop (mkF m 117 #[.val (.int p1), .val (.int p2), .val (.int p3), .val (.int (p3 &&& (3 : Int32))), .val (.int ((1 : Int32) <<< ((p2 &&& (31 : Int32)) &&& 31))), .val (.int p1), .val (.int p2), .val (.int (1 : Int32))] [])) _
              refine XS.iload X0.here hx rfl (hb hby at_117) rfl ?_
              show Steps p.tables e below (s₁.setTop (mkF m 119 #[.val (.int p1), .val (.int p2), .val (.int p3), .val (.int (p3 &&& (3 : Int32))), .val (.int ((1 : Int32) <<< ((p2 &&& (31 : Int32)) &&& 31))), .val (.int p1), .val (.int p2), .val (.int (1 : Int32))] [(.int p1)])) _
              refine XS.iload X0.here hx rfl (hb hby at_119) rfl ?_
              show Steps p.tables e below (s₁.setTop (mkF m 121 #[.val (.int p1), .val (.int p2), .val (.int p3), .val (.int (p3 &&& (3 : Int32))), .val (.int ((1 : Int32) <<< ((p2 &&& (31 : Int32)) &&& 31))), .val (.int p1), .val (.int p2), .val (.int (1 : Int32))] [(.int p2), (.int p1)])) _
              refine st7 _ ?_
              show Steps p.tables e below (T7.setTop (mkF m 124 #[.val (.int p1), .val (.int p2), .val (.int p3), .val (.int (p3 &&& (3 : Int32))), .val (.int ((1 : Int32) <<< ((p2 &&& (31 : Int32)) &&& 31))), .val (.int p1), .val (.int p2), .val (.int (1 : Int32))] [(.int (own_ps p1 p2))])) _
              refine XS.iload X7.here hx rfl (hb hby at_124) rfl ?_
              show Steps p.tables e below (T7.setTop (mkF m 126 #[.val (.int p1), .val (.int p2), .val (.int p3), .val (.int (p3 &&& (3 : Int32))), .val (.int ((1 : Int32) <<< ((p2 &&& (31 : Int32)) &&& 31))), .val (.int p1), .val (.int p2), .val (.int (1 : Int32))] [(.int (1 : Int32)), (.int (own_ps p1 p2))])) _
              refine XS.icmpNo X7.here hx rfl (hb hby at_126) rfl (teq (own_m3c hc6 hc7)).2 ?_
              show Steps p.tables e below (T7.setTop (mkF m 129 #[.val (.int p1), .val (.int p2), .val (.int p3), .val (.int (p3 &&& (3 : Int32))), .val (.int ((1 : Int32) <<< ((p2 &&& (31 : Int32)) &&& 31))), .val (.int p1), .val (.int p2), .val (.int (1 : Int32))] [])) _
              refine XS.iconst X7.here hx rfl (hb hby at_129) ?_
              show Steps p.tables e below (T7.setTop (mkF m 130 #[.val (.int p1), .val (.int p2), .val (.int p3), .val (.int (p3 &&& (3 : Int32))), .val (.int ((1 : Int32) <<< ((p2 &&& (31 : Int32)) &&& 31))), .val (.int p1), .val (.int p2), .val (.int (1 : Int32))] [(.int (1 : Int32))])) _
              refine XS.goto X7.here hx rfl (pc0 := 130) (pc' := 134) rfl (hb hby at_130) (by decide) (by decide) ?_
              show Steps p.tables e below (T7.setTop (mkF m 134 #[.val (.int p1), .val (.int p2), .val (.int p3), .val (.int (p3 &&& (3 : Int32))), .val (.int ((1 : Int32) <<< ((p2 &&& (31 : Int32)) &&& 31))), .val (.int p1), .val (.int p2), .val (.int (1 : Int32))] [(.int (1 : Int32))])) _
              exact retN X7 hx (t := .boolean) Bd.returns (by simp) (hb hby at_134) hr
            · show Q_rm0 Z p1 p2 p3 h0 n0 _ T7.heap _
              exact ⟨rfl, N7⟩
        · obtain ⟨_, _, ⟨T8, L8, k8, n8⟩, -, X8, ⟨Lc8, hQ8, l8, y8, z8⟩, st8⟩ := Jvm.LawKit.callS X0 hx (y := (⟨"com/example/entropic_join/entropicjoin/VariableSets", "isProperSubset", "(II)Z"⟩ : MethodName)) hown (mvT hZ (hw _ (List.mem_of_getElem? (i := 0) rfl))) (mvT hZ (hw _ (List.mem_of_getElem? (i := 1) rfl))) (mvT hZ (hw _ (List.mem_of_getElem? (i := 2) rfl))) (mvT hZ (hw _ (List.mem_of_getElem? (i := 3) rfl))) (by decide) (backOf (W := 0) (rm_ps l Z a0 hw [] p1 p2 h0 n0 Z0) hZ (hw _ (List.mem_of_getElem? (i := 3) rfl)) (hw _ (List.mem_of_getElem? (i := 2) rfl)) (by decide) (by decide)) (g := (mkF m 121 #[.val (.int p1), .val (.int p2), .val (.int p3), .val (.int (p3 &&& (3 : Int32))), .val (.int ((1 : Int32) <<< ((p2 &&& (31 : Int32)) &&& 31))), .val (.int p1), .val (.int p2), .val (.int (0 : Int32))] [(.int p2), (.int p1)])) rfl (by rw [hml]; rfl) (argsL := [(.int p1), (.int p2)]) (rest := []) (lenOf pd__40II_41Z rfl) rfl (by show 2 * 0 + _ ≤ _; exact Nat.le_of_eq rfl) (hb hby at_121) (fun _ _ => ⟨rfl, e0, (by decide : 0 + 0 ≤ _), (by decide : 0 + 0 ≤ _)⟩)
          dsimp only [Pt.U, Pt.locs, Pt.cells, Pt.slots] at X8 l8 y8 z8 st8 hQ8
          subst l8 y8 z8
          obtain ⟨rfl, Nq8, e8⟩ := hQ8
          have N8 := Fr.app N0 Nq8
          obtain ⟨fs, hr, hrun, hended, hW, hsame⟩ := X8.leave (v := some (.int (1 : Int32))) (fun h => by rw [Bd.returns] at h; cases h)
          refine ⟨_, _, pre0 _ ?_, hrun, hended, _, _, rfl, ?_, ⟨_, rfl⟩, hW, hsame.mono (by decide) (by decide)⟩
          · show Steps p.tables e below (s₁.setTop (mkF m 0 #[.val (.int p1), .val (.int p2), .val (.int p3), .unset, .unset, .unset, .unset, .unset] [])) _
            refine XS.iloadN X0.here hx rfl (hb hby at_0) rfl ?_
            show Steps p.tables e below (s₁.setTop (mkF m 1 #[.val (.int p1), .val (.int p2), .val (.int p3), .unset, .unset, .unset, .unset, .unset] [(.int p3)])) _
            refine XS.iconst X0.here hx rfl (hb hby at_1) ?_
            show Steps p.tables e below (s₁.setTop (mkF m 2 #[.val (.int p1), .val (.int p2), .val (.int p3), .unset, .unset, .unset, .unset, .unset] [(.int (3 : Int32)), (.int p3)])) _
            refine XS.iand X0.here hx rfl (hb hby at_2) rfl ?_
            show Steps p.tables e below (s₁.setTop (mkF m 3 #[.val (.int p1), .val (.int p2), .val (.int p3), .unset, .unset, .unset, .unset, .unset] [(.int (p3 &&& (3 : Int32)))])) _
            refine XS.istoreN X0.here hx rfl (hb hby at_3) rfl (l' := #[.val (.int p1), .val (.int p2), .val (.int p3), .val (.int (p3 &&& (3 : Int32))), .unset, .unset, .unset, .unset]) rfl ?_
            show Steps p.tables e below (s₁.setTop (mkF m 4 #[.val (.int p1), .val (.int p2), .val (.int p3), .val (.int (p3 &&& (3 : Int32))), .unset, .unset, .unset, .unset] [])) _
            refine XS.iconst X0.here hx rfl (hb hby at_4) ?_
            show Steps p.tables e below (s₁.setTop (mkF m 5 #[.val (.int p1), .val (.int p2), .val (.int p3), .val (.int (p3 &&& (3 : Int32))), .unset, .unset, .unset, .unset] [(.int (1 : Int32))])) _
            refine XS.iloadN X0.here hx rfl (hb hby at_5) rfl ?_
            show Steps p.tables e below (s₁.setTop (mkF m 6 #[.val (.int p1), .val (.int p2), .val (.int p3), .val (.int (p3 &&& (3 : Int32))), .unset, .unset, .unset, .unset] [(.int p2), (.int (1 : Int32))])) _
            refine XS.bipush X0.here hx rfl (hb hby at_6) ?_
            show Steps p.tables e below (s₁.setTop (mkF m 8 #[.val (.int p1), .val (.int p2), .val (.int p3), .val (.int (p3 &&& (3 : Int32))), .unset, .unset, .unset, .unset] [(.int (31 : Int32)), (.int p2), (.int (1 : Int32))])) _
            refine XS.iand X0.here hx rfl (hb hby at_8) rfl ?_
            show Steps p.tables e below (s₁.setTop (mkF m 9 #[.val (.int p1), .val (.int p2), .val (.int p3), .val (.int (p3 &&& (3 : Int32))), .unset, .unset, .unset, .unset] [(.int (p2 &&& (31 : Int32))), (.int (1 : Int32))])) _
            refine XS.ishl X0.here hx rfl (hb hby at_9) rfl ?_
            show Steps p.tables e below (s₁.setTop (mkF m 10 #[.val (.int p1), .val (.int p2), .val (.int p3), .val (.int (p3 &&& (3 : Int32))), .unset, .unset, .unset, .unset] [(.int ((1 : Int32) <<< ((p2 &&& (31 : Int32)) &&& 31)))])) _
            refine XS.istore X0.here hx rfl (hb hby at_10) rfl (l' := #[.val (.int p1), .val (.int p2), .val (.int p3), .val (.int (p3 &&& (3 : Int32))), .val (.int ((1 : Int32) <<< ((p2 &&& (31 : Int32)) &&& 31))), .unset, .unset, .unset]) rfl ?_
            show Steps p.tables e below (s₁.setTop (mkF m 12 #[.val (.int p1), .val (.int p2), .val (.int p3), .val (.int (p3 &&& (3 : Int32))), .val (.int ((1 : Int32) <<< ((p2 &&& (31 : Int32)) &&& 31))), .unset, .unset, .unset] [])) _
            refine XS.iloadN X0.here hx rfl (hb hby at_12) rfl ?_
            show Steps p.tables e below (s₁.setTop (mkF m 13 #[.val (.int p1), .val (.int p2), .val (.int p3), .val (.int (p3 &&& (3 : Int32))), .val (.int ((1 : Int32) <<< ((p2 &&& (31 : Int32)) &&& 31))), .unset, .unset, .unset] [(.int (p3 &&& (3 : Int32)))])) _
            refine XS.ifYes X0.here hx rfl (pc0 := 13) (pc' := 42) rfl (hb hby at_13) rfl ((if0 _ _).trans (feq hc1).2) (by decide) (by decide) ?_
            show Steps p.tables e below (s₁.setTop (mkF m 42 #[.val (.int p1), .val (.int p2), .val (.int p3), .val (.int (p3 &&& (3 : Int32))), .val (.int ((1 : Int32) <<< ((p2 &&& (31 : Int32)) &&& 31))), .unset, .unset, .unset] [])) _
            refine XS.iloadN X0.here hx rfl (hb hby at_42) rfl ?_
            show Steps p.tables e below (s₁.setTop (mkF m 43 #[.val (.int p1), .val (.int p2), .val (.int p3), .val (.int (p3 &&& (3 : Int32))), .val (.int ((1 : Int32) <<< ((p2 &&& (31 : Int32)) &&& 31))), .unset, .unset, .unset] [(.int (p3 &&& (3 : Int32)))])) _
            refine XS.iconst X0.here hx rfl (hb hby at_43) ?_
            show Steps p.tables e below (s₁.setTop (mkF m 44 #[.val (.int p1), .val (.int p2), .val (.int p3), .val (.int (p3 &&& (3 : Int32))), .val (.int ((1 : Int32) <<< ((p2 &&& (31 : Int32)) &&& 31))), .unset, .unset, .unset] [(.int (1 : Int32)), (.int (p3 &&& (3 : Int32)))])) _
            refine XS.icmpYes X0.here hx rfl (pc0 := 44) (pc' := 59) rfl (hb hby at_44) rfl (feq hc3).2 (by decide) (by decide) ?_
            show Steps p.tables e below (s₁.setTop (mkF m 59 #[.val (.int p1), .val (.int p2), .val (.int p3), .val (.int (p3 &&& (3 : Int32))), .val (.int ((1 : Int32) <<< ((p2 &&& (31 : Int32)) &&& 31))), .unset, .unset, .unset] [])) _
            refine XS.iloadN X0.here hx rfl (hb hby at_59) rfl ?_
            show Steps p.tables e below (s₁.setTop (mkF m 60 #[.val (.int p1), .val (.int p2), .val (.int p3), .val (.int (p3 &&& (3 : Int32))), .val (.int ((1 : Int32) <<< ((p2 &&& (31 : Int32)) &&& 31))), .unset, .unset, .unset] [(.int (p3 &&& (3 : Int32)))])) _
            refine XS.iconst X0.here hx rfl (hb hby at_60) ?_
            show Steps p.tables e below (s₁.setTop (mkF m 61 #[.val (.int p1), .val (.int p2), .val (.int p3), .val (.int (p3 &&& (3 : Int32))), .val (.int ((1 : Int32) <<< ((p2 &&& (31 : Int32)) &&& 31))), .unset, .unset, .unset] [(.int (2 : Int32)), (.int (p3 &&& (3 : Int32)))])) _
            refine XS.icmpYes X0.here hx rfl (pc0 := 61) (pc' := 92) rfl (hb hby at_61) rfl (feq hc4).2 (by decide) (by decide) ?_
            show Steps p.tables e below (s₁.setTop (mkF m 92 #[.val (.int p1), .val (.int p2), .val (.int p3), .val (.int (p3 &&& (3 : Int32))), .val (.int ((1 : Int32) <<< ((p2 &&& (31 : Int32)) &&& 31))), .unset, .unset, .unset] [])) _
            refine XS.iloadN X0.here hx rfl (hb hby at_92) rfl ?_
            show Steps p.tables e below (s₁.setTop (mkF m 93 #[.val (.int p1), .val (.int p2), .val (.int p3), .val (.int (p3 &&& (3 : Int32))), .val (.int ((1 : Int32) <<< ((p2 &&& (31 : Int32)) &&& 31))), .unset, .unset, .unset] [(.int p1)])) _
            refine XS.istore X0.here hx rfl (hb hby at_93) rfl (l' := #[.val (.int p1), .val (.int p2), .val (.int p3), .val (.int (p3 &&& (3 : Int32))), .val (.int ((1 : Int32) <<< ((p2 &&& (31 : Int32)) &&& 31))), .val (.int p1), .unset, .unset]) rfl ?_
            show Steps p.tables e below (s₁.setTop (mkF m 95 #[.val (.int p1), .val (.int p2), .val (.int p3), .val (.int (p3 &&& (3 : Int32))), .val (.int ((1 : Int32) <<< ((p2 &&& (31 : Int32)) &&& 31))), .val (.int p1), .unset, .unset] [])) _
            refine XS.iloadN X0.here hx rfl (hb hby at_95) rfl ?_
            show Steps p.tables e below (s₁.setTop (mkF m 96 #[.val (.int p1), .val (.int p2), .val (.int p3), .val (.int (p3 &&& (3 : Int32))), .val (.int ((1 : Int32) <<< ((p2 &&& (31 : Int32)) &&& 31))), .val (.int p1), .unset, .unset] [(.int p2)])) _
            refine XS.istore X0.here hx rfl (hb hby at_96) rfl (l' := #[.val (.int p1), .val (.int p2), .val (.int p3), .val (.int (p3 &&& (3 : Int32))), .val (.int ((1 : Int32) <<< ((p2 &&& (31 : Int32)) &&& 31))), .val (.int p1), .val (.int p2), .unset]) rfl ?_
            show Steps p.tables e below (s₁.setTop (mkF m 98 #[.val (.int p1), .val (.int p2), .val (.int p3), .val (.int (p3 &&& (3 : Int32))), .val (.int ((1 : Int32) <<< ((p2 &&& (31 : Int32)) &&& 31))), .val (.int p1), .val (.int p2), .unset] [])) _
            refine XS.iloadN X0.here hx rfl (hb hby at_98) rfl ?_
            show Steps p.tables e below (s₁.setTop (mkF m 99 #[.val (.int p1), .val (.int p2), .val (.int p3), .val (.int (p3 &&& (3 : Int32))), .val (.int ((1 : Int32) <<< ((p2 &&& (31 : Int32)) &&& 31))), .val (.int p1), .val (.int p2), .unset] [(.int p1)])) _
            refine XS.iloadN X0.here hx rfl (hb hby at_99) rfl ?_
            show Steps p.tables e below (s₁.setTop (mkF m 100 #[.val (.int p1), .val (.int p2), .val (.int p3), .val (.int (p3 &&& (3 : Int32))), .val (.int ((1 : Int32) <<< ((p2 &&& (31 : Int32)) &&& 31))), .val (.int p1), .val (.int p2), .unset] [(.int p2), (.int p1)])) _
            refine XS.ior X0.here hx rfl (hb hby at_100) rfl ?_
            show Steps p.tables e below (s₁.setTop (mkF m 101 #[.val (.int p1), .val (.int p2), .val (.int p3), .val (.int (p3 &&& (3 : Int32))), .val (.int ((1 : Int32) <<< ((p2 &&& (31 : Int32)) &&& 31))), .val (.int p1), .val (.int p2), .unset] [(.int (p1 ||| p2))])) _
            refine XS.iloadN X0.here hx rfl (hb hby at_101) rfl ?_
            show Steps p.tables e below (s₁.setTop (mkF m 102 #[.val (.int p1), .val (.int p2), .val (.int p3), .val (.int (p3 &&& (3 : Int32))), .val (.int ((1 : Int32) <<< ((p2 &&& (31 : Int32)) &&& 31))), .val (.int p1), .val (.int p2), .unset] [(.int p2), (.int (p1 ||| p2))])) _
            refine XS.icmpYes X0.here hx rfl (pc0 := 102) (pc' := 114) rfl (hb hby at_102) rfl (feq hc6).2 (by decide) (by decide) ?_
            show Steps p.tables e below (s₁.setTop (mkF m 114 #[.val (.int p1), .val (.int p2), .val (.int p3), .val (.int (p3 &&& (3 : Int32))), .val (.int ((1 : Int32) <<< ((p2 &&& (31 : Int32)) &&& 31))), .val (.int p1), .val (.int p2), .unset] [])) _
            refine XS.iconst X0.here hx rfl (hb hby at_114) ?_
            show Steps p.tables e below (s₁.setTop (mkF m 115 #[.val (.int p1), .val (.int p2), .val (.int p3), .val (.int (p3 &&& (3 : Int32))), .val (.int ((1 : Int32) <<< ((p2 &&& (31 : Int32)) &&& 31))), .val (.int p1), .val (.int p2), .unset] [(.int (0 : Int32))])) _
            refine XS.istore X0.here hx rfl (hb hby at_115) rfl (l' := #[.val (.int p1), .val (.int p2), .val (.int p3), .val (.int (p3 &&& (3 : Int32))), .val (.int ((1 : Int32) <<< ((p2 &&& (31 : Int32)) &&& 31))), .val (.int p1), .val (.int p2), .val (.int (0 : Int32))]) rfl ?_
            show Steps p.tables e below (s₁.setTop (mkF m 117 #[.val (.int p1), .val (.int p2), .val (.int p3), .val (.int (p3 &&& (3 : Int32))), .val (.int ((1 : Int32) <<< ((p2 &&& (31 : Int32)) &&& 31))), .val (.int p1), .val (.int p2), .val (.int (0 : Int32))] [])) _
            refine XS.iload X0.here hx rfl (hb hby at_117) rfl ?_
            show Steps p.tables e below (s₁.setTop (mkF m 119 #[.val (.int p1), .val (.int p2), .val (.int p3), .val (.int (p3 &&& (3 : Int32))), .val (.int ((1 : Int32) <<< ((p2 &&& (31 : Int32)) &&& 31))), .val (.int p1), .val (.int p2), .val (.int (0 : Int32))] [(.int p1)])) _
            refine XS.iload X0.here hx rfl (hb hby at_119) rfl ?_
            show Steps p.tables e below (s₁.setTop (mkF m 121 #[.val (.int p1), .val (.int p2), .val (.int p3), .val (.int (p3 &&& (3 : Int32))), .val (.int ((1 : Int32) <<< ((p2 &&& (31 : Int32)) &&& 31))), .val (.int p1), .val (.int p2), .val (.int (0 : Int32))] [(.int p2), (.int p1)])) _
            refine st8 _ ?_
            show Steps p.tables e below (T8.setTop (mkF m 124 #[.val (.int p1), .val (.int p2), .val (.int p3), .val (.int (p3 &&& (3 : Int32))), .val (.int ((1 : Int32) <<< ((p2 &&& (31 : Int32)) &&& 31))), .val (.int p1), .val (.int p2), .val (.int (0 : Int32))] [(.int (own_ps p1 p2))])) _
            refine XS.iload X8.here hx rfl (hb hby at_124) rfl ?_
            show Steps p.tables e below (T8.setTop (mkF m 126 #[.val (.int p1), .val (.int p2), .val (.int p3), .val (.int (p3 &&& (3 : Int32))), .val (.int ((1 : Int32) <<< ((p2 &&& (31 : Int32)) &&& 31))), .val (.int p1), .val (.int p2), .val (.int (0 : Int32))] [(.int (0 : Int32)), (.int (own_ps p1 p2))])) _
            refine XS.icmpNo X8.here hx rfl (hb hby at_126) rfl (teq (own_m3a hc6)).2 ?_
            show Steps p.tables e below (T8.setTop (mkF m 129 #[.val (.int p1), .val (.int p2), .val (.int p3), .val (.int (p3 &&& (3 : Int32))), .val (.int ((1 : Int32) <<< ((p2 &&& (31 : Int32)) &&& 31))), .val (.int p1), .val (.int p2), .val (.int (0 : Int32))] [])) _
            refine XS.iconst X8.here hx rfl (hb hby at_129) ?_
            show Steps p.tables e below (T8.setTop (mkF m 130 #[.val (.int p1), .val (.int p2), .val (.int p3), .val (.int (p3 &&& (3 : Int32))), .val (.int ((1 : Int32) <<< ((p2 &&& (31 : Int32)) &&& 31))), .val (.int p1), .val (.int p2), .val (.int (0 : Int32))] [(.int (1 : Int32))])) _
            refine XS.goto X8.here hx rfl (pc0 := 130) (pc' := 134) rfl (hb hby at_130) (by decide) (by decide) ?_
            show Steps p.tables e below (T8.setTop (mkF m 134 #[.val (.int p1), .val (.int p2), .val (.int p3), .val (.int (p3 &&& (3 : Int32))), .val (.int ((1 : Int32) <<< ((p2 &&& (31 : Int32)) &&& 31))), .val (.int p1), .val (.int p2), .val (.int (0 : Int32))] [(.int (1 : Int32))])) _
            exact retN X8 hx (t := .boolean) Bd.returns (by simp) (hb hby at_134) hr
          · show Q_rm0 Z p1 p2 p3 h0 n0 _ T8.heap _
            exact ⟨rfl, N8⟩
set_option maxRecDepth 65536 in
set_option maxHeartbeats 40000000 in
theorem comes_1 {Post : Tables → Env → Array Value → State → Outcome → State → Prop} (hpost : ∀ tb e args s v u, (limb_1_1.after args s (.returned v) u = true ∧ limb_1_2.after args s (.returned v) u = true ∧ True) → FrameEnd s (.returned v) u (Jvm.fieldLocs frame_1_writes args s ++ Jvm.arrayLocs frame_1_arrays args s ++ Jvm.staticLocs frame_1_statics s) 0 0 → Post tb e args s (.returned v) u) :
    ArmFor flags0 classFile x code maxLocals ret World_1 tables_1 room_1 Calls_1 rest_1 Pre_1 Post := by
  intro l hfl _ _ p e ha hc hk s m args below hf hA hF happ hP
  obtain ⟨hcalls, hrest, hpre⟩ := hP
  obtain ⟨-, -, -, hnamed, -, -, -, hat⟩ := (Spec.applies_iff hf).mp happ
  obtain ⟨hg, hn⟩ := and_e (Cond.before_iff.mp (show (Jvm.Cond.and given_1 narrow_1).before args s = true from hpre))
  obtain ⟨gg1, gg2⟩ := and_e hg
  obtain ⟨gg3, gg4⟩ := and_e gg2
  obtain ⟨gg5, gg6⟩ := and_e gg4
  obtain ⟨w0, w1, w2, rfl⟩ : ∃ w0 w1 w2 : Value, args = #[w0, w1, w2] := by
    have hs : args.size = 3 := by simpa [Cond.value, given_1] using gg1
    obtain ⟨L⟩ := args
    match L, hs with
    | [w0, w1, w2], _ => exact ⟨w0, w1, w2, rfl⟩
  have hw := fun d (hd : d ∈ tables_1) => atoms_spec (ws := Jvm.Cond.code x code maxLocals ret :: tables_1) hat d (List.mem_cons_of_mem _ hd)
  have hfit : Fit s := fun {y c} hc i hi => by
    obtain ⟨ha, rfl⟩ := Array.getElem?_eq_some_iff.mp hc
    have q := List.all_eq_true.mp ((Array.all_eq_true_iff_forall_mem.mp hF) _ (Array.getElem_mem ha)) i (List.mem_range.mpr hi)
    simpa [Array.getElem?_eq_getElem hi] using q
  obtain ⟨i0, ei0⟩ := is_v gg3
  obtain rfl : w0 = (.int i0) := Option.some.inj ei0
  obtain ⟨i1, ei1⟩ := is_v gg5
  obtain rfl : w1 = (.int i1) := Option.some.inj ei1
  obtain ⟨i2, ei2⟩ := is_v gg6
  obtain rfl : w2 = (.int i2) := Option.some.inj ei2
  obtain ⟨n, o, h1, h2, h3, _, L, rfl, ⟨rfl, N⟩, hq⟩ := rm0 l s _ hw tables_1 i0 i1 i2 s.heap s.heap.size (Nat.le_refl _) p e ha hc hk s m _ below hf ((Spec.applies_iff_loose hf).mp happ).1 ⟨rfl, State.Warmed39.refl s, rfl⟩ trivial
  refine ⟨n, _, h1, h2, h3, hpost _ _ _ _ _ _ ⟨Cond.after_iff.mpr rfl, Cond.after_iff.mpr (eq_i res_at (Term.int_eval (1)) rfl), trivial⟩ ⟨hq.1, hq.2.1, (hq.2.2.sift fun y hy => Or.inr (N y hy)).mono (by decide) (by decide)⟩⟩
theorem main_1_1 : Claimed_1_1 := comes_1 fun _ _ _ _ _ _ h hF => ⟨h.1, hF⟩
theorem main_1_2 : Claimed_1_2 := comes_1 fun _ _ _ _ _ _ h hF => ⟨h.2.1, hF⟩
end Jvm.Pilot.@@N@@
namespace Jvm.Pilot.@@N@@
open Jvm Jvm.ClassFile Sem Op Lib Jvm.Free Jvm.Stand Jvm.Pilot.@@N@@.Jvm.D
/-! MADE BY PROGRAM (witnessworld.py) out of the Statement's table words and the real class files: 9 classes; the members and pool entries that the words name. The judged class is class 1, her method 1. -/
namespace start1
open Jvm.ClassFile
def u (s : String) : CpInfo := .utf8 (stringToUtf16 s)
/-- a pool by its gaps: so many unusable entries, then the entry; so many at the end -/
def gap : Nat → List CpInfo → List CpInfo
  | 0, r => r
  | n + 1, r => .unusable :: gap n r
def poolList (es : List (Nat × CpInfo)) (last : Nat) : List CpInfo := es.foldr (fun e r => gap e.1 (e.2 :: r)) (gap last [])
def pool (es : List (Nat × CpInfo)) (last : Nat) : Array CpInfo := ⟨poolList es last⟩
def fileOf (pool : Array CpInfo) (this : Nat) (attrs : Array Attribute := #[]) (ms : Array MethodInfo := #[]) (fl : Nat := 33) (sup : Nat := 0) (ifs : Array Nat := #[]) (fds : Array FieldInfo := #[]) : ClassFile where
  minorVersion := 0
  majorVersion := 65
  constantPool := pool
  accessFlags := fl
  thisClass := this
  superClass := sup
  interfaces := ifs
  fields := fds
  methods := ms
  attributes := attrs
def plain (name : String) (sup : Option ClassId) : Class where
  name := name
  kind := .ordinary
  loader := none
  accessFlags := 33
  super := sup
  interfaces := #[]
  cf := none
  fields := #[]
  methods := #[]
  instanceTypes := #[]
  staticTypes := #[]
  resolved := #[]
  callSites := []
  init := .initialized
  statics := none
  mirror := none

def pool0 : Array CpInfo := pool [(5, u "<init>"), (0, u "()V"), (1, .class_ 10), (1, u "java/lang/Object")] 113

def k0m0 : Method := { name := "<init>", desc := "()V", sig := { parameters := [], returnType := none }, accessFlags := 1, code := none }
/-- java/lang/Object -/
def k0 : Class := { plain "java/lang/Object" none with
  accessFlags := 33
  interfaces := #[]
  cf := some (fileOf pool0 8 #[] #[{ accessFlags := 1, nameIndex := 5, descriptorIndex := 6, attributes := #[] }] 33 0 #[] #[])
  fields := #[]
  methods := #[k0m0]
  instanceTypes := #[]
  staticTypes := #[]
  resolved := Array.replicate 124 none
  statics := none }

def pool1 : Array CpInfo := pool [(2, .class_ 4), (1, u "java/lang/Object"), (0, u "<init>"), (0, u "()V"), (0, .methodref 8 9), (0, .class_ 10), (0, .nameAndType 11 12), (0, u "com/example/entropic_join/entropicjoin/VariableSets"), (0, u "isProperSubset"), (0, u "(II)Z"), (0, .class_ 14), (0, u "com/example/entropic_join/entropicjoin/VariableSetsIsProperSubsetPinLaw"), (2, u "law"), (0, u "(III)Z")] 3

def k1m0 : Method := { name := "<init>", desc := "()V", sig := { parameters := [], returnType := none }, accessFlags := 2, code := none }
def k1c1 : Code := { maxStack := 3, maxLocals := 8, code := code, exceptionTable := #[], attributes := #[] }
def k1m1 : Method := { name := "law", desc := "(III)Z", sig := { parameters := [.int, .int, .int], returnType := some .boolean }, accessFlags := 9, code := some k1c1 }
/-- com/example/entropic_join/entropicjoin/VariableSetsIsProperSubsetPinLaw -/
def k1 : Class := { plain "com/example/entropic_join/entropicjoin/VariableSetsIsProperSubsetPinLaw" (some 0) with
  accessFlags := 49
  interfaces := #[]
  cf := some (fileOf pool1 13 #[] #[{ accessFlags := 2, nameIndex := 5, descriptorIndex := 6, attributes := #[] }, { accessFlags := 9, nameIndex := 17, descriptorIndex := 18, attributes := #[] }] 49 2 #[] #[])
  fields := #[]
  methods := #[k1m0, k1m1]
  instanceTypes := #[]
  staticTypes := #[]
  resolved := Array.replicate 22 none
  statics := none }

def pool2 : Array CpInfo := pool [(4, .class_ 6), (1, u "java/lang/Object"), (0, u "<init>"), (0, u "()V"), (48, .class_ 59), (1, u "com/example/entropic_join/entropicjoin/VariableSets"), (21, u "MAX_VARIABLES"), (0, u "I"), (17, u "isProperSubset"), (0, u "(II)Z")] 6

def k2m0 : Method := { name := "<init>", desc := "()V", sig := { parameters := [], returnType := none }, accessFlags := 2, code := none }
def k2c1 : Code := { maxStack := 3, maxLocals := 2, code := prog_67_method_6_code, exceptionTable := #[], attributes := #[] }
def k2m1 : Method := { name := "isProperSubset", desc := "(II)Z", sig := { parameters := [.int, .int], returnType := some .boolean }, accessFlags := 8, code := some k2c1 }
/-- com/example/entropic_join/entropicjoin/VariableSets -/
def k2 : Class := { plain "com/example/entropic_join/entropicjoin/VariableSets" (some 0) with
  accessFlags := 48
  interfaces := #[]
  cf := some (fileOf pool2 57 #[] #[{ accessFlags := 2, nameIndex := 7, descriptorIndex := 8, attributes := #[] }, { accessFlags := 8, nameIndex := 100, descriptorIndex := 101, attributes := #[] }] 48 4 #[] #[{ accessFlags := 24, nameIndex := 81, descriptorIndex := 82, attributes := #[] }])
  fields := #[{ name := "MAX_VARIABLES", type := .int, accessFlags := 24, slot := 0, constantValue := 0 }]
  methods := #[k2m0, k2m1]
  instanceTypes := #[]
  staticTypes := #[.int]
  resolved := Array.replicate 108 none
  statics := none }

def pool3 : Array CpInfo := pool [(1, u "java/lang/Cloneable"), (0, .class_ 1), (0, u "java/lang/Object"), (0, .class_ 3)] 3

/-- java/lang/Cloneable -/
def k3 : Class := { plain "java/lang/Cloneable" (some 0) with
  accessFlags := 1537
  interfaces := #[]
  cf := some (fileOf pool3 2 #[] #[] 1537 4 #[] #[])
  fields := #[]
  methods := #[]
  instanceTypes := #[]
  staticTypes := #[]
  resolved := Array.replicate 8 none
  statics := none }

def pool4 : Array CpInfo := pool [(1, u "java/io/Serializable"), (0, .class_ 1), (0, u "java/lang/Object"), (0, .class_ 3)] 3

/-- java/io/Serializable -/
def k4 : Class := { plain "java/io/Serializable" (some 0) with
  accessFlags := 1537
  interfaces := #[]
  cf := some (fileOf pool4 2 #[] #[] 1537 4 #[] #[])
  fields := #[]
  methods := #[]
  instanceTypes := #[]
  staticTypes := #[]
  resolved := Array.replicate 8 none
  statics := none }

/-- the primitive byte -/
def k5 : Class := { plain "byte" none with kind := .primitive 'B', accessFlags := 0x411 }
/-- [B -/
def k6 : Class := { plain "[B" (some 0) with kind := .array 5 .byte, interfaces := #[3, 4], accessFlags := 1041 }

/-- the primitive int -/
def k7 : Class := { plain "int" none with kind := .primitive 'I', accessFlags := 0x411 }
/-- [I -/
def k8 : Class := { plain "[I" (some 0) with kind := .array 7 .int, interfaces := #[3, 4], accessFlags := 1041 }

def heap : Heap := #[]
def classes : Array Class := #[k0, k1, k2, k3, k4, k5, k6, k7, k8]
def interned : List (Array UInt16 × Addr) := []
def slotsUsed : Nat := 0
def theMethod : MethodId := ⟨1, 1⟩
def args0 : Array Value := #[.int 3, .int 4, .int 0]
def aboutOver (below : List Frame) : State where
  vm := { classes := classes, interned := interned.toArray }
  heap := heap
  slotsUsed := slotsUsed
  threads := #[{ frames := .invoking theMethod args0 :: below }]
def below0 : List Frame := [.native { method := ⟨0, 0⟩, args := #[] }]
def about1 : State := aboutOver below0
def p0 : Program := .bare "" "" ""
def e0 : Env := launch0.env 0 0 0
theorem w_frames : about1.frames = Frame.invoking theMethod args0 :: below0 := rfl
set_option maxRecDepth 65536 in
theorem w_args : argsFit about1.vm theMethod args0 = true := by decide +kernel
set_option maxRecDepth 65536 in
theorem w_heap : heapFits about1 = true := by decide +kernel
set_option maxRecDepth 65536 in
theorem w_runnable : about1.curStatus? = some .runnable := by decide +kernel
set_option maxRecDepth 65536 in
theorem w_alone : about1.alone = true := by decide +kernel
set_option maxRecDepth 65536 in
theorem w_named : about1.methodNamed? x = some theMethod := by decide +kernel
set_option maxRecDepth 65536 in
theorem w_hears : about1.hears theMethod below0 = true := by decide +kernel
set_option maxRecDepth 65536 in
theorem w_ripe : about1.ripe theMethod args0 below0 = true := by decide +kernel
theorem w_running : about1.status = .running := rfl
set_option maxRecDepth 65536 in
theorem w_room : about1.hasRoom e0.platform room_1 = true :=
  launch0.hasRoom_least _ room_1 (by decide +kernel) (by decide +kernel) (by decide +kernel) (by decide +kernel) (by decide +kernel) (by decide +kernel)
theorem allAtoms_all (ts : List Jvm.Cond) (a : Array Jvm.Value) (st : Jvm.State) : (allAtoms ts).before a st = ts.all (fun c => c.before a st) := by
  induction ts with
  | nil => rfl
  | cons c t ih =>
    show (Jvm.Cond.and c (allAtoms t)).before a st = _
    rw [Jvm.Cond.before_and, ih, List.all_cons]
def words1 : List Jvm.Cond := Jvm.Cond.code x code maxLocals ret :: tables_1
/-- a 'code' word, met by the world's own term for the bytes: nothing is compared byte by byte -/
theorem code_word {y : MethodName} {bytes : ByteArray} {mx : Nat} {rt : Option FieldType} {a : Array Value} {s : State} {m : MethodId} {meth : Method} {c : Code} (h1 : s.methodNamed? y = some m) (h2 : s.vm.method? m = some meth) (h3 : meth.code = some c) (h4 : c.code = bytes)
    (h5 : (c.maxLocals == mx && c.exceptionTable.isEmpty && decide (c.maxStack ≤ mostOperands) && decide (meth.sig.returnType = rt) && !meth.locks && decide (parseMethodDescriptor y.desc = some meth.sig)) = true) : (Jvm.Cond.code y bytes mx rt).before a s = true := by
  simp only [Bool.and_eq_true, beq_iff_eq, Bool.not_eq_true', decide_eq_true_eq] at h5
  obtain ⟨⟨⟨⟨⟨g1, g2⟩, g3⟩, g4⟩, g5⟩, g6⟩ := h5
  simp [Cond.before, Cond.holds, Cond.value, h1, h2, h3, h4, g1, g2, g3, g4, g5, g6]
def isCode : Jvm.Cond → Bool
  | .code _ _ _ _ => true
  | _ => false
theorem all_split {L : List Jvm.Cond} {P : Jvm.Cond → Bool} (h1 : L.all (fun c => isCode c || P c) = true) (h2 : ∀ c ∈ L.filter isCode, P c = true) : L.all P = true := by
  refine List.all_eq_true.mpr fun c hc => ?_
  have h := List.all_eq_true.mp h1 c hc
  rcases Bool.eq_false_or_eq_true (isCode c) with hi | hi
  · exact h2 c (List.mem_filter.mpr ⟨hc, hi⟩)
  · simpa [hi] using h
set_option maxRecDepth 65536 in
theorem w_c0 : (Jvm.Cond.code x code maxLocals ret).before args0 about1 = true := code_word (m := ⟨1, 1⟩) (meth := k1m1) (c := k1c1) (by decide +kernel) rfl rfl rfl (by decide +kernel)
set_option maxRecDepth 65536 in
theorem w_c1 : (Jvm.Cond.code ({ cls := "com/example/entropic_join/entropicjoin/VariableSets", name := "isProperSubset", desc := "(II)Z" } : Jvm.MethodName) prog_67_method_6_code (2 : Nat) (Option.some Jvm.ClassFile.FieldType.boolean)).before args0 about1 = true := code_word (m := ⟨2, 1⟩) (meth := k2m1) (c := k2c1) (by decide +kernel) rfl rfl rfl (by decide +kernel)
def codes1 : List Jvm.Cond := [Jvm.Cond.code x code maxLocals ret, Jvm.Cond.code ({ cls := "com/example/entropic_join/entropicjoin/VariableSets", name := "isProperSubset", desc := "(II)Z" } : Jvm.MethodName) prog_67_method_6_code (2 : Nat) (Option.some Jvm.ClassFile.FieldType.boolean)]
set_option maxRecDepth 65536 in
theorem codes_eq : words1.filter isCode = codes1 := rfl
theorem w_codes : ∀ c ∈ words1.filter isCode, c.before args0 about1 = true := by
  rw [codes_eq]
  intro c hc
  simp only [codes1, List.mem_cons, List.not_mem_nil, or_false] at hc
  rcases hc with rfl | rfl
  · exact w_c0
  · exact w_c1
set_option maxRecDepth 65536 in
theorem w_t1 : words1.all (fun c => isCode c || c.before args0 about1) = true := by decide +kernel
theorem w_tables : (allAtoms (Jvm.Cond.code x code maxLocals ret :: tables_1)).before args0 about1 = true := by
  rw [allAtoms_all]
  show words1.all (fun c => c.before args0 about1) = true
  refine all_split ?_ w_codes
  rw [w_t1]
set_option maxRecDepth 65536 in
theorem w_case : (Jvm.Cond.and given_1 narrow_1).before args0 about1 = true := by decide +kernel
theorem w_applies : (headSpec (Jvm.Cond.code x code maxLocals ret :: tables_1) room_1).applies x e0.platform about1 = true :=
  (Spec.applies_iff w_frames).mpr ⟨w_running, w_runnable, w_alone, w_named, w_hears, w_ripe, w_room, w_tables⟩
theorem atStart : AtStart classFile x code maxLocals ret World_1 tables_1 room_1 Calls_1 rest_1 Pre_1 launch0 p0 e0 about1 theMethod args0 below0 :=
  ⟨lists_1, trivial, launch0.admits_env _ _ _, launch0.least_env, fairChoices_fair.cas, fairChoices_fair.clock, w_frames, w_args, w_heap, w_applies, trivial, trivial, w_case⟩
end start1
theorem witness_1 : WitnessClaimed_1 := ⟨start1.p0, start1.e0, start1.about1, start1.theMethod, start1.args0, start1.below0, start1.atStart⟩
end Jvm.Pilot.@@N@@
