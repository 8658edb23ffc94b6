import JvmDerived
import JvmDerived.Pilot.@@N@@Statement
import JvmDerived.Pilot.@@N@@Code
set_option linter.unusedVariables false
set_option linter.unusedSimpArgs false

namespace Jvm.RoadKit
open Sem ClassFile Op Lib Jvm.Stand Jvm.Free Jvm.LawKit
section New
variable {p : Program} {l : Launch} {e : Env} {R : Room} {s : State} {m : MethodId} {args : Array Value} {below : List Frame} {meth : Method} {c : Code} {T : State} {locs : List Loc} {cells slots : Nat}
theorem retI (X : Stand p l e R s m args below meth c T locs cells slots) (hx : p.tables.exec = Jvm.exec) {pc : Nat} {Ls : Array Slot} {z : Int32} {rest : List Value} (hret : meth.sig.returnType = some .int) (hd : decode c.code pc = .ok (.ireturn, 1)) {fs : List Frame}
    (hl : ∀ (f : JFrame) (acts : List Action), f.method = m → f.locked = none → f.entered = [] → (doReturn e (T.setTop f) acts (some (.int z))).1 = T.setFrames fs) : Steps p.tables e below (T.setTop (mkF m pc Ls (.int z :: rest))) (T.setFrames fs) := by
  exact retOut X hx hret rfl (Or.inl ⟨rfl, Or.inl rfl, _, rfl⟩) hd hl
end New
end Jvm.RoadKit
namespace Jvm.Pilot.@@N@@
open Jvm Jvm.ClassFile Sem Op Lib Jvm.Free Jvm.Stand Jvm.LawKit Jvm.RoadKit Bundle Jvm.Pilot.@@N@@.Jvm.D
def own_nw (a x : Int64) : Int64 := x * ((2 : Int64) - a * x)
def own_inv (a : Int64) : Int64 := own_nw a (own_nw a (own_nw a (own_nw a (own_nw a a))))
abbrev own_sr (x : Int64) (k : Int32) : Int64 := (x.toUInt64 >>> (k &&& 0x3f).toInt64.toUInt64).toInt64
def own_x32 (x : Int64) : Int64 := x ^^^ own_sr x 32
def own_x29 (x : Int64) : Int64 := x ^^^ own_sr x 29
def own_y29 (x : Int64) : Int64 := (x ^^^ own_sr x 29) ^^^ own_sr x 58
def own_unf (r inv : Int64) : Int64 := own_x32 (own_y29 (own_x32 r * inv) * inv)
def own_fin (h : Int64) : Int64 := own_x32 (own_x29 (own_x32 h * (-7046029254386353131 : Int64)) * (-7046029254386353131 : Int64))
theorem own_invM : own_inv (-7046029254386353131 : Int64) * (-7046029254386353131 : Int64) = (1 : Int64) := by decide +kernel
theorem own_srb (x : Int64) (k : Int32) (n : Nat) (hk : ((k &&& 0x3f).toInt64.toUInt64.toBitVec % 64#64).toNat = n) : (own_sr x k).toBitVec = x.toBitVec >>> n := by
  show x.toBitVec >>> ((k &&& 0x3f).toInt64.toUInt64.toBitVec % 64#64) = _
  rw [BitVec.ushiftRight_eq', hk]
theorem own_xx (b : BitVec 64) : (b ^^^ b >>> 32) ^^^ (b ^^^ b >>> 32) >>> 32 = b := by
  apply BitVec.eq_of_getLsbD_eq
  intro i hi
  simp only [BitVec.getLsbD_xor, BitVec.getLsbD_ushiftRight]
  have : b.getLsbD (32 + (32 + i)) = false := BitVec.getLsbD_of_ge _ _ (by omega)
  rw [this]
  cases b.getLsbD i <;> cases b.getLsbD (32 + i) <;> rfl
theorem own_yx (b : BitVec 64) : ((b ^^^ b >>> 29) ^^^ b >>> 58) ^^^ ((b ^^^ b >>> 29) ^^^ b >>> 58) >>> 29 = b := by
  apply BitVec.eq_of_getLsbD_eq
  intro i hi
  simp only [BitVec.getLsbD_xor, BitVec.getLsbD_ushiftRight]
  have e1 : b.getLsbD (58 + (29 + i)) = false := BitVec.getLsbD_of_ge _ _ (by omega)
  have e2 : 29 + (29 + i) = 58 + i := by omega
  rw [e1, e2]
  cases b.getLsbD i <;> cases b.getLsbD (29 + i) <;> cases b.getLsbD (58 + i) <;> rfl
theorem own_32 (x : Int64) : own_x32 (own_x32 x) = x := by
  apply Int64.toBitVec_inj.mp
  unfold own_x32
  rw [Int64.toBitVec_xor, own_srb _ 32 32 (by decide), Int64.toBitVec_xor, own_srb _ 32 32 (by decide)]
  exact own_xx _
theorem own_29 (x : Int64) : own_x29 (own_y29 x) = x := by
  apply Int64.toBitVec_inj.mp
  unfold own_x29 own_y29
  rw [Int64.toBitVec_xor, own_srb _ 29 29 (by decide), Int64.toBitVec_xor, Int64.toBitVec_xor, own_srb _ 29 29 (by decide), own_srb _ 58 58 (by decide)]
  exact own_yx _
theorem own_main (y : Int64) : own_fin (own_unf y (own_inv (-7046029254386353131 : Int64))) = y := by
  unfold own_fin own_unf
  rw [own_32, Int64.mul_assoc, own_invM, Int64.mul_one, own_29, Int64.mul_assoc, own_invM, Int64.mul_one, own_32]
theorem d1_0 : decode method_2_code 0 = .ok (.lload_n 0, 1) := by decide +kernel
theorem d1_1 : decode method_2_code 1 = .ok (.lstore_n 2, 1) := by decide +kernel
theorem d1_2 : decode method_2_code 2 = .ok (.lload_n 2, 1) := by decide +kernel
theorem d1_3 : decode method_2_code 3 = .ok (.ldc2_w 7, 3) := by decide +kernel
theorem d1_6 : decode method_2_code 6 = .ok (.lload_n 0, 1) := by decide +kernel
theorem d1_7 : decode method_2_code 7 = .ok (.lload_n 2, 1) := by decide +kernel
theorem d1_8 : decode method_2_code 8 = .ok (.lmul, 1) := by decide +kernel
theorem d1_9 : decode method_2_code 9 = .ok (.lsub, 1) := by decide +kernel
theorem d1_10 : decode method_2_code 10 = .ok (.lmul, 1) := by decide +kernel
theorem d1_11 : decode method_2_code 11 = .ok (.lstore_n 2, 1) := by decide +kernel
theorem d1_12 : decode method_2_code 12 = .ok (.lload_n 2, 1) := by decide +kernel
theorem d1_13 : decode method_2_code 13 = .ok (.ldc2_w 7, 3) := by decide +kernel
theorem d1_16 : decode method_2_code 16 = .ok (.lload_n 0, 1) := by decide +kernel
theorem d1_17 : decode method_2_code 17 = .ok (.lload_n 2, 1) := by decide +kernel
theorem d1_18 : decode method_2_code 18 = .ok (.lmul, 1) := by decide +kernel
theorem d1_19 : decode method_2_code 19 = .ok (.lsub, 1) := by decide +kernel
theorem d1_20 : decode method_2_code 20 = .ok (.lmul, 1) := by decide +kernel
theorem d1_21 : decode method_2_code 21 = .ok (.lstore_n 2, 1) := by decide +kernel
theorem d1_22 : decode method_2_code 22 = .ok (.lload_n 2, 1) := by decide +kernel
theorem d1_23 : decode method_2_code 23 = .ok (.ldc2_w 7, 3) := by decide +kernel
theorem d1_26 : decode method_2_code 26 = .ok (.lload_n 0, 1) := by decide +kernel
theorem d1_27 : decode method_2_code 27 = .ok (.lload_n 2, 1) := by decide +kernel
theorem d1_28 : decode method_2_code 28 = .ok (.lmul, 1) := by decide +kernel
theorem d1_29 : decode method_2_code 29 = .ok (.lsub, 1) := by decide +kernel
theorem d1_30 : decode method_2_code 30 = .ok (.lmul, 1) := by decide +kernel
theorem d1_31 : decode method_2_code 31 = .ok (.lstore_n 2, 1) := by decide +kernel
theorem d1_32 : decode method_2_code 32 = .ok (.lload_n 2, 1) := by decide +kernel
theorem d1_33 : decode method_2_code 33 = .ok (.ldc2_w 7, 3) := by decide +kernel
theorem d1_36 : decode method_2_code 36 = .ok (.lload_n 0, 1) := by decide +kernel
theorem d1_37 : decode method_2_code 37 = .ok (.lload_n 2, 1) := by decide +kernel
theorem d1_38 : decode method_2_code 38 = .ok (.lmul, 1) := by decide +kernel
theorem d1_39 : decode method_2_code 39 = .ok (.lsub, 1) := by decide +kernel
theorem d1_40 : decode method_2_code 40 = .ok (.lmul, 1) := by decide +kernel
theorem d1_41 : decode method_2_code 41 = .ok (.lstore_n 2, 1) := by decide +kernel
theorem d1_42 : decode method_2_code 42 = .ok (.lload_n 2, 1) := by decide +kernel
theorem d1_43 : decode method_2_code 43 = .ok (.ldc2_w 7, 3) := by decide +kernel
theorem d1_46 : decode method_2_code 46 = .ok (.lload_n 0, 1) := by decide +kernel
theorem d1_47 : decode method_2_code 47 = .ok (.lload_n 2, 1) := by decide +kernel
theorem d1_48 : decode method_2_code 48 = .ok (.lmul, 1) := by decide +kernel
theorem d1_49 : decode method_2_code 49 = .ok (.lsub, 1) := by decide +kernel
theorem d1_50 : decode method_2_code 50 = .ok (.lmul, 1) := by decide +kernel
theorem d1_51 : decode method_2_code 51 = .ok (.lstore_n 2, 1) := by decide +kernel
theorem d1_52 : decode method_2_code 52 = .ok (.lload_n 2, 1) := by decide +kernel
theorem d1_53 : decode method_2_code 53 = .ok (.lreturn, 1) := by decide +kernel
theorem pn_com_example_indberet_indberet_KeyTableFinishPinLaw : plainName "com/example/indberet/indberet/KeyTableFinishPinLaw" = true := by first | (simp [plainName, overriddenIn]; done) | decide +kernel
theorem ef_rm_inv (m : MethodId) (x0 : Int64) : entryFrame m #[(.long x0)] 4 = mkF m 0 #[.val (.long x0), .second, .unset, .unset] [] := by first | (simp [entryFrame, mkF, argsToLocals, Value.category]; done) | rfl
def Q_rm_inv (Z : State) (q1 : Int64) (h0 : Heap) (n0 : Nat) (v : Option Value) (h : Heap) (L : List Loc) : Prop := v = some (.long (own_inv q1)) ∧ Fr n0 L ∧ h = h0
set_option maxRecDepth 65536 in
set_option maxHeartbeats 40000000 in
theorem rm_inv (l : Launch) (Z : State) (a0 : Array Value) (hw : ∀ d ∈ tables_1, d.before a0 Z = true) (ws : List Jvm.Cond) (q1 : Int64) (h0 : Heap) (n0 : Nat) (Z0 : n0 ≤ h0.size) :
    MetFree l (⟨"com/example/indberet/indberet/KeyTableFinishPinLaw", "inverse", "(J)J"⟩ : MethodName) (head1 (Jvm.Cond.code (⟨"com/example/indberet/indberet/KeyTableFinishPinLaw", "inverse", "(J)J"⟩ : MethodName) method_2_code 4 (some .long) :: ws) ({ frames := 0, cells := 0, slots := 0, locals := 0 } : Room)) (fun a U => a = #[(.long q1)] ∧ Z.Warmed39 U.vm ∧ U.heap = h0) (fun _ _ _ _ _ => True) (fun _ U o U' => ∃ v L, o = .returned v ∧ Q_rm_inv Z q1 h0 n0 v U'.heap L ∧ FrameEnd U o U' L ({ frames := 0, cells := 0, slots := 0, locals := 0 } : Room).cells ({ frames := 0, cells := 0, slots := 0, locals := 0 } : Room).slots) := by
  refine MetFree.of_bodySF (plainFor_of_name pn_com_example_indberet_indberet_KeyTableFinishPinLaw) hisR ?_
  intro p e s m args below meth c s₁ Bd hml0 hP hK
  obtain ⟨rfl, hZ, hh⟩ := hP
  have hx := Bd.exec
  have hby := Bd.bytes
  have hml : c.maxLocals = 4 := hml0
  have hown : s.vm.findClass "com/example/indberet/indberet/KeyTableFinishPinLaw" = some m.cls := findClass_of_methodNamed Bd.named
  have hnm := (name_of_methodNamed Bd.named Bd.method).1
  have X0 : Stand p l e ({ frames := 0, cells := 0, slots := 0, locals := 0 } : Room) s m #[(.long q1)] below meth c s₁ [] 0 0 := Stand.of_body Bd
  have e0 : s₁.heap = h0 := by rw [← hh, Bd.state]; rfl
  have N0 := Fr.nil n0
  have pre0 : ∀ t, Steps p.tables e below (s₁.setTop (mkF m 0 #[.val (.long q1), .second, .unset, .unset] [])) t → Steps p.tables e below (s₁.setTop (entryFrame m #[(.long q1)] 4)) t := fun t k => castTop (ef_rm_inv m q1) k
  obtain ⟨fs, hr, hrun, hended, hW, hsame⟩ := X0.leave (v := some (.long (own_nw q1 (own_nw q1 (own_nw q1 (own_nw q1 (own_nw q1 q1))))))) (fun h => by rw [Bd.returns] at h; cases h)
  refine ⟨_, _, pre0 _ ?_, hrun, hended, _, _, rfl, ?_, ⟨_, rfl⟩, hW, hsame.mono (by decide) (by decide)⟩
  · show Steps p.tables e below (s₁.setTop (mkF m 0 #[.val (.long q1), .second, .unset, .unset] [])) _
    refine XS.lloadN X0.here hx rfl (hb hby d1_0) rfl ?_
    show Steps p.tables e below (s₁.setTop (mkF m 1 #[.val (.long q1), .second, .unset, .unset] [(.long q1)])) _
    refine XS.lstoreN X0.here hx rfl (hb hby d1_1) rfl (l' := #[.val (.long q1), .second, .val (.long q1), .second]) rfl ?_
    show Steps p.tables e below (s₁.setTop (mkF m 2 #[.val (.long q1), .second, .val (.long q1), .second] [])) _
    refine XS.lloadN X0.here hx rfl (hb hby d1_2) rfl ?_
    show Steps p.tables e below (s₁.setTop (mkF m 3 #[.val (.long q1), .second, .val (.long q1), .second] [(.long q1)])) _
    refine X0.ldc2Long hx hown (mvT hZ (hw _ (List.mem_of_getElem? (i := 5) rfl))) (g := (mkF m 3 #[.val (.long q1), .second, .val (.long q1), .second] [(.long q1)])) rfl (hb hby d1_3) _ ?_
    show Steps p.tables e below (s₁.setTop (mkF m 6 #[.val (.long q1), .second, .val (.long q1), .second] [(.long (2 : Int64)), (.long q1)])) _
    refine XS.lloadN X0.here hx rfl (hb hby d1_6) rfl ?_
    show Steps p.tables e below (s₁.setTop (mkF m 7 #[.val (.long q1), .second, .val (.long q1), .second] [(.long q1), (.long (2 : Int64)), (.long q1)])) _
    refine XS.lloadN X0.here hx rfl (hb hby d1_7) rfl ?_
    show Steps p.tables e below (s₁.setTop (mkF m 8 #[.val (.long q1), .second, .val (.long q1), .second] [(.long q1), (.long q1), (.long (2 : Int64)), (.long q1)])) _
    refine XS.lmul X0.here hx rfl (hb hby d1_8) rfl ?_
    show Steps p.tables e below (s₁.setTop (mkF m 9 #[.val (.long q1), .second, .val (.long q1), .second] [(.long (q1 * q1)), (.long (2 : Int64)), (.long q1)])) _
    refine XS.lsub X0.here hx rfl (hb hby d1_9) rfl ?_
    show Steps p.tables e below (s₁.setTop (mkF m 10 #[.val (.long q1), .second, .val (.long q1), .second] [(.long ((2 : Int64) - (q1 * q1))), (.long q1)])) _
    refine XS.lmul X0.here hx rfl (hb hby d1_10) rfl ?_
    show Steps p.tables e below (s₁.setTop (mkF m 11 #[.val (.long q1), .second, .val (.long q1), .second] [(.long (own_nw q1 q1))])) _
    show Steps p.tables e below (s₁.setTop (mkF m 11 #[.val (.long q1), .second, .val (.long q1), .second] [(.long (own_nw q1 q1))])) _
    refine XS.lstoreN X0.here hx rfl (hb hby d1_11) rfl (l' := #[.val (.long q1), .second, .val (.long (own_nw q1 q1)), .second]) rfl ?_
    show Steps p.tables e below (s₁.setTop (mkF m 12 #[.val (.long q1), .second, .val (.long (own_nw q1 q1)), .second] [])) _
    refine XS.lloadN X0.here hx rfl (hb hby d1_12) rfl ?_
    show Steps p.tables e below (s₁.setTop (mkF m 13 #[.val (.long q1), .second, .val (.long (own_nw q1 q1)), .second] [(.long (own_nw q1 q1))])) _
    refine X0.ldc2Long hx hown (mvT hZ (hw _ (List.mem_of_getElem? (i := 5) rfl))) (g := (mkF m 13 #[.val (.long q1), .second, .val (.long (own_nw q1 q1)), .second] [(.long (own_nw q1 q1))])) rfl (hb hby d1_13) _ ?_
    show Steps p.tables e below (s₁.setTop (mkF m 16 #[.val (.long q1), .second, .val (.long (own_nw q1 q1)), .second] [(.long (2 : Int64)), (.long (own_nw q1 q1))])) _
    refine XS.lloadN X0.here hx rfl (hb hby d1_16) rfl ?_
    show Steps p.tables e below (s₁.setTop (mkF m 17 #[.val (.long q1), .second, .val (.long (own_nw q1 q1)), .second] [(.long q1), (.long (2 : Int64)), (.long (own_nw q1 q1))])) _
    refine XS.lloadN X0.here hx rfl (hb hby d1_17) rfl ?_
    show Steps p.tables e below (s₁.setTop (mkF m 18 #[.val (.long q1), .second, .val (.long (own_nw q1 q1)), .second] [(.long (own_nw q1 q1)), (.long q1), (.long (2 : Int64)), (.long (own_nw q1 q1))])) _
    refine XS.lmul X0.here hx rfl (hb hby d1_18) rfl ?_
    show Steps p.tables e below (s₁.setTop (mkF m 19 #[.val (.long q1), .second, .val (.long (own_nw q1 q1)), .second] [(.long (q1 * (own_nw q1 q1))), (.long (2 : Int64)), (.long (own_nw q1 q1))])) _
    refine XS.lsub X0.here hx rfl (hb hby d1_19) rfl ?_
    show Steps p.tables e below (s₁.setTop (mkF m 20 #[.val (.long q1), .second, .val (.long (own_nw q1 q1)), .second] [(.long ((2 : Int64) - (q1 * (own_nw q1 q1)))), (.long (own_nw q1 q1))])) _
    refine XS.lmul X0.here hx rfl (hb hby d1_20) rfl ?_
    show Steps p.tables e below (s₁.setTop (mkF m 21 #[.val (.long q1), .second, .val (.long (own_nw q1 q1)), .second] [(.long (own_nw q1 (own_nw q1 q1)))])) _
    show Steps p.tables e below (s₁.setTop (mkF m 21 #[.val (.long q1), .second, .val (.long (own_nw q1 q1)), .second] [(.long (own_nw q1 (own_nw q1 q1)))])) _
    refine XS.lstoreN X0.here hx rfl (hb hby d1_21) rfl (l' := #[.val (.long q1), .second, .val (.long (own_nw q1 (own_nw q1 q1))), .second]) rfl ?_
    show Steps p.tables e below (s₁.setTop (mkF m 22 #[.val (.long q1), .second, .val (.long (own_nw q1 (own_nw q1 q1))), .second] [])) _
    refine XS.lloadN X0.here hx rfl (hb hby d1_22) rfl ?_
    show Steps p.tables e below (s₁.setTop (mkF m 23 #[.val (.long q1), .second, .val (.long (own_nw q1 (own_nw q1 q1))), .second] [(.long (own_nw q1 (own_nw q1 q1)))])) _
    refine X0.ldc2Long hx hown (mvT hZ (hw _ (List.mem_of_getElem? (i := 5) rfl))) (g := (mkF m 23 #[.val (.long q1), .second, .val (.long (own_nw q1 (own_nw q1 q1))), .second] [(.long (own_nw q1 (own_nw q1 q1)))])) rfl (hb hby d1_23) _ ?_
    show Steps p.tables e below (s₁.setTop (mkF m 26 #[.val (.long q1), .second, .val (.long (own_nw q1 (own_nw q1 q1))), .second] [(.long (2 : Int64)), (.long (own_nw q1 (own_nw q1 q1)))])) _
    refine XS.lloadN X0.here hx rfl (hb hby d1_26) rfl ?_
    show Steps p.tables e below (s₁.setTop (mkF m 27 #[.val (.long q1), .second, .val (.long (own_nw q1 (own_nw q1 q1))), .second] [(.long q1), (.long (2 : Int64)), (.long (own_nw q1 (own_nw q1 q1)))])) _
    refine XS.lloadN X0.here hx rfl (hb hby d1_27) rfl ?_
    show Steps p.tables e below (s₁.setTop (mkF m 28 #[.val (.long q1), .second, .val (.long (own_nw q1 (own_nw q1 q1))), .second] [(.long (own_nw q1 (own_nw q1 q1))), (.long q1), (.long (2 : Int64)), (.long (own_nw q1 (own_nw q1 q1)))])) _
    refine XS.lmul X0.here hx rfl (hb hby d1_28) rfl ?_
    show Steps p.tables e below (s₁.setTop (mkF m 29 #[.val (.long q1), .second, .val (.long (own_nw q1 (own_nw q1 q1))), .second] [(.long (q1 * (own_nw q1 (own_nw q1 q1)))), (.long (2 : Int64)), (.long (own_nw q1 (own_nw q1 q1)))])) _
    refine XS.lsub X0.here hx rfl (hb hby d1_29) rfl ?_
    show Steps p.tables e below (s₁.setTop (mkF m 30 #[.val (.long q1), .second, .val (.long (own_nw q1 (own_nw q1 q1))), .second] [(.long ((2 : Int64) - (q1 * (own_nw q1 (own_nw q1 q1))))), (.long (own_nw q1 (own_nw q1 q1)))])) _
    refine XS.lmul X0.here hx rfl (hb hby d1_30) rfl ?_
    show Steps p.tables e below (s₁.setTop (mkF m 31 #[.val (.long q1), .second, .val (.long (own_nw q1 (own_nw q1 q1))), .second] [(.long (own_nw q1 (own_nw q1 (own_nw q1 q1))))])) _
    show Steps p.tables e below (s₁.setTop (mkF m 31 #[.val (.long q1), .second, .val (.long (own_nw q1 (own_nw q1 q1))), .second] [(.long (own_nw q1 (own_nw q1 (own_nw q1 q1))))])) _
    refine XS.lstoreN X0.here hx rfl (hb hby d1_31) rfl (l' := #[.val (.long q1), .second, .val (.long (own_nw q1 (own_nw q1 (own_nw q1 q1)))), .second]) rfl ?_
    show Steps p.tables e below (s₁.setTop (mkF m 32 #[.val (.long q1), .second, .val (.long (own_nw q1 (own_nw q1 (own_nw q1 q1)))), .second] [])) _
    refine XS.lloadN X0.here hx rfl (hb hby d1_32) rfl ?_
    show Steps p.tables e below (s₁.setTop (mkF m 33 #[.val (.long q1), .second, .val (.long (own_nw q1 (own_nw q1 (own_nw q1 q1)))), .second] [(.long (own_nw q1 (own_nw q1 (own_nw q1 q1))))])) _
    refine X0.ldc2Long hx hown (mvT hZ (hw _ (List.mem_of_getElem? (i := 5) rfl))) (g := (mkF m 33 #[.val (.long q1), .second, .val (.long (own_nw q1 (own_nw q1 (own_nw q1 q1)))), .second] [(.long (own_nw q1 (own_nw q1 (own_nw q1 q1))))])) rfl (hb hby d1_33) _ ?_
    show Steps p.tables e below (s₁.setTop (mkF m 36 #[.val (.long q1), .second, .val (.long (own_nw q1 (own_nw q1 (own_nw q1 q1)))), .second] [(.long (2 : Int64)), (.long (own_nw q1 (own_nw q1 (own_nw q1 q1))))])) _
    refine XS.lloadN X0.here hx rfl (hb hby d1_36) rfl ?_
    show Steps p.tables e below (s₁.setTop (mkF m 37 #[.val (.long q1), .second, .val (.long (own_nw q1 (own_nw q1 (own_nw q1 q1)))), .second] [(.long q1), (.long (2 : Int64)), (.long (own_nw q1 (own_nw q1 (own_nw q1 q1))))])) _
    refine XS.lloadN X0.here hx rfl (hb hby d1_37) rfl ?_
    show Steps p.tables e below (s₁.setTop (mkF m 38 #[.val (.long q1), .second, .val (.long (own_nw q1 (own_nw q1 (own_nw q1 q1)))), .second] [(.long (own_nw q1 (own_nw q1 (own_nw q1 q1)))), (.long q1), (.long (2 : Int64)), (.long (own_nw q1 (own_nw q1 (own_nw q1 q1))))])) _
    refine XS.lmul X0.here hx rfl (hb hby d1_38) rfl ?_
    show Steps p.tables e below (s₁.setTop (mkF m 39 #[.val (.long q1), .second, .val (.long (own_nw q1 (own_nw q1 (own_nw q1 q1)))), .second] [(.long (q1 * (own_nw q1 (own_nw q1 (own_nw q1 q1))))), (.long (2 : Int64)), (.long (own_nw q1 (own_nw q1 (own_nw q1 q1))))])) _
    refine XS.lsub X0.here hx rfl (hb hby d1_39) rfl ?_
    show Steps p.tables e below (s₁.setTop (mkF m 40 #[.val (.long q1), .second, .val (.long (own_nw q1 (own_nw q1 (own_nw q1 q1)))), .second] [(.long ((2 : Int64) - (q1 * (own_nw q1 (own_nw q1 (own_nw q1 q1)))))), (.long (own_nw q1 (own_nw q1 (own_nw q1 q1))))])) _
    refine XS.lmul X0.here hx rfl (hb hby d1_40) rfl ?_
    show Steps p.tables e below (s₁.setTop (mkF m 41 #[.val (.long q1), .second, .val (.long (own_nw q1 (own_nw q1 (own_nw q1 q1)))), .second] [(.long (own_nw q1 (own_nw q1 (own_nw q1 (own_nw q1 q1)))))])) _
    show Steps p.tables e below (s₁.setTop (mkF m 41 #[.val (.long q1), .second, .val (.long (own_nw q1 (own_nw q1 (own_nw q1 q1)))), .second] [(.long (own_nw q1 (own_nw q1 (own_nw q1 (own_nw q1 q1)))))])) _
    refine XS.lstoreN X0.here hx rfl (hb hby d1_41) rfl (l' := #[.val (.long q1), .second, .val (.long (own_nw q1 (own_nw q1 (own_nw q1 (own_nw q1 q1))))), .second]) rfl ?_
    show Steps p.tables e below (s₁.setTop (mkF m 42 #[.val (.long q1), .second, .val (.long (own_nw q1 (own_nw q1 (own_nw q1 (own_nw q1 q1))))), .second] [])) _
    refine XS.lloadN X0.here hx rfl (hb hby d1_42) rfl ?_
    show Steps p.tables e below (s₁.setTop (mkF m 43 #[.val (.long q1), .second, .val (.long (own_nw q1 (own_nw q1 (own_nw q1 (own_nw q1 q1))))), .second] [(.long (own_nw q1 (own_nw q1 (own_nw q1 (own_nw q1 q1)))))])) _
    refine X0.ldc2Long hx hown (mvT hZ (hw _ (List.mem_of_getElem? (i := 5) rfl))) (g := (mkF m 43 #[.val (.long q1), .second, .val (.long (own_nw q1 (own_nw q1 (own_nw q1 (own_nw q1 q1))))), .second] [(.long (own_nw q1 (own_nw q1 (own_nw q1 (own_nw q1 q1)))))])) rfl (hb hby d1_43) _ ?_
    show Steps p.tables e below (s₁.setTop (mkF m 46 #[.val (.long q1), .second, .val (.long (own_nw q1 (own_nw q1 (own_nw q1 (own_nw q1 q1))))), .second] [(.long (2 : Int64)), (.long (own_nw q1 (own_nw q1 (own_nw q1 (own_nw q1 q1)))))])) _
    refine XS.lloadN X0.here hx rfl (hb hby d1_46) rfl ?_
    show Steps p.tables e below (s₁.setTop (mkF m 47 #[.val (.long q1), .second, .val (.long (own_nw q1 (own_nw q1 (own_nw q1 (own_nw q1 q1))))), .second] [(.long q1), (.long (2 : Int64)), (.long (own_nw q1 (own_nw q1 (own_nw q1 (own_nw q1 q1)))))])) _
    refine XS.lloadN X0.here hx rfl (hb hby d1_47) rfl ?_
    show Steps p.tables e below (s₁.setTop (mkF m 48 #[.val (.long q1), .second, .val (.long (own_nw q1 (own_nw q1 (own_nw q1 (own_nw q1 q1))))), .second] [(.long (own_nw q1 (own_nw q1 (own_nw q1 (own_nw q1 q1))))), (.long q1), (.long (2 : Int64)), (.long (own_nw q1 (own_nw q1 (own_nw q1 (own_nw q1 q1)))))])) _
    refine XS.lmul X0.here hx rfl (hb hby d1_48) rfl ?_
    show Steps p.tables e below (s₁.setTop (mkF m 49 #[.val (.long q1), .second, .val (.long (own_nw q1 (own_nw q1 (own_nw q1 (own_nw q1 q1))))), .second] [(.long (q1 * (own_nw q1 (own_nw q1 (own_nw q1 (own_nw q1 q1)))))), (.long (2 : Int64)), (.long (own_nw q1 (own_nw q1 (own_nw q1 (own_nw q1 q1)))))])) _
    refine XS.lsub X0.here hx rfl (hb hby d1_49) rfl ?_
    show Steps p.tables e below (s₁.setTop (mkF m 50 #[.val (.long q1), .second, .val (.long (own_nw q1 (own_nw q1 (own_nw q1 (own_nw q1 q1))))), .second] [(.long ((2 : Int64) - (q1 * (own_nw q1 (own_nw q1 (own_nw q1 (own_nw q1 q1))))))), (.long (own_nw q1 (own_nw q1 (own_nw q1 (own_nw q1 q1)))))])) _
    refine XS.lmul X0.here hx rfl (hb hby d1_50) rfl ?_
    show Steps p.tables e below (s₁.setTop (mkF m 51 #[.val (.long q1), .second, .val (.long (own_nw q1 (own_nw q1 (own_nw q1 (own_nw q1 q1))))), .second] [(.long (own_nw q1 (own_nw q1 (own_nw q1 (own_nw q1 (own_nw q1 q1))))))])) _
    show Steps p.tables e below (s₁.setTop (mkF m 51 #[.val (.long q1), .second, .val (.long (own_nw q1 (own_nw q1 (own_nw q1 (own_nw q1 q1))))), .second] [(.long (own_nw q1 (own_nw q1 (own_nw q1 (own_nw q1 (own_nw q1 q1))))))])) _
    refine XS.lstoreN X0.here hx rfl (hb hby d1_51) rfl (l' := #[.val (.long q1), .second, .val (.long (own_nw q1 (own_nw q1 (own_nw q1 (own_nw q1 (own_nw q1 q1)))))), .second]) rfl ?_
    show Steps p.tables e below (s₁.setTop (mkF m 52 #[.val (.long q1), .second, .val (.long (own_nw q1 (own_nw q1 (own_nw q1 (own_nw q1 (own_nw q1 q1)))))), .second] [])) _
    refine XS.lloadN X0.here hx rfl (hb hby d1_52) rfl ?_
    show Steps p.tables e below (s₁.setTop (mkF m 53 #[.val (.long q1), .second, .val (.long (own_nw q1 (own_nw q1 (own_nw q1 (own_nw q1 (own_nw q1 q1)))))), .second] [(.long (own_nw q1 (own_nw q1 (own_nw q1 (own_nw q1 (own_nw q1 q1))))))])) _
    exact retOut X0 hx Bd.returns rfl (Or.inr (Or.inl ⟨rfl, rfl, _, rfl⟩)) (hb hby d1_53) hr
  · show Q_rm_inv Z q1 h0 n0 _ s₁.heap _
    rw [e0]
    exact ⟨rfl, N0, rfl⟩
theorem d2_0 : decode method_3_code 0 = .ok (.lload_n 0, 1) := by decide +kernel
theorem d2_1 : decode method_3_code 1 = .ok (.lload_n 0, 1) := by decide +kernel
theorem d2_2 : decode method_3_code 2 = .ok (.bipush 32, 2) := by decide +kernel
theorem d2_4 : decode method_3_code 4 = .ok (.lushr, 1) := by decide +kernel
theorem d2_5 : decode method_3_code 5 = .ok (.lxor, 1) := by decide +kernel
theorem d2_6 : decode method_3_code 6 = .ok (.lstore 4, 2) := by decide +kernel
theorem d2_8 : decode method_3_code 8 = .ok (.lload 4, 2) := by decide +kernel
theorem d2_10 : decode method_3_code 10 = .ok (.lload_n 2, 1) := by decide +kernel
theorem d2_11 : decode method_3_code 11 = .ok (.lmul, 1) := by decide +kernel
theorem d2_12 : decode method_3_code 12 = .ok (.lstore 6, 2) := by decide +kernel
theorem d2_14 : decode method_3_code 14 = .ok (.lload 6, 2) := by decide +kernel
theorem d2_16 : decode method_3_code 16 = .ok (.lload 6, 2) := by decide +kernel
theorem d2_18 : decode method_3_code 18 = .ok (.bipush 29, 2) := by decide +kernel
theorem d2_20 : decode method_3_code 20 = .ok (.lushr, 1) := by decide +kernel
theorem d2_21 : decode method_3_code 21 = .ok (.lxor, 1) := by decide +kernel
theorem d2_22 : decode method_3_code 22 = .ok (.lload 6, 2) := by decide +kernel
theorem d2_24 : decode method_3_code 24 = .ok (.bipush 58, 2) := by decide +kernel
theorem d2_26 : decode method_3_code 26 = .ok (.lushr, 1) := by decide +kernel
theorem d2_27 : decode method_3_code 27 = .ok (.lxor, 1) := by decide +kernel
theorem d2_28 : decode method_3_code 28 = .ok (.lstore 8, 2) := by decide +kernel
theorem d2_30 : decode method_3_code 30 = .ok (.lload 8, 2) := by decide +kernel
theorem d2_32 : decode method_3_code 32 = .ok (.lload_n 2, 1) := by decide +kernel
theorem d2_33 : decode method_3_code 33 = .ok (.lmul, 1) := by decide +kernel
theorem d2_34 : decode method_3_code 34 = .ok (.lstore 10, 2) := by decide +kernel
theorem d2_36 : decode method_3_code 36 = .ok (.lload 10, 2) := by decide +kernel
theorem d2_38 : decode method_3_code 38 = .ok (.lload 10, 2) := by decide +kernel
theorem d2_40 : decode method_3_code 40 = .ok (.bipush 32, 2) := by decide +kernel
theorem d2_42 : decode method_3_code 42 = .ok (.lushr, 1) := by decide +kernel
theorem d2_43 : decode method_3_code 43 = .ok (.lxor, 1) := by decide +kernel
theorem d2_44 : decode method_3_code 44 = .ok (.lreturn, 1) := by decide +kernel
theorem ef_rm_unf (m : MethodId) (x0 : Int64) (x1 : Int64) : entryFrame m #[(.long x0), (.long x1)] 12 = mkF m 0 #[.val (.long x0), .second, .val (.long x1), .second, .unset, .unset, .unset, .unset, .unset, .unset, .unset, .unset] [] := by first | (simp [entryFrame, mkF, argsToLocals, Value.category]; done) | rfl
def Q_rm_unf (Z : State) (q1 : Int64) (q2 : Int64) (h0 : Heap) (n0 : Nat) (v : Option Value) (h : Heap) (L : List Loc) : Prop := v = some (.long (own_unf q1 q2)) ∧ Fr n0 L ∧ h = h0
set_option maxRecDepth 65536 in
set_option maxHeartbeats 40000000 in
theorem rm_unf (l : Launch) (Z : State) (a0 : Array Value) (hw : ∀ d ∈ tables_1, d.before a0 Z = true) (ws : List Jvm.Cond) (q1 : Int64) (q2 : Int64) (h0 : Heap) (n0 : Nat) (Z0 : n0 ≤ h0.size) :
    MetFree l (⟨"com/example/indberet/indberet/KeyTableFinishPinLaw", "unfinish", "(JJ)J"⟩ : MethodName) (head1 (Jvm.Cond.code (⟨"com/example/indberet/indberet/KeyTableFinishPinLaw", "unfinish", "(JJ)J"⟩ : MethodName) method_3_code 12 (some .long) :: ws) ({ frames := 0, cells := 0, slots := 0, locals := 0 } : Room)) (fun a U => a = #[(.long q1), (.long q2)] ∧ Z.Warmed39 U.vm ∧ U.heap = h0) (fun _ _ _ _ _ => True) (fun _ U o U' => ∃ v L, o = .returned v ∧ Q_rm_unf Z q1 q2 h0 n0 v U'.heap L ∧ FrameEnd U o U' L ({ frames := 0, cells := 0, slots := 0, locals := 0 } : Room).cells ({ frames := 0, cells := 0, slots := 0, locals := 0 } : Room).slots) := by
  refine MetFree.of_bodySF (plainFor_of_name pn_com_example_indberet_indberet_KeyTableFinishPinLaw) hisR ?_
  intro p e s m args below meth c s₁ Bd hml0 hP hK
  obtain ⟨rfl, hZ, hh⟩ := hP
  have hx := Bd.exec
  have hby := Bd.bytes
  have hml : c.maxLocals = 12 := hml0
  have hown : s.vm.findClass "com/example/indberet/indberet/KeyTableFinishPinLaw" = some m.cls := findClass_of_methodNamed Bd.named
  have hnm := (name_of_methodNamed Bd.named Bd.method).1
  have X0 : Stand p l e ({ frames := 0, cells := 0, slots := 0, locals := 0 } : Room) s m #[(.long q1), (.long q2)] below meth c s₁ [] 0 0 := Stand.of_body Bd
  have e0 : s₁.heap = h0 := by rw [← hh, Bd.state]; rfl
  have N0 := Fr.nil n0
  have pre0 : ∀ t, Steps p.tables e below (s₁.setTop (mkF m 0 #[.val (.long q1), .second, .val (.long q2), .second, .unset, .unset, .unset, .unset, .unset, .unset, .unset, .unset] [])) t → Steps p.tables e below (s₁.setTop (entryFrame m #[(.long q1), (.long q2)] 12)) t := fun t k => castTop (ef_rm_unf m q1 q2) k
  obtain ⟨fs, hr, hrun, hended, hW, hsame⟩ := X0.leave (v := some (.long ((((((q1 ^^^ ((q1.toUInt64 >>> ((32 : Int32) &&& 0x3f).toInt64.toUInt64).toInt64)) * q2) ^^^ ((((q1 ^^^ ((q1.toUInt64 >>> ((32 : Int32) &&& 0x3f).toInt64.toUInt64).toInt64)) * q2).toUInt64 >>> ((29 : Int32) &&& 0x3f).toInt64.toUInt64).toInt64)) ^^^ ((((q1 ^^^ ((q1.toUInt64 >>> ((32 : Int32) &&& 0x3f).toInt64.toUInt64).toInt64)) * q2).toUInt64 >>> ((58 : Int32) &&& 0x3f).toInt64.toUInt64).toInt64)) * q2) ^^^ (((((((q1 ^^^ ((q1.toUInt64 >>> ((32 : Int32) &&& 0x3f).toInt64.toUInt64).toInt64)) * q2) ^^^ ((((q1 ^^^ ((q1.toUInt64 >>> ((32 : Int32) &&& 0x3f).toInt64.toUInt64).toInt64)) * q2).toUInt64 >>> ((29 : Int32) &&& 0x3f).toInt64.toUInt64).toInt64)) ^^^ ((((q1 ^^^ ((q1.toUInt64 >>> ((32 : Int32) &&& 0x3f).toInt64.toUInt64).toInt64)) * q2).toUInt64 >>> ((58 : Int32) &&& 0x3f).toInt64.toUInt64).toInt64)) * q2).toUInt64 >>> ((32 : Int32) &&& 0x3f).toInt64.toUInt64).toInt64)))) (fun h => by rw [Bd.returns] at h; cases h)
  refine ⟨_, _, pre0 _ ?_, hrun, hended, _, _, rfl, ?_, ⟨_, rfl⟩, hW, hsame.mono (by decide) (by decide)⟩
  · show Steps p.tables e below (s₁.setTop (mkF m 0 #[.val (.long q1), .second, .val (.long q2), .second, .unset, .unset, .unset, .unset, .unset, .unset, .unset, .unset] [])) _
    refine XS.lloadN X0.here hx rfl (hb hby d2_0) rfl ?_
    show Steps p.tables e below (s₁.setTop (mkF m 1 #[.val (.long q1), .second, .val (.long q2), .second, .unset, .unset, .unset, .unset, .unset, .unset, .unset, .unset] [(.long q1)])) _
    refine XS.lloadN X0.here hx rfl (hb hby d2_1) rfl ?_
    show Steps p.tables e below (s₁.setTop (mkF m 2 #[.val (.long q1), .second, .val (.long q2), .second, .unset, .unset, .unset, .unset, .unset, .unset, .unset, .unset] [(.long q1), (.long q1)])) _
    refine XS.bipush X0.here hx rfl (hb hby d2_2) ?_
    show Steps p.tables e below (s₁.setTop (mkF m 4 #[.val (.long q1), .second, .val (.long q2), .second, .unset, .unset, .unset, .unset, .unset, .unset, .unset, .unset] [(.int (32 : Int32)), (.long q1), (.long q1)])) _
    refine XS.lushr X0.here hx rfl (hb hby d2_4) rfl ?_
    show Steps p.tables e below (s₁.setTop (mkF m 5 #[.val (.long q1), .second, .val (.long q2), .second, .unset, .unset, .unset, .unset, .unset, .unset, .unset, .unset] [(.long ((q1.toUInt64 >>> ((32 : Int32) &&& 0x3f).toInt64.toUInt64).toInt64)), (.long q1)])) _
    refine XS.lxor X0.here hx rfl (hb hby d2_5) rfl ?_
    show Steps p.tables e below (s₁.setTop (mkF m 6 #[.val (.long q1), .second, .val (.long q2), .second, .unset, .unset, .unset, .unset, .unset, .unset, .unset, .unset] [(.long (q1 ^^^ ((q1.toUInt64 >>> ((32 : Int32) &&& 0x3f).toInt64.toUInt64).toInt64)))])) _
    refine XS.lstore X0.here hx rfl (hb hby d2_6) rfl (l' := #[.val (.long q1), .second, .val (.long q2), .second, .val (.long (q1 ^^^ ((q1.toUInt64 >>> ((32 : Int32) &&& 0x3f).toInt64.toUInt64).toInt64))), .second, .unset, .unset, .unset, .unset, .unset, .unset]) rfl ?_
    show Steps p.tables e below (s₁.setTop (mkF m 8 #[.val (.long q1), .second, .val (.long q2), .second, .val (.long (q1 ^^^ ((q1.toUInt64 >>> ((32 : Int32) &&& 0x3f).toInt64.toUInt64).toInt64))), .second, .unset, .unset, .unset, .unset, .unset, .unset] [])) _
    refine XS.lload X0.here hx rfl (hb hby d2_8) rfl ?_
    show Steps p.tables e below (s₁.setTop (mkF m 10 #[.val (.long q1), .second, .val (.long q2), .second, .val (.long (q1 ^^^ ((q1.toUInt64 >>> ((32 : Int32) &&& 0x3f).toInt64.toUInt64).toInt64))), .second, .unset, .unset, .unset, .unset, .unset, .unset] [(.long (q1 ^^^ ((q1.toUInt64 >>> ((32 : Int32) &&& 0x3f).toInt64.toUInt64).toInt64)))])) _
    refine XS.lloadN X0.here hx rfl (hb hby d2_10) rfl ?_
    show Steps p.tables e below (s₁.setTop (mkF m 11 #[.val (.long q1), .second, .val (.long q2), .second, .val (.long (q1 ^^^ ((q1.toUInt64 >>> ((32 : Int32) &&& 0x3f).toInt64.toUInt64).toInt64))), .second, .unset, .unset, .unset, .unset, .unset, .unset] [(.long q2), (.long (q1 ^^^ ((q1.toUInt64 >>> ((32 : Int32) &&& 0x3f).toInt64.toUInt64).toInt64)))])) _
    refine XS.lmul X0.here hx rfl (hb hby d2_11) rfl ?_
    show Steps p.tables e below (s₁.setTop (mkF m 12 #[.val (.long q1), .second, .val (.long q2), .second, .val (.long (q1 ^^^ ((q1.toUInt64 >>> ((32 : Int32) &&& 0x3f).toInt64.toUInt64).toInt64))), .second, .unset, .unset, .unset, .unset, .unset, .unset] [(.long ((q1 ^^^ ((q1.toUInt64 >>> ((32 : Int32) &&& 0x3f).toInt64.toUInt64).toInt64)) * q2))])) _
    refine XS.lstore X0.here hx rfl (hb hby d2_12) rfl (l' := #[.val (.long q1), .second, .val (.long q2), .second, .val (.long (q1 ^^^ ((q1.toUInt64 >>> ((32 : Int32) &&& 0x3f).toInt64.toUInt64).toInt64))), .second, .val (.long ((q1 ^^^ ((q1.toUInt64 >>> ((32 : Int32) &&& 0x3f).toInt64.toUInt64).toInt64)) * q2)), .second, .unset, .unset, .unset, .unset]) rfl ?_
    show Steps p.tables e below (s₁.setTop (mkF m 14 #[.val (.long q1), .second, .val (.long q2), .second, .val (.long (q1 ^^^ ((q1.toUInt64 >>> ((32 : Int32) &&& 0x3f).toInt64.toUInt64).toInt64))), .second, .val (.long ((q1 ^^^ ((q1.toUInt64 >>> ((32 : Int32) &&& 0x3f).toInt64.toUInt64).toInt64)) * q2)), .second, .unset, .unset, .unset, .unset] [])) _
    refine XS.lload X0.here hx rfl (hb hby d2_14) rfl ?_
    show Steps p.tables e below (s₁.setTop (mkF m 16 #[.val (.long q1), .second, .val (.long q2), .second, .val (.long (q1 ^^^ ((q1.toUInt64 >>> ((32 : Int32) &&& 0x3f).toInt64.toUInt64).toInt64))), .second, .val (.long ((q1 ^^^ ((q1.toUInt64 >>> ((32 : Int32) &&& 0x3f).toInt64.toUInt64).toInt64)) * q2)), .second, .unset, .unset, .unset, .unset] [(.long ((q1 ^^^ ((q1.toUInt64 >>> ((32 : Int32) &&& 0x3f).toInt64.toUInt64).toInt64)) * q2))])) _
    refine XS.lload X0.here hx rfl (hb hby d2_16) rfl ?_
    show Steps p.tables e below (s₁.setTop (mkF m 18 #[.val (.long q1), .second, .val (.long q2), .second, .val (.long (q1 ^^^ ((q1.toUInt64 >>> ((32 : Int32) &&& 0x3f).toInt64.toUInt64).toInt64))), .second, .val (.long ((q1 ^^^ ((q1.toUInt64 >>> ((32 : Int32) &&& 0x3f).toInt64.toUInt64).toInt64)) * q2)), .second, .unset, .unset, .unset, .unset] [(.long ((q1 ^^^ ((q1.toUInt64 >>> ((32 : Int32) &&& 0x3f).toInt64.toUInt64).toInt64)) * q2)), (.long ((q1 ^^^ ((q1.toUInt64 >>> ((32 : Int32) &&& 0x3f).toInt64.toUInt64).toInt64)) * q2))])) _
    refine XS.bipush X0.here hx rfl (hb hby d2_18) ?_
    show Steps p.tables e below (s₁.setTop (mkF m 20 #[.val (.long q1), .second, .val (.long q2), .second, .val (.long (q1 ^^^ ((q1.toUInt64 >>> ((32 : Int32) &&& 0x3f).toInt64.toUInt64).toInt64))), .second, .val (.long ((q1 ^^^ ((q1.toUInt64 >>> ((32 : Int32) &&& 0x3f).toInt64.toUInt64).toInt64)) * q2)), .second, .unset, .unset, .unset, .unset] [(.int (29 : Int32)), (.long ((q1 ^^^ ((q1.toUInt64 >>> ((32 : Int32) &&& 0x3f).toInt64.toUInt64).toInt64)) * q2)), (.long ((q1 ^^^ ((q1.toUInt64 >>> ((32 : Int32) &&& 0x3f).toInt64.toUInt64).toInt64)) * q2))])) _
    refine XS.lushr X0.here hx rfl (hb hby d2_20) rfl ?_
    show Steps p.tables e below (s₁.setTop (mkF m 21 #[.val (.long q1), .second, .val (.long q2), .second, .val (.long (q1 ^^^ ((q1.toUInt64 >>> ((32 : Int32) &&& 0x3f).toInt64.toUInt64).toInt64))), .second, .val (.long ((q1 ^^^ ((q1.toUInt64 >>> ((32 : Int32) &&& 0x3f).toInt64.toUInt64).toInt64)) * q2)), .second, .unset, .unset, .unset, .unset] [(.long ((((q1 ^^^ ((q1.toUInt64 >>> ((32 : Int32) &&& 0x3f).toInt64.toUInt64).toInt64)) * q2).toUInt64 >>> ((29 : Int32) &&& 0x3f).toInt64.toUInt64).toInt64)), (.long ((q1 ^^^ ((q1.toUInt64 >>> ((32 : Int32) &&& 0x3f).toInt64.toUInt64).toInt64)) * q2))])) _
    refine XS.lxor X0.here hx rfl (hb hby d2_21) rfl ?_
    show Steps p.tables e below (s₁.setTop (mkF m 22 #[.val (.long q1), .second, .val (.long q2), .second, .val (.long (q1 ^^^ ((q1.toUInt64 >>> ((32 : Int32) &&& 0x3f).toInt64.toUInt64).toInt64))), .second, .val (.long ((q1 ^^^ ((q1.toUInt64 >>> ((32 : Int32) &&& 0x3f).toInt64.toUInt64).toInt64)) * q2)), .second, .unset, .unset, .unset, .unset] [(.long (((q1 ^^^ ((q1.toUInt64 >>> ((32 : Int32) &&& 0x3f).toInt64.toUInt64).toInt64)) * q2) ^^^ ((((q1 ^^^ ((q1.toUInt64 >>> ((32 : Int32) &&& 0x3f).toInt64.toUInt64).toInt64)) * q2).toUInt64 >>> ((29 : Int32) &&& 0x3f).toInt64.toUInt64).toInt64)))])) _
    refine XS.lload X0.here hx rfl (hb hby d2_22) rfl ?_
    show Steps p.tables e below (s₁.setTop (mkF m 24 #[.val (.long q1), .second, .val (.long q2), .second, .val (.long (q1 ^^^ ((q1.toUInt64 >>> ((32 : Int32) &&& 0x3f).toInt64.toUInt64).toInt64))), .second, .val (.long ((q1 ^^^ ((q1.toUInt64 >>> ((32 : Int32) &&& 0x3f).toInt64.toUInt64).toInt64)) * q2)), .second, .unset, .unset, .unset, .unset] [(.long ((q1 ^^^ ((q1.toUInt64 >>> ((32 : Int32) &&& 0x3f).toInt64.toUInt64).toInt64)) * q2)), (.long (((q1 ^^^ ((q1.toUInt64 >>> ((32 : Int32) &&& 0x3f).toInt64.toUInt64).toInt64)) * q2) ^^^ ((((q1 ^^^ ((q1.toUInt64 >>> ((32 : Int32) &&& 0x3f).toInt64.toUInt64).toInt64)) * q2).toUInt64 >>> ((29 : Int32) &&& 0x3f).toInt64.toUInt64).toInt64)))])) _
    refine XS.bipush X0.here hx rfl (hb hby d2_24) ?_
    show Steps p.tables e below (s₁.setTop (mkF m 26 #[.val (.long q1), .second, .val (.long q2), .second, .val (.long (q1 ^^^ ((q1.toUInt64 >>> ((32 : Int32) &&& 0x3f).toInt64.toUInt64).toInt64))), .second, .val (.long ((q1 ^^^ ((q1.toUInt64 >>> ((32 : Int32) &&& 0x3f).toInt64.toUInt64).toInt64)) * q2)), .second, .unset, .unset, .unset, .unset] [(.int (58 : Int32)), (.long ((q1 ^^^ ((q1.toUInt64 >>> ((32 : Int32) &&& 0x3f).toInt64.toUInt64).toInt64)) * q2)), (.long (((q1 ^^^ ((q1.toUInt64 >>> ((32 : Int32) &&& 0x3f).toInt64.toUInt64).toInt64)) * q2) ^^^ ((((q1 ^^^ ((q1.toUInt64 >>> ((32 : Int32) &&& 0x3f).toInt64.toUInt64).toInt64)) * q2).toUInt64 >>> ((29 : Int32) &&& 0x3f).toInt64.toUInt64).toInt64)))])) _
    refine XS.lushr X0.here hx rfl (hb hby d2_26) rfl ?_
    show Steps p.tables e below (s₁.setTop (mkF m 27 #[.val (.long q1), .second, .val (.long q2), .second, .val (.long (q1 ^^^ ((q1.toUInt64 >>> ((32 : Int32) &&& 0x3f).toInt64.toUInt64).toInt64))), .second, .val (.long ((q1 ^^^ ((q1.toUInt64 >>> ((32 : Int32) &&& 0x3f).toInt64.toUInt64).toInt64)) * q2)), .second, .unset, .unset, .unset, .unset] [(.long ((((q1 ^^^ ((q1.toUInt64 >>> ((32 : Int32) &&& 0x3f).toInt64.toUInt64).toInt64)) * q2).toUInt64 >>> ((58 : Int32) &&& 0x3f).toInt64.toUInt64).toInt64)), (.long (((q1 ^^^ ((q1.toUInt64 >>> ((32 : Int32) &&& 0x3f).toInt64.toUInt64).toInt64)) * q2) ^^^ ((((q1 ^^^ ((q1.toUInt64 >>> ((32 : Int32) &&& 0x3f).toInt64.toUInt64).toInt64)) * q2).toUInt64 >>> ((29 : Int32) &&& 0x3f).toInt64.toUInt64).toInt64)))])) _
    refine XS.lxor X0.here hx rfl (hb hby d2_27) rfl ?_
    show Steps p.tables e below (s₁.setTop (mkF m 28 #[.val (.long q1), .second, .val (.long q2), .second, .val (.long (q1 ^^^ ((q1.toUInt64 >>> ((32 : Int32) &&& 0x3f).toInt64.toUInt64).toInt64))), .second, .val (.long ((q1 ^^^ ((q1.toUInt64 >>> ((32 : Int32) &&& 0x3f).toInt64.toUInt64).toInt64)) * q2)), .second, .unset, .unset, .unset, .unset] [(.long ((((q1 ^^^ ((q1.toUInt64 >>> ((32 : Int32) &&& 0x3f).toInt64.toUInt64).toInt64)) * q2) ^^^ ((((q1 ^^^ ((q1.toUInt64 >>> ((32 : Int32) &&& 0x3f).toInt64.toUInt64).toInt64)) * q2).toUInt64 >>> ((29 : Int32) &&& 0x3f).toInt64.toUInt64).toInt64)) ^^^ ((((q1 ^^^ ((q1.toUInt64 >>> ((32 : Int32) &&& 0x3f).toInt64.toUInt64).toInt64)) * q2).toUInt64 >>> ((58 : Int32) &&& 0x3f).toInt64.toUInt64).toInt64)))])) _
    refine XS.lstore X0.here hx rfl (hb hby d2_28) rfl (l' := #[.val (.long q1), .second, .val (.long q2), .second, .val (.long (q1 ^^^ ((q1.toUInt64 >>> ((32 : Int32) &&& 0x3f).toInt64.toUInt64).toInt64))), .second, .val (.long ((q1 ^^^ ((q1.toUInt64 >>> ((32 : Int32) &&& 0x3f).toInt64.toUInt64).toInt64)) * q2)), .second, .val (.long ((((q1 ^^^ ((q1.toUInt64 >>> ((32 : Int32) &&& 0x3f).toInt64.toUInt64).toInt64)) * q2) ^^^ ((((q1 ^^^ ((q1.toUInt64 >>> ((32 : Int32) &&& 0x3f).toInt64.toUInt64).toInt64)) * q2).toUInt64 >>> ((29 : Int32) &&& 0x3f).toInt64.toUInt64).toInt64)) ^^^ ((((q1 ^^^ ((q1.toUInt64 >>> ((32 : Int32) &&& 0x3f).toInt64.toUInt64).toInt64)) * q2).toUInt64 >>> ((58 : Int32) &&& 0x3f).toInt64.toUInt64).toInt64))), .second, .unset, .unset]) rfl ?_
    show Steps p.tables e below (s₁.setTop (mkF m 30 #[.val (.long q1), .second, .val (.long q2), .second, .val (.long (q1 ^^^ ((q1.toUInt64 >>> ((32 : Int32) &&& 0x3f).toInt64.toUInt64).toInt64))), .second, .val (.long ((q1 ^^^ ((q1.toUInt64 >>> ((32 : Int32) &&& 0x3f).toInt64.toUInt64).toInt64)) * q2)), .second, .val (.long ((((q1 ^^^ ((q1.toUInt64 >>> ((32 : Int32) &&& 0x3f).toInt64.toUInt64).toInt64)) * q2) ^^^ ((((q1 ^^^ ((q1.toUInt64 >>> ((32 : Int32) &&& 0x3f).toInt64.toUInt64).toInt64)) * q2).toUInt64 >>> ((29 : Int32) &&& 0x3f).toInt64.toUInt64).toInt64)) ^^^ ((((q1 ^^^ ((q1.toUInt64 >>> ((32 : Int32) &&& 0x3f).toInt64.toUInt64).toInt64)) * q2).toUInt64 >>> ((58 : Int32) &&& 0x3f).toInt64.toUInt64).toInt64))), .second, .unset, .unset] [])) _
    refine XS.lload X0.here hx rfl (hb hby d2_30) rfl ?_
    show Steps p.tables e below (s₁.setTop (mkF m 32 #[.val (.long q1), .second, .val (.long q2), .second, .val (.long (q1 ^^^ ((q1.toUInt64 >>> ((32 : Int32) &&& 0x3f).toInt64.toUInt64).toInt64))), .second, .val (.long ((q1 ^^^ ((q1.toUInt64 >>> ((32 : Int32) &&& 0x3f).toInt64.toUInt64).toInt64)) * q2)), .second, .val (.long ((((q1 ^^^ ((q1.toUInt64 >>> ((32 : Int32) &&& 0x3f).toInt64.toUInt64).toInt64)) * q2) ^^^ ((((q1 ^^^ ((q1.toUInt64 >>> ((32 : Int32) &&& 0x3f).toInt64.toUInt64).toInt64)) * q2).toUInt64 >>> ((29 : Int32) &&& 0x3f).toInt64.toUInt64).toInt64)) ^^^ ((((q1 ^^^ ((q1.toUInt64 >>> ((32 : Int32) &&& 0x3f).toInt64.toUInt64).toInt64)) * q2).toUInt64 >>> ((58 : Int32) &&& 0x3f).toInt64.toUInt64).toInt64))), .second, .unset, .unset] [(.long ((((q1 ^^^ ((q1.toUInt64 >>> ((32 : Int32) &&& 0x3f).toInt64.toUInt64).toInt64)) * q2) ^^^ ((((q1 ^^^ ((q1.toUInt64 >>> ((32 : Int32) &&& 0x3f).toInt64.toUInt64).toInt64)) * q2).toUInt64 >>> ((29 : Int32) &&& 0x3f).toInt64.toUInt64).toInt64)) ^^^ ((((q1 ^^^ ((q1.toUInt64 >>> ((32 : Int32) &&& 0x3f).toInt64.toUInt64).toInt64)) * q2).toUInt64 >>> ((58 : Int32) &&& 0x3f).toInt64.toUInt64).toInt64)))])) _
    refine XS.lloadN X0.here hx rfl (hb hby d2_32) rfl ?_
    show Steps p.tables e below (s₁.setTop (mkF m 33 #[.val (.long q1), .second, .val (.long q2), .second, .val (.long (q1 ^^^ ((q1.toUInt64 >>> ((32 : Int32) &&& 0x3f).toInt64.toUInt64).toInt64))), .second, .val (.long ((q1 ^^^ ((q1.toUInt64 >>> ((32 : Int32) &&& 0x3f).toInt64.toUInt64).toInt64)) * q2)), .second, .val (.long ((((q1 ^^^ ((q1.toUInt64 >>> ((32 : Int32) &&& 0x3f).toInt64.toUInt64).toInt64)) * q2) ^^^ ((((q1 ^^^ ((q1.toUInt64 >>> ((32 : Int32) &&& 0x3f).toInt64.toUInt64).toInt64)) * q2).toUInt64 >>> ((29 : Int32) &&& 0x3f).toInt64.toUInt64).toInt64)) ^^^ ((((q1 ^^^ ((q1.toUInt64 >>> ((32 : Int32) &&& 0x3f).toInt64.toUInt64).toInt64)) * q2).toUInt64 >>> ((58 : Int32) &&& 0x3f).toInt64.toUInt64).toInt64))), .second, .unset, .unset] [(.long q2), (.long ((((q1 ^^^ ((q1.toUInt64 >>> ((32 : Int32) &&& 0x3f).toInt64.toUInt64).toInt64)) * q2) ^^^ ((((q1 ^^^ ((q1.toUInt64 >>> ((32 : Int32) &&& 0x3f).toInt64.toUInt64).toInt64)) * q2).toUInt64 >>> ((29 : Int32) &&& 0x3f).toInt64.toUInt64).toInt64)) ^^^ ((((q1 ^^^ ((q1.toUInt64 >>> ((32 : Int32) &&& 0x3f).toInt64.toUInt64).toInt64)) * q2).toUInt64 >>> ((58 : Int32) &&& 0x3f).toInt64.toUInt64).toInt64)))])) _
    refine XS.lmul X0.here hx rfl (hb hby d2_33) rfl ?_
    show Steps p.tables e below (s₁.setTop (mkF m 34 #[.val (.long q1), .second, .val (.long q2), .second, .val (.long (q1 ^^^ ((q1.toUInt64 >>> ((32 : Int32) &&& 0x3f).toInt64.toUInt64).toInt64))), .second, .val (.long ((q1 ^^^ ((q1.toUInt64 >>> ((32 : Int32) &&& 0x3f).toInt64.toUInt64).toInt64)) * q2)), .second, .val (.long ((((q1 ^^^ ((q1.toUInt64 >>> ((32 : Int32) &&& 0x3f).toInt64.toUInt64).toInt64)) * q2) ^^^ ((((q1 ^^^ ((q1.toUInt64 >>> ((32 : Int32) &&& 0x3f).toInt64.toUInt64).toInt64)) * q2).toUInt64 >>> ((29 : Int32) &&& 0x3f).toInt64.toUInt64).toInt64)) ^^^ ((((q1 ^^^ ((q1.toUInt64 >>> ((32 : Int32) &&& 0x3f).toInt64.toUInt64).toInt64)) * q2).toUInt64 >>> ((58 : Int32) &&& 0x3f).toInt64.toUInt64).toInt64))), .second, .unset, .unset] [(.long (((((q1 ^^^ ((q1.toUInt64 >>> ((32 : Int32) &&& 0x3f).toInt64.toUInt64).toInt64)) * q2) ^^^ ((((q1 ^^^ ((q1.toUInt64 >>> ((32 : Int32) &&& 0x3f).toInt64.toUInt64).toInt64)) * q2).toUInt64 >>> ((29 : Int32) &&& 0x3f).toInt64.toUInt64).toInt64)) ^^^ ((((q1 ^^^ ((q1.toUInt64 >>> ((32 : Int32) &&& 0x3f).toInt64.toUInt64).toInt64)) * q2).toUInt64 >>> ((58 : Int32) &&& 0x3f).toInt64.toUInt64).toInt64)) * q2))])) _
    refine XS.lstore X0.here hx rfl (hb hby d2_34) rfl (l' := #[.val (.long q1), .second, .val (.long q2), .second, .val (.long (q1 ^^^ ((q1.toUInt64 >>> ((32 : Int32) &&& 0x3f).toInt64.toUInt64).toInt64))), .second, .val (.long ((q1 ^^^ ((q1.toUInt64 >>> ((32 : Int32) &&& 0x3f).toInt64.toUInt64).toInt64)) * q2)), .second, .val (.long ((((q1 ^^^ ((q1.toUInt64 >>> ((32 : Int32) &&& 0x3f).toInt64.toUInt64).toInt64)) * q2) ^^^ ((((q1 ^^^ ((q1.toUInt64 >>> ((32 : Int32) &&& 0x3f).toInt64.toUInt64).toInt64)) * q2).toUInt64 >>> ((29 : Int32) &&& 0x3f).toInt64.toUInt64).toInt64)) ^^^ ((((q1 ^^^ ((q1.toUInt64 >>> ((32 : Int32) &&& 0x3f).toInt64.toUInt64).toInt64)) * q2).toUInt64 >>> ((58 : Int32) &&& 0x3f).toInt64.toUInt64).toInt64))), .second, .val (.long (((((q1 ^^^ ((q1.toUInt64 >>> ((32 : Int32) &&& 0x3f).toInt64.toUInt64).toInt64)) * q2) ^^^ ((((q1 ^^^ ((q1.toUInt64 >>> ((32 : Int32) &&& 0x3f).toInt64.toUInt64).toInt64)) * q2).toUInt64 >>> ((29 : Int32) &&& 0x3f).toInt64.toUInt64).toInt64)) ^^^ ((((q1 ^^^ ((q1.toUInt64 >>> ((32 : Int32) &&& 0x3f).toInt64.toUInt64).toInt64)) * q2).toUInt64 >>> ((58 : Int32) &&& 0x3f).toInt64.toUInt64).toInt64)) * q2)), .second]) rfl ?_
    show Steps p.tables e below (s₁.setTop (mkF m 36 #[.val (.long q1), .second, .val (.long q2), .second, .val (.long (q1 ^^^ ((q1.toUInt64 >>> ((32 : Int32) &&& 0x3f).toInt64.toUInt64).toInt64))), .second, .val (.long ((q1 ^^^ ((q1.toUInt64 >>> ((32 : Int32) &&& 0x3f).toInt64.toUInt64).toInt64)) * q2)), .second, .val (.long ((((q1 ^^^ ((q1.toUInt64 >>> ((32 : Int32) &&& 0x3f).toInt64.toUInt64).toInt64)) * q2) ^^^ ((((q1 ^^^ ((q1.toUInt64 >>> ((32 : Int32) &&& 0x3f).toInt64.toUInt64).toInt64)) * q2).toUInt64 >>> ((29 : Int32) &&& 0x3f).toInt64.toUInt64).toInt64)) ^^^ ((((q1 ^^^ ((q1.toUInt64 >>> ((32 : Int32) &&& 0x3f).toInt64.toUInt64).toInt64)) * q2).toUInt64 >>> ((58 : Int32) &&& 0x3f).toInt64.toUInt64).toInt64))), .second, .val (.long (((((q1 ^^^ ((q1.toUInt64 >>> ((32 : Int32) &&& 0x3f).toInt64.toUInt64).toInt64)) * q2) ^^^ ((((q1 ^^^ ((q1.toUInt64 >>> ((32 : Int32) &&& 0x3f).toInt64.toUInt64).toInt64)) * q2).toUInt64 >>> ((29 : Int32) &&& 0x3f).toInt64.toUInt64).toInt64)) ^^^ ((((q1 ^^^ ((q1.toUInt64 >>> ((32 : Int32) &&& 0x3f).toInt64.toUInt64).toInt64)) * q2).toUInt64 >>> ((58 : Int32) &&& 0x3f).toInt64.toUInt64).toInt64)) * q2)), .second] [])) _
    refine XS.lload X0.here hx rfl (hb hby d2_36) rfl ?_
    show Steps p.tables e below (s₁.setTop (mkF m 38 #[.val (.long q1), .second, .val (.long q2), .second, .val (.long (q1 ^^^ ((q1.toUInt64 >>> ((32 : Int32) &&& 0x3f).toInt64.toUInt64).toInt64))), .second, .val (.long ((q1 ^^^ ((q1.toUInt64 >>> ((32 : Int32) &&& 0x3f).toInt64.toUInt64).toInt64)) * q2)), .second, .val (.long ((((q1 ^^^ ((q1.toUInt64 >>> ((32 : Int32) &&& 0x3f).toInt64.toUInt64).toInt64)) * q2) ^^^ ((((q1 ^^^ ((q1.toUInt64 >>> ((32 : Int32) &&& 0x3f).toInt64.toUInt64).toInt64)) * q2).toUInt64 >>> ((29 : Int32) &&& 0x3f).toInt64.toUInt64).toInt64)) ^^^ ((((q1 ^^^ ((q1.toUInt64 >>> ((32 : Int32) &&& 0x3f).toInt64.toUInt64).toInt64)) * q2).toUInt64 >>> ((58 : Int32) &&& 0x3f).toInt64.toUInt64).toInt64))), .second, .val (.long (((((q1 ^^^ ((q1.toUInt64 >>> ((32 : Int32) &&& 0x3f).toInt64.toUInt64).toInt64)) * q2) ^^^ ((((q1 ^^^ ((q1.toUInt64 >>> ((32 : Int32) &&& 0x3f).toInt64.toUInt64).toInt64)) * q2).toUInt64 >>> ((29 : Int32) &&& 0x3f).toInt64.toUInt64).toInt64)) ^^^ ((((q1 ^^^ ((q1.toUInt64 >>> ((32 : Int32) &&& 0x3f).toInt64.toUInt64).toInt64)) * q2).toUInt64 >>> ((58 : Int32) &&& 0x3f).toInt64.toUInt64).toInt64)) * q2)), .second] [(.long (((((q1 ^^^ ((q1.toUInt64 >>> ((32 : Int32) &&& 0x3f).toInt64.toUInt64).toInt64)) * q2) ^^^ ((((q1 ^^^ ((q1.toUInt64 >>> ((32 : Int32) &&& 0x3f).toInt64.toUInt64).toInt64)) * q2).toUInt64 >>> ((29 : Int32) &&& 0x3f).toInt64.toUInt64).toInt64)) ^^^ ((((q1 ^^^ ((q1.toUInt64 >>> ((32 : Int32) &&& 0x3f).toInt64.toUInt64).toInt64)) * q2).toUInt64 >>> ((58 : Int32) &&& 0x3f).toInt64.toUInt64).toInt64)) * q2))])) _
    refine XS.lload X0.here hx rfl (hb hby d2_38) rfl ?_
    show Steps p.tables e below (s₁.setTop (mkF m 40 #[.val (.long q1), .second, .val (.long q2), .second, .val (.long (q1 ^^^ ((q1.toUInt64 >>> ((32 : Int32) &&& 0x3f).toInt64.toUInt64).toInt64))), .second, .val (.long ((q1 ^^^ ((q1.toUInt64 >>> ((32 : Int32) &&& 0x3f).toInt64.toUInt64).toInt64)) * q2)), .second, .val (.long ((((q1 ^^^ ((q1.toUInt64 >>> ((32 : Int32) &&& 0x3f).toInt64.toUInt64).toInt64)) * q2) ^^^ ((((q1 ^^^ ((q1.toUInt64 >>> ((32 : Int32) &&& 0x3f).toInt64.toUInt64).toInt64)) * q2).toUInt64 >>> ((29 : Int32) &&& 0x3f).toInt64.toUInt64).toInt64)) ^^^ ((((q1 ^^^ ((q1.toUInt64 >>> ((32 : Int32) &&& 0x3f).toInt64.toUInt64).toInt64)) * q2).toUInt64 >>> ((58 : Int32) &&& 0x3f).toInt64.toUInt64).toInt64))), .second, .val (.long (((((q1 ^^^ ((q1.toUInt64 >>> ((32 : Int32) &&& 0x3f).toInt64.toUInt64).toInt64)) * q2) ^^^ ((((q1 ^^^ ((q1.toUInt64 >>> ((32 : Int32) &&& 0x3f).toInt64.toUInt64).toInt64)) * q2).toUInt64 >>> ((29 : Int32) &&& 0x3f).toInt64.toUInt64).toInt64)) ^^^ ((((q1 ^^^ ((q1.toUInt64 >>> ((32 : Int32) &&& 0x3f).toInt64.toUInt64).toInt64)) * q2).toUInt64 >>> ((58 : Int32) &&& 0x3f).toInt64.toUInt64).toInt64)) * q2)), .second] [(.long (((((q1 ^^^ ((q1.toUInt64 >>> ((32 : Int32) &&& 0x3f).toInt64.toUInt64).toInt64)) * q2) ^^^ ((((q1 ^^^ ((q1.toUInt64 >>> ((32 : Int32) &&& 0x3f).toInt64.toUInt64).toInt64)) * q2).toUInt64 >>> ((29 : Int32) &&& 0x3f).toInt64.toUInt64).toInt64)) ^^^ ((((q1 ^^^ ((q1.toUInt64 >>> ((32 : Int32) &&& 0x3f).toInt64.toUInt64).toInt64)) * q2).toUInt64 >>> ((58 : Int32) &&& 0x3f).toInt64.toUInt64).toInt64)) * q2)), (.long (((((q1 ^^^ ((q1.toUInt64 >>> ((32 : Int32) &&& 0x3f).toInt64.toUInt64).toInt64)) * q2) ^^^ ((((q1 ^^^ ((q1.toUInt64 >>> ((32 : Int32) &&& 0x3f).toInt64.toUInt64).toInt64)) * q2).toUInt64 >>> ((29 : Int32) &&& 0x3f).toInt64.toUInt64).toInt64)) ^^^ ((((q1 ^^^ ((q1.toUInt64 >>> ((32 : Int32) &&& 0x3f).toInt64.toUInt64).toInt64)) * q2).toUInt64 >>> ((58 : Int32) &&& 0x3f).toInt64.toUInt64).toInt64)) * q2))])) _
    refine XS.bipush X0.here hx rfl (hb hby d2_40) ?_
    show Steps p.tables e below (s₁.setTop (mkF m 42 #[.val (.long q1), .second, .val (.long q2), .second, .val (.long (q1 ^^^ ((q1.toUInt64 >>> ((32 : Int32) &&& 0x3f).toInt64.toUInt64).toInt64))), .second, .val (.long ((q1 ^^^ ((q1.toUInt64 >>> ((32 : Int32) &&& 0x3f).toInt64.toUInt64).toInt64)) * q2)), .second, .val (.long ((((q1 ^^^ ((q1.toUInt64 >>> ((32 : Int32) &&& 0x3f).toInt64.toUInt64).toInt64)) * q2) ^^^ ((((q1 ^^^ ((q1.toUInt64 >>> ((32 : Int32) &&& 0x3f).toInt64.toUInt64).toInt64)) * q2).toUInt64 >>> ((29 : Int32) &&& 0x3f).toInt64.toUInt64).toInt64)) ^^^ ((((q1 ^^^ ((q1.toUInt64 >>> ((32 : Int32) &&& 0x3f).toInt64.toUInt64).toInt64)) * q2).toUInt64 >>> ((58 : Int32) &&& 0x3f).toInt64.toUInt64).toInt64))), .second, .val (.long (((((q1 ^^^ ((q1.toUInt64 >>> ((32 : Int32) &&& 0x3f).toInt64.toUInt64).toInt64)) * q2) ^^^ ((((q1 ^^^ ((q1.toUInt64 >>> ((32 : Int32) &&& 0x3f).toInt64.toUInt64).toInt64)) * q2).toUInt64 >>> ((29 : Int32) &&& 0x3f).toInt64.toUInt64).toInt64)) ^^^ ((((q1 ^^^ ((q1.toUInt64 >>> ((32 : Int32) &&& 0x3f).toInt64.toUInt64).toInt64)) * q2).toUInt64 >>> ((58 : Int32) &&& 0x3f).toInt64.toUInt64).toInt64)) * q2)), .second] [(.int (32 : Int32)), (.long (((((q1 ^^^ ((q1.toUInt64 >>> ((32 : Int32) &&& 0x3f).toInt64.toUInt64).toInt64)) * q2) ^^^ ((((q1 ^^^ ((q1.toUInt64 >>> ((32 : Int32) &&& 0x3f).toInt64.toUInt64).toInt64)) * q2).toUInt64 >>> ((29 : Int32) &&& 0x3f).toInt64.toUInt64).toInt64)) ^^^ ((((q1 ^^^ ((q1.toUInt64 >>> ((32 : Int32) &&& 0x3f).toInt64.toUInt64).toInt64)) * q2).toUInt64 >>> ((58 : Int32) &&& 0x3f).toInt64.toUInt64).toInt64)) * q2)), (.long (((((q1 ^^^ ((q1.toUInt64 >>> ((32 : Int32) &&& 0x3f).toInt64.toUInt64).toInt64)) * q2) ^^^ ((((q1 ^^^ ((q1.toUInt64 >>> ((32 : Int32) &&& 0x3f).toInt64.toUInt64).toInt64)) * q2).toUInt64 >>> ((29 : Int32) &&& 0x3f).toInt64.toUInt64).toInt64)) ^^^ ((((q1 ^^^ ((q1.toUInt64 >>> ((32 : Int32) &&& 0x3f).toInt64.toUInt64).toInt64)) * q2).toUInt64 >>> ((58 : Int32) &&& 0x3f).toInt64.toUInt64).toInt64)) * q2))])) _
    refine XS.lushr X0.here hx rfl (hb hby d2_42) rfl ?_
    show Steps p.tables e below (s₁.setTop (mkF m 43 #[.val (.long q1), .second, .val (.long q2), .second, .val (.long (q1 ^^^ ((q1.toUInt64 >>> ((32 : Int32) &&& 0x3f).toInt64.toUInt64).toInt64))), .second, .val (.long ((q1 ^^^ ((q1.toUInt64 >>> ((32 : Int32) &&& 0x3f).toInt64.toUInt64).toInt64)) * q2)), .second, .val (.long ((((q1 ^^^ ((q1.toUInt64 >>> ((32 : Int32) &&& 0x3f).toInt64.toUInt64).toInt64)) * q2) ^^^ ((((q1 ^^^ ((q1.toUInt64 >>> ((32 : Int32) &&& 0x3f).toInt64.toUInt64).toInt64)) * q2).toUInt64 >>> ((29 : Int32) &&& 0x3f).toInt64.toUInt64).toInt64)) ^^^ ((((q1 ^^^ ((q1.toUInt64 >>> ((32 : Int32) &&& 0x3f).toInt64.toUInt64).toInt64)) * q2).toUInt64 >>> ((58 : Int32) &&& 0x3f).toInt64.toUInt64).toInt64))), .second, .val (.long (((((q1 ^^^ ((q1.toUInt64 >>> ((32 : Int32) &&& 0x3f).toInt64.toUInt64).toInt64)) * q2) ^^^ ((((q1 ^^^ ((q1.toUInt64 >>> ((32 : Int32) &&& 0x3f).toInt64.toUInt64).toInt64)) * q2).toUInt64 >>> ((29 : Int32) &&& 0x3f).toInt64.toUInt64).toInt64)) ^^^ ((((q1 ^^^ ((q1.toUInt64 >>> ((32 : Int32) &&& 0x3f).toInt64.toUInt64).toInt64)) * q2).toUInt64 >>> ((58 : Int32) &&& 0x3f).toInt64.toUInt64).toInt64)) * q2)), .second] [(.long (((((((q1 ^^^ ((q1.toUInt64 >>> ((32 : Int32) &&& 0x3f).toInt64.toUInt64).toInt64)) * q2) ^^^ ((((q1 ^^^ ((q1.toUInt64 >>> ((32 : Int32) &&& 0x3f).toInt64.toUInt64).toInt64)) * q2).toUInt64 >>> ((29 : Int32) &&& 0x3f).toInt64.toUInt64).toInt64)) ^^^ ((((q1 ^^^ ((q1.toUInt64 >>> ((32 : Int32) &&& 0x3f).toInt64.toUInt64).toInt64)) * q2).toUInt64 >>> ((58 : Int32) &&& 0x3f).toInt64.toUInt64).toInt64)) * q2).toUInt64 >>> ((32 : Int32) &&& 0x3f).toInt64.toUInt64).toInt64)), (.long (((((q1 ^^^ ((q1.toUInt64 >>> ((32 : Int32) &&& 0x3f).toInt64.toUInt64).toInt64)) * q2) ^^^ ((((q1 ^^^ ((q1.toUInt64 >>> ((32 : Int32) &&& 0x3f).toInt64.toUInt64).toInt64)) * q2).toUInt64 >>> ((29 : Int32) &&& 0x3f).toInt64.toUInt64).toInt64)) ^^^ ((((q1 ^^^ ((q1.toUInt64 >>> ((32 : Int32) &&& 0x3f).toInt64.toUInt64).toInt64)) * q2).toUInt64 >>> ((58 : Int32) &&& 0x3f).toInt64.toUInt64).toInt64)) * q2))])) _
    refine XS.lxor X0.here hx rfl (hb hby d2_43) rfl ?_
    show Steps p.tables e below (s₁.setTop (mkF m 44 #[.val (.long q1), .second, .val (.long q2), .second, .val (.long (q1 ^^^ ((q1.toUInt64 >>> ((32 : Int32) &&& 0x3f).toInt64.toUInt64).toInt64))), .second, .val (.long ((q1 ^^^ ((q1.toUInt64 >>> ((32 : Int32) &&& 0x3f).toInt64.toUInt64).toInt64)) * q2)), .second, .val (.long ((((q1 ^^^ ((q1.toUInt64 >>> ((32 : Int32) &&& 0x3f).toInt64.toUInt64).toInt64)) * q2) ^^^ ((((q1 ^^^ ((q1.toUInt64 >>> ((32 : Int32) &&& 0x3f).toInt64.toUInt64).toInt64)) * q2).toUInt64 >>> ((29 : Int32) &&& 0x3f).toInt64.toUInt64).toInt64)) ^^^ ((((q1 ^^^ ((q1.toUInt64 >>> ((32 : Int32) &&& 0x3f).toInt64.toUInt64).toInt64)) * q2).toUInt64 >>> ((58 : Int32) &&& 0x3f).toInt64.toUInt64).toInt64))), .second, .val (.long (((((q1 ^^^ ((q1.toUInt64 >>> ((32 : Int32) &&& 0x3f).toInt64.toUInt64).toInt64)) * q2) ^^^ ((((q1 ^^^ ((q1.toUInt64 >>> ((32 : Int32) &&& 0x3f).toInt64.toUInt64).toInt64)) * q2).toUInt64 >>> ((29 : Int32) &&& 0x3f).toInt64.toUInt64).toInt64)) ^^^ ((((q1 ^^^ ((q1.toUInt64 >>> ((32 : Int32) &&& 0x3f).toInt64.toUInt64).toInt64)) * q2).toUInt64 >>> ((58 : Int32) &&& 0x3f).toInt64.toUInt64).toInt64)) * q2)), .second] [(.long ((((((q1 ^^^ ((q1.toUInt64 >>> ((32 : Int32) &&& 0x3f).toInt64.toUInt64).toInt64)) * q2) ^^^ ((((q1 ^^^ ((q1.toUInt64 >>> ((32 : Int32) &&& 0x3f).toInt64.toUInt64).toInt64)) * q2).toUInt64 >>> ((29 : Int32) &&& 0x3f).toInt64.toUInt64).toInt64)) ^^^ ((((q1 ^^^ ((q1.toUInt64 >>> ((32 : Int32) &&& 0x3f).toInt64.toUInt64).toInt64)) * q2).toUInt64 >>> ((58 : Int32) &&& 0x3f).toInt64.toUInt64).toInt64)) * q2) ^^^ (((((((q1 ^^^ ((q1.toUInt64 >>> ((32 : Int32) &&& 0x3f).toInt64.toUInt64).toInt64)) * q2) ^^^ ((((q1 ^^^ ((q1.toUInt64 >>> ((32 : Int32) &&& 0x3f).toInt64.toUInt64).toInt64)) * q2).toUInt64 >>> ((29 : Int32) &&& 0x3f).toInt64.toUInt64).toInt64)) ^^^ ((((q1 ^^^ ((q1.toUInt64 >>> ((32 : Int32) &&& 0x3f).toInt64.toUInt64).toInt64)) * q2).toUInt64 >>> ((58 : Int32) &&& 0x3f).toInt64.toUInt64).toInt64)) * q2).toUInt64 >>> ((32 : Int32) &&& 0x3f).toInt64.toUInt64).toInt64)))])) _
    exact retOut X0 hx Bd.returns rfl (Or.inr (Or.inl ⟨rfl, rfl, _, rfl⟩)) (hb hby d2_44) hr
  · show Q_rm_unf Z q1 q2 h0 n0 _ s₁.heap _
    rw [e0]
    exact ⟨rfl, N0, rfl⟩
theorem d3_0 : decode prog_40_method_3_code 0 = .ok (.lload_n 0, 1) := by decide +kernel
theorem d3_1 : decode prog_40_method_3_code 1 = .ok (.lload_n 0, 1) := by decide +kernel
theorem d3_2 : decode prog_40_method_3_code 2 = .ok (.bipush 32, 2) := by decide +kernel
theorem d3_4 : decode prog_40_method_3_code 4 = .ok (.lushr, 1) := by decide +kernel
theorem d3_5 : decode prog_40_method_3_code 5 = .ok (.lxor, 1) := by decide +kernel
theorem d3_6 : decode prog_40_method_3_code 6 = .ok (.lstore_n 2, 1) := by decide +kernel
theorem d3_7 : decode prog_40_method_3_code 7 = .ok (.lload_n 2, 1) := by decide +kernel
theorem d3_8 : decode prog_40_method_3_code 8 = .ok (.ldc2_w 36, 3) := by decide +kernel
theorem d3_11 : decode prog_40_method_3_code 11 = .ok (.lmul, 1) := by decide +kernel
theorem d3_12 : decode prog_40_method_3_code 12 = .ok (.lstore_n 2, 1) := by decide +kernel
theorem d3_13 : decode prog_40_method_3_code 13 = .ok (.lload_n 2, 1) := by decide +kernel
theorem d3_14 : decode prog_40_method_3_code 14 = .ok (.lload_n 2, 1) := by decide +kernel
theorem d3_15 : decode prog_40_method_3_code 15 = .ok (.bipush 29, 2) := by decide +kernel
theorem d3_17 : decode prog_40_method_3_code 17 = .ok (.lushr, 1) := by decide +kernel
theorem d3_18 : decode prog_40_method_3_code 18 = .ok (.lxor, 1) := by decide +kernel
theorem d3_19 : decode prog_40_method_3_code 19 = .ok (.lstore_n 2, 1) := by decide +kernel
theorem d3_20 : decode prog_40_method_3_code 20 = .ok (.lload_n 2, 1) := by decide +kernel
theorem d3_21 : decode prog_40_method_3_code 21 = .ok (.ldc2_w 36, 3) := by decide +kernel
theorem d3_24 : decode prog_40_method_3_code 24 = .ok (.lmul, 1) := by decide +kernel
theorem d3_25 : decode prog_40_method_3_code 25 = .ok (.lstore_n 2, 1) := by decide +kernel
theorem d3_26 : decode prog_40_method_3_code 26 = .ok (.lload_n 2, 1) := by decide +kernel
theorem d3_27 : decode prog_40_method_3_code 27 = .ok (.lload_n 2, 1) := by decide +kernel
theorem d3_28 : decode prog_40_method_3_code 28 = .ok (.bipush 32, 2) := by decide +kernel
theorem d3_30 : decode prog_40_method_3_code 30 = .ok (.lushr, 1) := by decide +kernel
theorem d3_31 : decode prog_40_method_3_code 31 = .ok (.lxor, 1) := by decide +kernel
theorem d3_32 : decode prog_40_method_3_code 32 = .ok (.lreturn, 1) := by decide +kernel
theorem pn_com_example_indberet_indberet_KeyTable : plainName "com/example/indberet/indberet/KeyTable" = true := by first | (simp [plainName, overriddenIn]; done) | decide +kernel
theorem ef_rm_fin (m : MethodId) (x0 : Int64) : entryFrame m #[(.long x0)] 4 = mkF m 0 #[.val (.long x0), .second, .unset, .unset] [] := by first | (simp [entryFrame, mkF, argsToLocals, Value.category]; done) | rfl
def Q_rm_fin (Z : State) (q1 : Int64) (h0 : Heap) (n0 : Nat) (v : Option Value) (h : Heap) (L : List Loc) : Prop := v = some (.long (own_fin q1)) ∧ Fr n0 L ∧ h = h0
set_option maxRecDepth 65536 in
set_option maxHeartbeats 40000000 in
theorem rm_fin (l : Launch) (Z : State) (a0 : Array Value) (hw : ∀ d ∈ tables_1, d.before a0 Z = true) (ws : List Jvm.Cond) (q1 : Int64) (h0 : Heap) (n0 : Nat) (Z0 : n0 ≤ h0.size) :
    MetFree l (⟨"com/example/indberet/indberet/KeyTable", "finish", "(J)J"⟩ : MethodName) (head1 (Jvm.Cond.code (⟨"com/example/indberet/indberet/KeyTable", "finish", "(J)J"⟩ : MethodName) prog_40_method_3_code 4 (some .long) :: ws) ({ frames := 0, cells := 0, slots := 0, locals := 0 } : Room)) (fun a U => a = #[(.long q1)] ∧ Z.Warmed39 U.vm ∧ U.heap = h0) (fun _ _ _ _ _ => True) (fun _ U o U' => ∃ v L, o = .returned v ∧ Q_rm_fin Z q1 h0 n0 v U'.heap L ∧ FrameEnd U o U' L ({ frames := 0, cells := 0, slots := 0, locals := 0 } : Room).cells ({ frames := 0, cells := 0, slots := 0, locals := 0 } : Room).slots) := by
  refine MetFree.of_bodySF (plainFor_of_name pn_com_example_indberet_indberet_KeyTable) hisR ?_
  intro p e s m args below meth c s₁ Bd hml0 hP hK
  obtain ⟨rfl, hZ, hh⟩ := hP
  have hx := Bd.exec
  have hby := Bd.bytes
  have hml : c.maxLocals = 4 := hml0
  have hown : s.vm.findClass "com/example/indberet/indberet/KeyTable" = some m.cls := findClass_of_methodNamed Bd.named
  have hnm := (name_of_methodNamed Bd.named Bd.method).1
  have X0 : Stand p l e ({ frames := 0, cells := 0, slots := 0, locals := 0 } : Room) s m #[(.long q1)] below meth c s₁ [] 0 0 := Stand.of_body Bd
  have e0 : s₁.heap = h0 := by rw [← hh, Bd.state]; rfl
  have N0 := Fr.nil n0
  have pre0 : ∀ t, Steps p.tables e below (s₁.setTop (mkF m 0 #[.val (.long q1), .second, .unset, .unset] [])) t → Steps p.tables e below (s₁.setTop (entryFrame m #[(.long q1)] 4)) t := fun t k => castTop (ef_rm_fin m q1) k
  obtain ⟨fs, hr, hrun, hended, hW, hsame⟩ := X0.leave (v := some (.long (((((q1 ^^^ ((q1.toUInt64 >>> ((32 : Int32) &&& 0x3f).toInt64.toUInt64).toInt64)) * (-7046029254386353131 : Int64)) ^^^ ((((q1 ^^^ ((q1.toUInt64 >>> ((32 : Int32) &&& 0x3f).toInt64.toUInt64).toInt64)) * (-7046029254386353131 : Int64)).toUInt64 >>> ((29 : Int32) &&& 0x3f).toInt64.toUInt64).toInt64)) * (-7046029254386353131 : Int64)) ^^^ ((((((q1 ^^^ ((q1.toUInt64 >>> ((32 : Int32) &&& 0x3f).toInt64.toUInt64).toInt64)) * (-7046029254386353131 : Int64)) ^^^ ((((q1 ^^^ ((q1.toUInt64 >>> ((32 : Int32) &&& 0x3f).toInt64.toUInt64).toInt64)) * (-7046029254386353131 : Int64)).toUInt64 >>> ((29 : Int32) &&& 0x3f).toInt64.toUInt64).toInt64)) * (-7046029254386353131 : Int64)).toUInt64 >>> ((32 : Int32) &&& 0x3f).toInt64.toUInt64).toInt64)))) (fun h => by rw [Bd.returns] at h; cases h)
  refine ⟨_, _, pre0 _ ?_, hrun, hended, _, _, rfl, ?_, ⟨_, rfl⟩, hW, hsame.mono (by decide) (by decide)⟩
  · show Steps p.tables e below (s₁.setTop (mkF m 0 #[.val (.long q1), .second, .unset, .unset] [])) _
    refine XS.lloadN X0.here hx rfl (hb hby d3_0) rfl ?_
    show Steps p.tables e below (s₁.setTop (mkF m 1 #[.val (.long q1), .second, .unset, .unset] [(.long q1)])) _
    refine XS.lloadN X0.here hx rfl (hb hby d3_1) rfl ?_
    show Steps p.tables e below (s₁.setTop (mkF m 2 #[.val (.long q1), .second, .unset, .unset] [(.long q1), (.long q1)])) _
    refine XS.bipush X0.here hx rfl (hb hby d3_2) ?_
    show Steps p.tables e below (s₁.setTop (mkF m 4 #[.val (.long q1), .second, .unset, .unset] [(.int (32 : Int32)), (.long q1), (.long q1)])) _
    refine XS.lushr X0.here hx rfl (hb hby d3_4) rfl ?_
    show Steps p.tables e below (s₁.setTop (mkF m 5 #[.val (.long q1), .second, .unset, .unset] [(.long ((q1.toUInt64 >>> ((32 : Int32) &&& 0x3f).toInt64.toUInt64).toInt64)), (.long q1)])) _
    refine XS.lxor X0.here hx rfl (hb hby d3_5) rfl ?_
    show Steps p.tables e below (s₁.setTop (mkF m 6 #[.val (.long q1), .second, .unset, .unset] [(.long (q1 ^^^ ((q1.toUInt64 >>> ((32 : Int32) &&& 0x3f).toInt64.toUInt64).toInt64)))])) _
    refine XS.lstoreN X0.here hx rfl (hb hby d3_6) rfl (l' := #[.val (.long q1), .second, .val (.long (q1 ^^^ ((q1.toUInt64 >>> ((32 : Int32) &&& 0x3f).toInt64.toUInt64).toInt64))), .second]) rfl ?_
    show Steps p.tables e below (s₁.setTop (mkF m 7 #[.val (.long q1), .second, .val (.long (q1 ^^^ ((q1.toUInt64 >>> ((32 : Int32) &&& 0x3f).toInt64.toUInt64).toInt64))), .second] [])) _
    refine XS.lloadN X0.here hx rfl (hb hby d3_7) rfl ?_
    show Steps p.tables e below (s₁.setTop (mkF m 8 #[.val (.long q1), .second, .val (.long (q1 ^^^ ((q1.toUInt64 >>> ((32 : Int32) &&& 0x3f).toInt64.toUInt64).toInt64))), .second] [(.long (q1 ^^^ ((q1.toUInt64 >>> ((32 : Int32) &&& 0x3f).toInt64.toUInt64).toInt64)))])) _
    refine X0.ldc2Long hx hown (mvT hZ (hw _ (List.mem_of_getElem? (i := 13) rfl))) (g := (mkF m 8 #[.val (.long q1), .second, .val (.long (q1 ^^^ ((q1.toUInt64 >>> ((32 : Int32) &&& 0x3f).toInt64.toUInt64).toInt64))), .second] [(.long (q1 ^^^ ((q1.toUInt64 >>> ((32 : Int32) &&& 0x3f).toInt64.toUInt64).toInt64)))])) rfl (hb hby d3_8) _ ?_
    show Steps p.tables e below (s₁.setTop (mkF m 11 #[.val (.long q1), .second, .val (.long (q1 ^^^ ((q1.toUInt64 >>> ((32 : Int32) &&& 0x3f).toInt64.toUInt64).toInt64))), .second] [(.long (-7046029254386353131 : Int64)), (.long (q1 ^^^ ((q1.toUInt64 >>> ((32 : Int32) &&& 0x3f).toInt64.toUInt64).toInt64)))])) _
    refine XS.lmul X0.here hx rfl (hb hby d3_11) rfl ?_
    show Steps p.tables e below (s₁.setTop (mkF m 12 #[.val (.long q1), .second, .val (.long (q1 ^^^ ((q1.toUInt64 >>> ((32 : Int32) &&& 0x3f).toInt64.toUInt64).toInt64))), .second] [(.long ((q1 ^^^ ((q1.toUInt64 >>> ((32 : Int32) &&& 0x3f).toInt64.toUInt64).toInt64)) * (-7046029254386353131 : Int64)))])) _
    refine XS.lstoreN X0.here hx rfl (hb hby d3_12) rfl (l' := #[.val (.long q1), .second, .val (.long ((q1 ^^^ ((q1.toUInt64 >>> ((32 : Int32) &&& 0x3f).toInt64.toUInt64).toInt64)) * (-7046029254386353131 : Int64))), .second]) rfl ?_
    show Steps p.tables e below (s₁.setTop (mkF m 13 #[.val (.long q1), .second, .val (.long ((q1 ^^^ ((q1.toUInt64 >>> ((32 : Int32) &&& 0x3f).toInt64.toUInt64).toInt64)) * (-7046029254386353131 : Int64))), .second] [])) _
    refine XS.lloadN X0.here hx rfl (hb hby d3_13) rfl ?_
    show Steps p.tables e below (s₁.setTop (mkF m 14 #[.val (.long q1), .second, .val (.long ((q1 ^^^ ((q1.toUInt64 >>> ((32 : Int32) &&& 0x3f).toInt64.toUInt64).toInt64)) * (-7046029254386353131 : Int64))), .second] [(.long ((q1 ^^^ ((q1.toUInt64 >>> ((32 : Int32) &&& 0x3f).toInt64.toUInt64).toInt64)) * (-7046029254386353131 : Int64)))])) _
    refine XS.lloadN X0.here hx rfl (hb hby d3_14) rfl ?_
    show Steps p.tables e below (s₁.setTop (mkF m 15 #[.val (.long q1), .second, .val (.long ((q1 ^^^ ((q1.toUInt64 >>> ((32 : Int32) &&& 0x3f).toInt64.toUInt64).toInt64)) * (-7046029254386353131 : Int64))), .second] [(.long ((q1 ^^^ ((q1.toUInt64 >>> ((32 : Int32) &&& 0x3f).toInt64.toUInt64).toInt64)) * (-7046029254386353131 : Int64))), (.long ((q1 ^^^ ((q1.toUInt64 >>> ((32 : Int32) &&& 0x3f).toInt64.toUInt64).toInt64)) * (-7046029254386353131 : Int64)))])) _
    refine XS.bipush X0.here hx rfl (hb hby d3_15) ?_
    show Steps p.tables e below (s₁.setTop (mkF m 17 #[.val (.long q1), .second, .val (.long ((q1 ^^^ ((q1.toUInt64 >>> ((32 : Int32) &&& 0x3f).toInt64.toUInt64).toInt64)) * (-7046029254386353131 : Int64))), .second] [(.int (29 : Int32)), (.long ((q1 ^^^ ((q1.toUInt64 >>> ((32 : Int32) &&& 0x3f).toInt64.toUInt64).toInt64)) * (-7046029254386353131 : Int64))), (.long ((q1 ^^^ ((q1.toUInt64 >>> ((32 : Int32) &&& 0x3f).toInt64.toUInt64).toInt64)) * (-7046029254386353131 : Int64)))])) _
    refine XS.lushr X0.here hx rfl (hb hby d3_17) rfl ?_
    show Steps p.tables e below (s₁.setTop (mkF m 18 #[.val (.long q1), .second, .val (.long ((q1 ^^^ ((q1.toUInt64 >>> ((32 : Int32) &&& 0x3f).toInt64.toUInt64).toInt64)) * (-7046029254386353131 : Int64))), .second] [(.long ((((q1 ^^^ ((q1.toUInt64 >>> ((32 : Int32) &&& 0x3f).toInt64.toUInt64).toInt64)) * (-7046029254386353131 : Int64)).toUInt64 >>> ((29 : Int32) &&& 0x3f).toInt64.toUInt64).toInt64)), (.long ((q1 ^^^ ((q1.toUInt64 >>> ((32 : Int32) &&& 0x3f).toInt64.toUInt64).toInt64)) * (-7046029254386353131 : Int64)))])) _
    refine XS.lxor X0.here hx rfl (hb hby d3_18) rfl ?_
    show Steps p.tables e below (s₁.setTop (mkF m 19 #[.val (.long q1), .second, .val (.long ((q1 ^^^ ((q1.toUInt64 >>> ((32 : Int32) &&& 0x3f).toInt64.toUInt64).toInt64)) * (-7046029254386353131 : Int64))), .second] [(.long (((q1 ^^^ ((q1.toUInt64 >>> ((32 : Int32) &&& 0x3f).toInt64.toUInt64).toInt64)) * (-7046029254386353131 : Int64)) ^^^ ((((q1 ^^^ ((q1.toUInt64 >>> ((32 : Int32) &&& 0x3f).toInt64.toUInt64).toInt64)) * (-7046029254386353131 : Int64)).toUInt64 >>> ((29 : Int32) &&& 0x3f).toInt64.toUInt64).toInt64)))])) _
    refine XS.lstoreN X0.here hx rfl (hb hby d3_19) rfl (l' := #[.val (.long q1), .second, .val (.long (((q1 ^^^ ((q1.toUInt64 >>> ((32 : Int32) &&& 0x3f).toInt64.toUInt64).toInt64)) * (-7046029254386353131 : Int64)) ^^^ ((((q1 ^^^ ((q1.toUInt64 >>> ((32 : Int32) &&& 0x3f).toInt64.toUInt64).toInt64)) * (-7046029254386353131 : Int64)).toUInt64 >>> ((29 : Int32) &&& 0x3f).toInt64.toUInt64).toInt64))), .second]) rfl ?_
    show Steps p.tables e below (s₁.setTop (mkF m 20 #[.val (.long q1), .second, .val (.long (((q1 ^^^ ((q1.toUInt64 >>> ((32 : Int32) &&& 0x3f).toInt64.toUInt64).toInt64)) * (-7046029254386353131 : Int64)) ^^^ ((((q1 ^^^ ((q1.toUInt64 >>> ((32 : Int32) &&& 0x3f).toInt64.toUInt64).toInt64)) * (-7046029254386353131 : Int64)).toUInt64 >>> ((29 : Int32) &&& 0x3f).toInt64.toUInt64).toInt64))), .second] [])) _
    refine XS.lloadN X0.here hx rfl (hb hby d3_20) rfl ?_
    show Steps p.tables e below (s₁.setTop (mkF m 21 #[.val (.long q1), .second, .val (.long (((q1 ^^^ ((q1.toUInt64 >>> ((32 : Int32) &&& 0x3f).toInt64.toUInt64).toInt64)) * (-7046029254386353131 : Int64)) ^^^ ((((q1 ^^^ ((q1.toUInt64 >>> ((32 : Int32) &&& 0x3f).toInt64.toUInt64).toInt64)) * (-7046029254386353131 : Int64)).toUInt64 >>> ((29 : Int32) &&& 0x3f).toInt64.toUInt64).toInt64))), .second] [(.long (((q1 ^^^ ((q1.toUInt64 >>> ((32 : Int32) &&& 0x3f).toInt64.toUInt64).toInt64)) * (-7046029254386353131 : Int64)) ^^^ ((((q1 ^^^ ((q1.toUInt64 >>> ((32 : Int32) &&& 0x3f).toInt64.toUInt64).toInt64)) * (-7046029254386353131 : Int64)).toUInt64 >>> ((29 : Int32) &&& 0x3f).toInt64.toUInt64).toInt64)))])) _
    refine X0.ldc2Long hx hown (mvT hZ (hw _ (List.mem_of_getElem? (i := 13) rfl))) (g := (mkF m 21 #[.val (.long q1), .second, .val (.long (((q1 ^^^ ((q1.toUInt64 >>> ((32 : Int32) &&& 0x3f).toInt64.toUInt64).toInt64)) * (-7046029254386353131 : Int64)) ^^^ ((((q1 ^^^ ((q1.toUInt64 >>> ((32 : Int32) &&& 0x3f).toInt64.toUInt64).toInt64)) * (-7046029254386353131 : Int64)).toUInt64 >>> ((29 : Int32) &&& 0x3f).toInt64.toUInt64).toInt64))), .second] [(.long (((q1 ^^^ ((q1.toUInt64 >>> ((32 : Int32) &&& 0x3f).toInt64.toUInt64).toInt64)) * (-7046029254386353131 : Int64)) ^^^ ((((q1 ^^^ ((q1.toUInt64 >>> ((32 : Int32) &&& 0x3f).toInt64.toUInt64).toInt64)) * (-7046029254386353131 : Int64)).toUInt64 >>> ((29 : Int32) &&& 0x3f).toInt64.toUInt64).toInt64)))])) rfl (hb hby d3_21) _ ?_
    show Steps p.tables e below (s₁.setTop (mkF m 24 #[.val (.long q1), .second, .val (.long (((q1 ^^^ ((q1.toUInt64 >>> ((32 : Int32) &&& 0x3f).toInt64.toUInt64).toInt64)) * (-7046029254386353131 : Int64)) ^^^ ((((q1 ^^^ ((q1.toUInt64 >>> ((32 : Int32) &&& 0x3f).toInt64.toUInt64).toInt64)) * (-7046029254386353131 : Int64)).toUInt64 >>> ((29 : Int32) &&& 0x3f).toInt64.toUInt64).toInt64))), .second] [(.long (-7046029254386353131 : Int64)), (.long (((q1 ^^^ ((q1.toUInt64 >>> ((32 : Int32) &&& 0x3f).toInt64.toUInt64).toInt64)) * (-7046029254386353131 : Int64)) ^^^ ((((q1 ^^^ ((q1.toUInt64 >>> ((32 : Int32) &&& 0x3f).toInt64.toUInt64).toInt64)) * (-7046029254386353131 : Int64)).toUInt64 >>> ((29 : Int32) &&& 0x3f).toInt64.toUInt64).toInt64)))])) _
    refine XS.lmul X0.here hx rfl (hb hby d3_24) rfl ?_
    show Steps p.tables e below (s₁.setTop (mkF m 25 #[.val (.long q1), .second, .val (.long (((q1 ^^^ ((q1.toUInt64 >>> ((32 : Int32) &&& 0x3f).toInt64.toUInt64).toInt64)) * (-7046029254386353131 : Int64)) ^^^ ((((q1 ^^^ ((q1.toUInt64 >>> ((32 : Int32) &&& 0x3f).toInt64.toUInt64).toInt64)) * (-7046029254386353131 : Int64)).toUInt64 >>> ((29 : Int32) &&& 0x3f).toInt64.toUInt64).toInt64))), .second] [(.long ((((q1 ^^^ ((q1.toUInt64 >>> ((32 : Int32) &&& 0x3f).toInt64.toUInt64).toInt64)) * (-7046029254386353131 : Int64)) ^^^ ((((q1 ^^^ ((q1.toUInt64 >>> ((32 : Int32) &&& 0x3f).toInt64.toUInt64).toInt64)) * (-7046029254386353131 : Int64)).toUInt64 >>> ((29 : Int32) &&& 0x3f).toInt64.toUInt64).toInt64)) * (-7046029254386353131 : Int64)))])) _
    refine XS.lstoreN X0.here hx rfl (hb hby d3_25) rfl (l' := #[.val (.long q1), .second, .val (.long ((((q1 ^^^ ((q1.toUInt64 >>> ((32 : Int32) &&& 0x3f).toInt64.toUInt64).toInt64)) * (-7046029254386353131 : Int64)) ^^^ ((((q1 ^^^ ((q1.toUInt64 >>> ((32 : Int32) &&& 0x3f).toInt64.toUInt64).toInt64)) * (-7046029254386353131 : Int64)).toUInt64 >>> ((29 : Int32) &&& 0x3f).toInt64.toUInt64).toInt64)) * (-7046029254386353131 : Int64))), .second]) rfl ?_
    show Steps p.tables e below (s₁.setTop (mkF m 26 #[.val (.long q1), .second, .val (.long ((((q1 ^^^ ((q1.toUInt64 >>> ((32 : Int32) &&& 0x3f).toInt64.toUInt64).toInt64)) * (-7046029254386353131 : Int64)) ^^^ ((((q1 ^^^ ((q1.toUInt64 >>> ((32 : Int32) &&& 0x3f).toInt64.toUInt64).toInt64)) * (-7046029254386353131 : Int64)).toUInt64 >>> ((29 : Int32) &&& 0x3f).toInt64.toUInt64).toInt64)) * (-7046029254386353131 : Int64))), .second] [])) _
    refine XS.lloadN X0.here hx rfl (hb hby d3_26) rfl ?_
    show Steps p.tables e below (s₁.setTop (mkF m 27 #[.val (.long q1), .second, .val (.long ((((q1 ^^^ ((q1.toUInt64 >>> ((32 : Int32) &&& 0x3f).toInt64.toUInt64).toInt64)) * (-7046029254386353131 : Int64)) ^^^ ((((q1 ^^^ ((q1.toUInt64 >>> ((32 : Int32) &&& 0x3f).toInt64.toUInt64).toInt64)) * (-7046029254386353131 : Int64)).toUInt64 >>> ((29 : Int32) &&& 0x3f).toInt64.toUInt64).toInt64)) * (-7046029254386353131 : Int64))), .second] [(.long ((((q1 ^^^ ((q1.toUInt64 >>> ((32 : Int32) &&& 0x3f).toInt64.toUInt64).toInt64)) * (-7046029254386353131 : Int64)) ^^^ ((((q1 ^^^ ((q1.toUInt64 >>> ((32 : Int32) &&& 0x3f).toInt64.toUInt64).toInt64)) * (-7046029254386353131 : Int64)).toUInt64 >>> ((29 : Int32) &&& 0x3f).toInt64.toUInt64).toInt64)) * (-7046029254386353131 : Int64)))])) _
    refine XS.lloadN X0.here hx rfl (hb hby d3_27) rfl ?_
    show Steps p.tables e below (s₁.setTop (mkF m 28 #[.val (.long q1), .second, .val (.long ((((q1 ^^^ ((q1.toUInt64 >>> ((32 : Int32) &&& 0x3f).toInt64.toUInt64).toInt64)) * (-7046029254386353131 : Int64)) ^^^ ((((q1 ^^^ ((q1.toUInt64 >>> ((32 : Int32) &&& 0x3f).toInt64.toUInt64).toInt64)) * (-7046029254386353131 : Int64)).toUInt64 >>> ((29 : Int32) &&& 0x3f).toInt64.toUInt64).toInt64)) * (-7046029254386353131 : Int64))), .second] [(.long ((((q1 ^^^ ((q1.toUInt64 >>> ((32 : Int32) &&& 0x3f).toInt64.toUInt64).toInt64)) * (-7046029254386353131 : Int64)) ^^^ ((((q1 ^^^ ((q1.toUInt64 >>> ((32 : Int32) &&& 0x3f).toInt64.toUInt64).toInt64)) * (-7046029254386353131 : Int64)).toUInt64 >>> ((29 : Int32) &&& 0x3f).toInt64.toUInt64).toInt64)) * (-7046029254386353131 : Int64))), (.long ((((q1 ^^^ ((q1.toUInt64 >>> ((32 : Int32) &&& 0x3f).toInt64.toUInt64).toInt64)) * (-7046029254386353131 : Int64)) ^^^ ((((q1 ^^^ ((q1.toUInt64 >>> ((32 : Int32) &&& 0x3f).toInt64.toUInt64).toInt64)) * (-7046029254386353131 : Int64)).toUInt64 >>> ((29 : Int32) &&& 0x3f).toInt64.toUInt64).toInt64)) * (-7046029254386353131 : Int64)))])) _
    refine XS.bipush X0.here hx rfl (hb hby d3_28) ?_
    show Steps p.tables e below (s₁.setTop (mkF m 30 #[.val (.long q1), .second, .val (.long ((((q1 ^^^ ((q1.toUInt64 >>> ((32 : Int32) &&& 0x3f).toInt64.toUInt64).toInt64)) * (-7046029254386353131 : Int64)) ^^^ ((((q1 ^^^ ((q1.toUInt64 >>> ((32 : Int32) &&& 0x3f).toInt64.toUInt64).toInt64)) * (-7046029254386353131 : Int64)).toUInt64 >>> ((29 : Int32) &&& 0x3f).toInt64.toUInt64).toInt64)) * (-7046029254386353131 : Int64))), .second] [(.int (32 : Int32)), (.long ((((q1 ^^^ ((q1.toUInt64 >>> ((32 : Int32) &&& 0x3f).toInt64.toUInt64).toInt64)) * (-7046029254386353131 : Int64)) ^^^ ((((q1 ^^^ ((q1.toUInt64 >>> ((32 : Int32) &&& 0x3f).toInt64.toUInt64).toInt64)) * (-7046029254386353131 : Int64)).toUInt64 >>> ((29 : Int32) &&& 0x3f).toInt64.toUInt64).toInt64)) * (-7046029254386353131 : Int64))), (.long ((((q1 ^^^ ((q1.toUInt64 >>> ((32 : Int32) &&& 0x3f).toInt64.toUInt64).toInt64)) * (-7046029254386353131 : Int64)) ^^^ ((((q1 ^^^ ((q1.toUInt64 >>> ((32 : Int32) &&& 0x3f).toInt64.toUInt64).toInt64)) * (-7046029254386353131 : Int64)).toUInt64 >>> ((29 : Int32) &&& 0x3f).toInt64.toUInt64).toInt64)) * (-7046029254386353131 : Int64)))])) _
    refine XS.lushr X0.here hx rfl (hb hby d3_30) rfl ?_
    show Steps p.tables e below (s₁.setTop (mkF m 31 #[.val (.long q1), .second, .val (.long ((((q1 ^^^ ((q1.toUInt64 >>> ((32 : Int32) &&& 0x3f).toInt64.toUInt64).toInt64)) * (-7046029254386353131 : Int64)) ^^^ ((((q1 ^^^ ((q1.toUInt64 >>> ((32 : Int32) &&& 0x3f).toInt64.toUInt64).toInt64)) * (-7046029254386353131 : Int64)).toUInt64 >>> ((29 : Int32) &&& 0x3f).toInt64.toUInt64).toInt64)) * (-7046029254386353131 : Int64))), .second] [(.long ((((((q1 ^^^ ((q1.toUInt64 >>> ((32 : Int32) &&& 0x3f).toInt64.toUInt64).toInt64)) * (-7046029254386353131 : Int64)) ^^^ ((((q1 ^^^ ((q1.toUInt64 >>> ((32 : Int32) &&& 0x3f).toInt64.toUInt64).toInt64)) * (-7046029254386353131 : Int64)).toUInt64 >>> ((29 : Int32) &&& 0x3f).toInt64.toUInt64).toInt64)) * (-7046029254386353131 : Int64)).toUInt64 >>> ((32 : Int32) &&& 0x3f).toInt64.toUInt64).toInt64)), (.long ((((q1 ^^^ ((q1.toUInt64 >>> ((32 : Int32) &&& 0x3f).toInt64.toUInt64).toInt64)) * (-7046029254386353131 : Int64)) ^^^ ((((q1 ^^^ ((q1.toUInt64 >>> ((32 : Int32) &&& 0x3f).toInt64.toUInt64).toInt64)) * (-7046029254386353131 : Int64)).toUInt64 >>> ((29 : Int32) &&& 0x3f).toInt64.toUInt64).toInt64)) * (-7046029254386353131 : Int64)))])) _
    refine XS.lxor X0.here hx rfl (hb hby d3_31) rfl ?_
    show Steps p.tables e below (s₁.setTop (mkF m 32 #[.val (.long q1), .second, .val (.long ((((q1 ^^^ ((q1.toUInt64 >>> ((32 : Int32) &&& 0x3f).toInt64.toUInt64).toInt64)) * (-7046029254386353131 : Int64)) ^^^ ((((q1 ^^^ ((q1.toUInt64 >>> ((32 : Int32) &&& 0x3f).toInt64.toUInt64).toInt64)) * (-7046029254386353131 : Int64)).toUInt64 >>> ((29 : Int32) &&& 0x3f).toInt64.toUInt64).toInt64)) * (-7046029254386353131 : Int64))), .second] [(.long (((((q1 ^^^ ((q1.toUInt64 >>> ((32 : Int32) &&& 0x3f).toInt64.toUInt64).toInt64)) * (-7046029254386353131 : Int64)) ^^^ ((((q1 ^^^ ((q1.toUInt64 >>> ((32 : Int32) &&& 0x3f).toInt64.toUInt64).toInt64)) * (-7046029254386353131 : Int64)).toUInt64 >>> ((29 : Int32) &&& 0x3f).toInt64.toUInt64).toInt64)) * (-7046029254386353131 : Int64)) ^^^ ((((((q1 ^^^ ((q1.toUInt64 >>> ((32 : Int32) &&& 0x3f).toInt64.toUInt64).toInt64)) * (-7046029254386353131 : Int64)) ^^^ ((((q1 ^^^ ((q1.toUInt64 >>> ((32 : Int32) &&& 0x3f).toInt64.toUInt64).toInt64)) * (-7046029254386353131 : Int64)).toUInt64 >>> ((29 : Int32) &&& 0x3f).toInt64.toUInt64).toInt64)) * (-7046029254386353131 : Int64)).toUInt64 >>> ((32 : Int32) &&& 0x3f).toInt64.toUInt64).toInt64)))])) _
    exact retOut X0 hx Bd.returns rfl (Or.inr (Or.inl ⟨rfl, rfl, _, rfl⟩)) (hb hby d3_32) hr
  · show Q_rm_fin Z q1 h0 n0 _ s₁.heap _
    rw [e0]
    exact ⟨rfl, N0, rfl⟩
theorem pd__40J_41J : parseMethodDescriptor "(J)J" = some ⟨[.long], some .long⟩ := by decide +kernel
theorem pd__40JJ_41J : parseMethodDescriptor "(JJ)J" = some ⟨[.long, .long], some .long⟩ := by decide +kernel
theorem ef_rm0 (m : MethodId) (x0 : Int64) : entryFrame m #[(.long x0)] maxLocals = mkF m 0 #[.val (.long x0), .second, .unset, .unset, .unset, .unset] [] := by first | (simp [entryFrame, mkF, argsToLocals, Value.category, maxLocals]; done) | rfl
def Q_rm0 (Z : State) (p1 : Int64) (h0 : Heap) (n0 : Nat) (v : Option Value) (h : Heap) (L : List Loc) : Prop := v = some (.int (1 : Int32)) ∧ Fr n0 L
set_option maxRecDepth 65536 in
set_option maxHeartbeats 40000000 in
theorem rm0 (l : Launch) (Z : State) (a0 : Array Value) (hw : ∀ d ∈ tables_1, d.before a0 Z = true) (ws : List Jvm.Cond) (p1 : Int64) (h0 : Heap) (n0 : Nat) (Z0 : n0 ≤ h0.size) :
    MetFree l x (head1 (Jvm.Cond.code x code maxLocals ret :: ws) room_1) (fun a U => a = #[(.long p1)] ∧ Z.Warmed39 U.vm ∧ U.heap = h0) (fun _ _ _ _ _ => True) (fun _ U o U' => ∃ v L, o = .returned v ∧ Q_rm0 Z p1 h0 n0 v U'.heap L ∧ FrameEnd U o U' L room_1.cells room_1.slots) := by
  refine MetFree.of_bodySF (plainFor_of_name pn_com_example_indberet_indberet_KeyTableFinishPinLaw) hisR ?_
  intro p e s m args below meth c s₁ Bd hml0 hP hK
  obtain ⟨rfl, hZ, hh⟩ := hP
  have hx := Bd.exec
  have hby := Bd.bytes
  have hml : c.maxLocals = 6 := hml0
  have hown : s.vm.findClass "com/example/indberet/indberet/KeyTableFinishPinLaw" = some m.cls := findClass_of_methodNamed Bd.named
  have hnm := (name_of_methodNamed Bd.named Bd.method).1
  have X0 : Stand p l e room_1 s m #[(.long p1)] below meth c s₁ [] 0 0 := Stand.of_body Bd
  have e0 : s₁.heap = h0 := by rw [← hh, Bd.state]; rfl
  have N0 := Fr.nil n0
  have pre0 : ∀ t, Steps p.tables e below (s₁.setTop (mkF m 0 #[.val (.long p1), .second, .unset, .unset, .unset, .unset] [])) t → Steps p.tables e below (s₁.setTop (entryFrame m #[(.long p1)] maxLocals)) t := fun t k => castTop (ef_rm0 m p1) k
  obtain ⟨_, _, ⟨T1, L1, k1, n1⟩, -, X1, ⟨Lc1, hQ1, l1, y1, z1⟩, st1⟩ := Jvm.LawKit.callS X0 hx (y := (⟨"com/example/indberet/indberet/KeyTableFinishPinLaw", "inverse", "(J)J"⟩ : MethodName)) hown (mvT hZ (hw _ (List.mem_of_getElem? (i := 1) rfl))) (mvT hZ (hw _ (List.mem_of_getElem? (i := 2) rfl))) (mvT hZ (hw _ (List.mem_of_getElem? (i := 3) rfl))) (mvT hZ (hw _ (List.mem_of_getElem? (i := 4) rfl))) (by decide) (backOf (W := 0) (rm_inv l Z a0 hw [] (-7046029254386353131 : Int64) h0 n0 Z0) hZ (hw _ (List.mem_of_getElem? (i := 4) rfl)) (hw _ (List.mem_of_getElem? (i := 3) rfl)) (by decide) (by decide)) (g := (mkF m 3 #[.val (.long p1), .second, .unset, .unset, .unset, .unset] [(.long (-7046029254386353131 : Int64))])) rfl (by rw [hml]; rfl) (argsL := [(.long (-7046029254386353131 : Int64))]) (rest := []) (lenOf pd__40J_41J rfl) rfl (by show 2 * 0 + _ ≤ _; exact Nat.le_of_eq rfl) (hb hby at_3) (fun _ _ => ⟨rfl, e0, (by decide : 0 + 0 ≤ _), (by decide : 0 + 0 ≤ _)⟩)
  dsimp only [Pt.U, Pt.locs, Pt.cells, Pt.slots] at X1 l1 y1 z1 st1 hQ1
  subst l1 y1 z1
  obtain ⟨rfl, Nq1, e1⟩ := hQ1
  have N1 := Fr.app N0 Nq1
  obtain ⟨_, _, ⟨T2, L2, k2, n2⟩, -, X2, ⟨Lc2, hQ2, l2, y2, z2⟩, st2⟩ := Jvm.LawKit.callS X1 hx (y := (⟨"com/example/indberet/indberet/KeyTableFinishPinLaw", "unfinish", "(JJ)J"⟩ : MethodName)) hown (mvT hZ (hw _ (List.mem_of_getElem? (i := 6) rfl))) (mvT hZ (hw _ (List.mem_of_getElem? (i := 7) rfl))) (mvT hZ (hw _ (List.mem_of_getElem? (i := 3) rfl))) (mvT hZ (hw _ (List.mem_of_getElem? (i := 8) rfl))) (by decide) (backOf (W := 0) (rm_unf l Z a0 hw [] p1 (own_inv (-7046029254386353131 : Int64)) h0 n0 Z0) hZ (hw _ (List.mem_of_getElem? (i := 8) rfl)) (hw _ (List.mem_of_getElem? (i := 3) rfl)) (by decide) (by decide)) (g := (mkF m 21 #[.val (.long p1), .second, .val (.long (own_inv (-7046029254386353131 : Int64))), .second, .unset, .unset] [(.long (own_inv (-7046029254386353131 : Int64))), (.long p1)])) rfl (by rw [hml]; rfl) (argsL := [(.long p1), (.long (own_inv (-7046029254386353131 : Int64)))]) (rest := []) (lenOf pd__40JJ_41J rfl) rfl (by show 2 * 0 + _ ≤ _; exact Nat.le_of_eq rfl) (hb hby at_21) (fun _ _ => ⟨rfl, e1, (by decide : 0 + 0 ≤ _), (by decide : 0 + 0 ≤ _)⟩)
  dsimp only [Pt.U, Pt.locs, Pt.cells, Pt.slots] at X2 l2 y2 z2 st2 hQ2
  subst l2 y2 z2
  obtain ⟨rfl, Nq2, e2⟩ := hQ2
  have N2 := Fr.app N1 Nq2
  obtain ⟨_, _, ⟨T3, L3, k3, n3⟩, -, X3, ⟨Lc3, hQ3, l3, y3, z3⟩, st3⟩ := Jvm.LawKit.callS X2 hx (y := (⟨"com/example/indberet/indberet/KeyTable", "finish", "(J)J"⟩ : MethodName)) hown (mvT hZ (hw _ (List.mem_of_getElem? (i := 9) rfl))) (mvT hZ (hw _ (List.mem_of_getElem? (i := 10) rfl))) (mvT hZ (hw _ (List.mem_of_getElem? (i := 11) rfl))) (mvT hZ (hw _ (List.mem_of_getElem? (i := 12) rfl))) (by decide) (backOf (W := 0) (rm_fin l Z a0 hw [] (own_unf p1 (own_inv (-7046029254386353131 : Int64))) h0 n0 Z0) hZ (hw _ (List.mem_of_getElem? (i := 12) rfl)) (hw _ (List.mem_of_getElem? (i := 11) rfl)) (by decide) (by decide)) (g := (mkF m 28 #[.val (.long p1), .second, .val (.long (own_inv (-7046029254386353131 : Int64))), .second, .val (.long (own_unf p1 (own_inv (-7046029254386353131 : Int64)))), .second] [(.long (own_unf p1 (own_inv (-7046029254386353131 : Int64))))])) rfl (by rw [hml]; rfl) (argsL := [(.long (own_unf p1 (own_inv (-7046029254386353131 : Int64))))]) (rest := []) (lenOf pd__40J_41J rfl) rfl (by show 2 * 0 + _ ≤ _; exact Nat.le_of_eq rfl) (hb hby at_28) (fun _ _ => ⟨rfl, e2, (by decide : 0 + 0 ≤ _), (by decide : 0 + 0 ≤ _)⟩)
  dsimp only [Pt.U, Pt.locs, Pt.cells, Pt.slots] at X3 l3 y3 z3 st3 hQ3
  subst l3 y3 z3
  obtain ⟨rfl, Nq3, e3⟩ := hQ3
  have N3 := Fr.app N2 Nq3
  obtain ⟨fs, hr, hrun, hended, hW, hsame⟩ := X3.leave (v := some (.int (1 : Int32))) (fun h => by rw [Bd.returns] at h; cases h)
  refine ⟨_, _, pre0 _ ?_, hrun, hended, _, _, rfl, ?_, ⟨_, rfl⟩, hW, hsame.mono (by decide) (by decide)⟩
  · show Steps p.tables e below (s₁.setTop (mkF m 0 #[.val (.long p1), .second, .unset, .unset, .unset, .unset] [])) _
    refine X0.ldc2Long hx hown (mvT hZ (hw _ (List.mem_of_getElem? (i := 0) rfl))) (g := (mkF m 0 #[.val (.long p1), .second, .unset, .unset, .unset, .unset] [])) rfl (hb hby at_0) _ ?_
    show Steps p.tables e below (s₁.setTop (mkF m 3 #[.val (.long p1), .second, .unset, .unset, .unset, .unset] [(.long (-7046029254386353131 : Int64))])) _
    refine st1 _ ?_
    show Steps p.tables e below (T1.setTop (mkF m 6 #[.val (.long p1), .second, .unset, .unset, .unset, .unset] [(.long (own_inv (-7046029254386353131 : Int64)))])) _
    refine XS.lstoreN X1.here hx rfl (hb hby at_6) rfl (l' := #[.val (.long p1), .second, .val (.long (own_inv (-7046029254386353131 : Int64))), .second, .unset, .unset]) rfl ?_
    show Steps p.tables e below (T1.setTop (mkF m 7 #[.val (.long p1), .second, .val (.long (own_inv (-7046029254386353131 : Int64))), .second, .unset, .unset] [])) _
    refine XS.lloadN X1.here hx rfl (hb hby at_7) rfl ?_
    show Steps p.tables e below (T1.setTop (mkF m 8 #[.val (.long p1), .second, .val (.long (own_inv (-7046029254386353131 : Int64))), .second, .unset, .unset] [(.long (own_inv (-7046029254386353131 : Int64)))])) _
    refine X1.ldc2Long hx hown (mvT hZ (hw _ (List.mem_of_getElem? (i := 0) rfl))) (g := (mkF m 8 #[.val (.long p1), .second, .val (.long (own_inv (-7046029254386353131 : Int64))), .second, .unset, .unset] [(.long (own_inv (-7046029254386353131 : Int64)))])) rfl (hb hby at_8) _ ?_
    show Steps p.tables e below (T1.setTop (mkF m 11 #[.val (.long p1), .second, .val (.long (own_inv (-7046029254386353131 : Int64))), .second, .unset, .unset] [(.long (-7046029254386353131 : Int64)), (.long (own_inv (-7046029254386353131 : Int64)))])) _
    refine XS.lmul X1.here hx rfl (hb hby at_11) rfl ?_
    show Steps p.tables e below (T1.setTop (mkF m 12 #[.val (.long p1), .second, .val (.long (own_inv (-7046029254386353131 : Int64))), .second, .unset, .unset] [(.long ((own_inv (-7046029254386353131 : Int64)) * (-7046029254386353131 : Int64)))])) _
    refine XS.lconst X1.here hx rfl (hb hby at_12) ?_
    show Steps p.tables e below (T1.setTop (mkF m 13 #[.val (.long p1), .second, .val (.long (own_inv (-7046029254386353131 : Int64))), .second, .unset, .unset] [(.long (1 : Int64)), (.long ((own_inv (-7046029254386353131 : Int64)) * (-7046029254386353131 : Int64)))])) _
    refine XS.lcmp X1.here hx rfl (hb hby at_13) rfl ?_
    show Steps p.tables e below (T1.setTop (mkF m 14 #[.val (.long p1), .second, .val (.long (own_inv (-7046029254386353131 : Int64))), .second, .unset, .unset] [(.int (lcmpW ((own_inv (-7046029254386353131 : Int64)) * (-7046029254386353131 : Int64)) (1 : Int64)))])) _
    refine XS.ifYes X1.here hx rfl (pc0 := 14) (pc' := 19) rfl (hb hby at_14) rfl ((if0 _ _).trans (teq ((lw_eq _ _).mpr own_invM)).1) (by decide) (by decide) ?_
    show Steps p.tables e below (T1.setTop (mkF m 19 #[.val (.long p1), .second, .val (.long (own_inv (-7046029254386353131 : Int64))), .second, .unset, .unset] [])) _
    refine XS.lloadN X1.here hx rfl (hb hby at_19) rfl ?_
    show Steps p.tables e below (T1.setTop (mkF m 20 #[.val (.long p1), .second, .val (.long (own_inv (-7046029254386353131 : Int64))), .second, .unset, .unset] [(.long p1)])) _
    refine XS.lloadN X1.here hx rfl (hb hby at_20) rfl ?_
    show Steps p.tables e below (T1.setTop (mkF m 21 #[.val (.long p1), .second, .val (.long (own_inv (-7046029254386353131 : Int64))), .second, .unset, .unset] [(.long (own_inv (-7046029254386353131 : Int64))), (.long p1)])) _
    refine st2 _ ?_
    show Steps p.tables e below (T2.setTop (mkF m 24 #[.val (.long p1), .second, .val (.long (own_inv (-7046029254386353131 : Int64))), .second, .unset, .unset] [(.long (own_unf p1 (own_inv (-7046029254386353131 : Int64))))])) _
    refine XS.lstore X2.here hx rfl (hb hby at_24) rfl (l' := #[.val (.long p1), .second, .val (.long (own_inv (-7046029254386353131 : Int64))), .second, .val (.long (own_unf p1 (own_inv (-7046029254386353131 : Int64)))), .second]) rfl ?_
    show Steps p.tables e below (T2.setTop (mkF m 26 #[.val (.long p1), .second, .val (.long (own_inv (-7046029254386353131 : Int64))), .second, .val (.long (own_unf p1 (own_inv (-7046029254386353131 : Int64)))), .second] [])) _
    refine XS.lload X2.here hx rfl (hb hby at_26) rfl ?_
    show Steps p.tables e below (T2.setTop (mkF m 28 #[.val (.long p1), .second, .val (.long (own_inv (-7046029254386353131 : Int64))), .second, .val (.long (own_unf p1 (own_inv (-7046029254386353131 : Int64)))), .second] [(.long (own_unf p1 (own_inv (-7046029254386353131 : Int64))))])) _
    refine st3 _ ?_
    show Steps p.tables e below (T3.setTop (mkF m 31 #[.val (.long p1), .second, .val (.long (own_inv (-7046029254386353131 : Int64))), .second, .val (.long (own_unf p1 (own_inv (-7046029254386353131 : Int64)))), .second] [(.long (own_fin (own_unf p1 (own_inv (-7046029254386353131 : Int64)))))])) _
    refine XS.lloadN X3.here hx rfl (hb hby at_31) rfl ?_
    show Steps p.tables e below (T3.setTop (mkF m 32 #[.val (.long p1), .second, .val (.long (own_inv (-7046029254386353131 : Int64))), .second, .val (.long (own_unf p1 (own_inv (-7046029254386353131 : Int64)))), .second] [(.long p1), (.long (own_fin (own_unf p1 (own_inv (-7046029254386353131 : Int64)))))])) _
    refine XS.lcmp X3.here hx rfl (hb hby at_32) rfl ?_
    show Steps p.tables e below (T3.setTop (mkF m 33 #[.val (.long p1), .second, .val (.long (own_inv (-7046029254386353131 : Int64))), .second, .val (.long (own_unf p1 (own_inv (-7046029254386353131 : Int64)))), .second] [(.int (lcmpW (own_fin (own_unf p1 (own_inv (-7046029254386353131 : Int64)))) p1))])) _
    refine XS.ifNo X3.here hx rfl (hb hby at_33) rfl ((if0 _ _).trans (teq ((lw_eq _ _).mpr (own_main p1))).2) ?_
    show Steps p.tables e below (T3.setTop (mkF m 36 #[.val (.long p1), .second, .val (.long (own_inv (-7046029254386353131 : Int64))), .second, .val (.long (own_unf p1 (own_inv (-7046029254386353131 : Int64)))), .second] [])) _
    refine XS.iconst X3.here hx rfl (hb hby at_36) ?_
    show Steps p.tables e below (T3.setTop (mkF m 37 #[.val (.long p1), .second, .val (.long (own_inv (-7046029254386353131 : Int64))), .second, .val (.long (own_unf p1 (own_inv (-7046029254386353131 : Int64)))), .second] [(.int (1 : Int32))])) _
    refine XS.goto X3.here hx rfl (pc0 := 37) (pc' := 41) rfl (hb hby at_37) (by decide) (by decide) ?_
    show Steps p.tables e below (T3.setTop (mkF m 41 #[.val (.long p1), .second, .val (.long (own_inv (-7046029254386353131 : Int64))), .second, .val (.long (own_unf p1 (own_inv (-7046029254386353131 : Int64)))), .second] [(.int (1 : Int32))])) _
    exact retN X3 hx (t := .boolean) Bd.returns (by simp) (hb hby at_41) hr
  · show Q_rm0 Z p1 h0 n0 _ T3.heap _
    exact ⟨rfl, N3⟩
set_option maxRecDepth 65536 in
set_option maxHeartbeats 40000000 in
theorem comes_1 {Post : Tables → Env → Array Value → State → Outcome → State → Prop} (hpost : ∀ tb e args s v u, (limb_1_1.after args s (.returned v) u = true ∧ limb_1_2.after args s (.returned v) u = true ∧ True) → FrameEnd s (.returned v) u (Jvm.fieldLocs frame_1_writes args s ++ Jvm.arrayLocs frame_1_arrays args s ++ Jvm.staticLocs frame_1_statics s) 0 0 → Post tb e args s (.returned v) u) :
    ArmFor flags0 classFile x code maxLocals ret World_1 tables_1 room_1 Calls_1 rest_1 Pre_1 Post := by
  intro l hfl _ _ p e ha hc hk s m args below hf hA hF happ hP
  obtain ⟨hcalls, hrest, hpre⟩ := hP
  obtain ⟨-, -, -, hnamed, -, -, -, hat⟩ := (Spec.applies_iff hf).mp happ
  obtain ⟨hg, hn⟩ := and_e (Cond.before_iff.mp (show (Jvm.Cond.and given_1 narrow_1).before args s = true from hpre))
  obtain ⟨gg1, gg2⟩ := and_e hg
  obtain ⟨w0, rfl⟩ : ∃ w0 : Value, args = #[w0] := by
    have hs : args.size = 1 := by simpa [Cond.value, given_1] using gg1
    obtain ⟨L⟩ := args
    match L, hs with
    | [w0], _ => exact ⟨w0, rfl⟩
  have hw := fun d (hd : d ∈ tables_1) => atoms_spec (ws := Jvm.Cond.code x code maxLocals ret :: tables_1) hat d (List.mem_cons_of_mem _ hd)
  have hfit : Fit s := fun {y c} hc i hi => by
    obtain ⟨ha, rfl⟩ := Array.getElem?_eq_some_iff.mp hc
    have q := List.all_eq_true.mp ((Array.all_eq_true_iff_forall_mem.mp hF) _ (Array.getElem_mem ha)) i (List.mem_range.mpr hi)
    simpa [Array.getElem?_eq_getElem hi] using q
  obtain ⟨i0, ei0⟩ := isL_v gg2
  obtain rfl : w0 = (.long i0) := Option.some.inj ei0
  obtain ⟨n, o, h1, h2, h3, _, L, rfl, ⟨rfl, N⟩, hq⟩ := rm0 l s _ hw tables_1 i0 s.heap s.heap.size (Nat.le_refl _) p e ha hc hk s m _ below hf ((Spec.applies_iff_loose hf).mp happ).1 ⟨rfl, State.Warmed39.refl s, rfl⟩ trivial
  refine ⟨n, _, h1, h2, h3, hpost _ _ _ _ _ _ ⟨Cond.after_iff.mpr rfl, Cond.after_iff.mpr (eq_i res_at (Term.int_eval (1)) rfl), trivial⟩ ⟨hq.1, hq.2.1, (hq.2.2.sift fun y hy => Or.inr (N y hy)).mono (by decide) (by decide)⟩⟩
theorem main_1_1 : Claimed_1_1 := comes_1 fun _ _ _ _ _ _ h hF => ⟨h.1, hF⟩
theorem main_1_2 : Claimed_1_2 := comes_1 fun _ _ _ _ _ _ h hF => ⟨h.2.1, hF⟩
end Jvm.Pilot.@@N@@
namespace Jvm.Pilot.@@N@@
open Jvm Jvm.ClassFile Sem Op Lib Jvm.Free Jvm.Stand Jvm.Pilot.@@N@@.Jvm.D
/-! MADE BY PROGRAM (witnessworld.py) out of the Statement's table words and the real class files: 9 classes; the members and pool entries that the words name. The judged class is class 1, her method 3. -/
namespace start1
open Jvm.ClassFile
def u (s : String) : CpInfo := .utf8 (stringToUtf16 s)
/-- a pool by its gaps: so many unusable entries, then the entry; so many at the end -/
def gap : Nat → List CpInfo → List CpInfo
  | 0, r => r
  | n + 1, r => .unusable :: gap n r
def poolList (es : List (Nat × CpInfo)) (last : Nat) : List CpInfo := es.foldr (fun e r => gap e.1 (e.2 :: r)) (gap last [])
def pool (es : List (Nat × CpInfo)) (last : Nat) : Array CpInfo := ⟨poolList es last⟩
def fileOf (pool : Array CpInfo) (this : Nat) (attrs : Array Attribute := #[]) (ms : Array MethodInfo := #[]) (fl : Nat := 33) (sup : Nat := 0) (ifs : Array Nat := #[]) (fds : Array FieldInfo := #[]) : ClassFile where
  minorVersion := 0
  majorVersion := 65
  constantPool := pool
  accessFlags := fl
  thisClass := this
  superClass := sup
  interfaces := ifs
  fields := fds
  methods := ms
  attributes := attrs
def plain (name : String) (sup : Option ClassId) : Class where
  name := name
  kind := .ordinary
  loader := none
  accessFlags := 33
  super := sup
  interfaces := #[]
  cf := none
  fields := #[]
  methods := #[]
  instanceTypes := #[]
  staticTypes := #[]
  resolved := #[]
  callSites := []
  init := .initialized
  statics := none
  mirror := none

def pool0 : Array CpInfo := pool [(5, u "<init>"), (0, u "()V"), (1, .class_ 10), (1, u "java/lang/Object")] 113

def k0m0 : Method := { name := "<init>", desc := "()V", sig := { parameters := [], returnType := none }, accessFlags := 1, code := none }
/-- java/lang/Object -/
def k0 : Class := { plain "java/lang/Object" none with
  accessFlags := 33
  interfaces := #[]
  cf := some (fileOf pool0 8 #[] #[{ accessFlags := 1, nameIndex := 5, descriptorIndex := 6, attributes := #[] }] 33 0 #[] #[])
  fields := #[]
  methods := #[k0m0]
  instanceTypes := #[]
  staticTypes := #[]
  resolved := Array.replicate 124 none
  statics := none }

def pool1 : Array CpInfo := pool [(2, .class_ 4), (1, u "java/lang/Object"), (0, u "<init>"), (0, u "()V"), (0, .long 2), (1, .class_ 10), (0, u "com/example/indberet/indberet/KeyTableFinishPinLaw"), (0, .long 11400714819323198485), (1, .methodref 9 14), (0, .nameAndType 15 16), (0, u "inverse"), (0, u "(J)J"), (0, .methodref 9 18), (0, .nameAndType 19 20), (0, u "unfinish"), (0, u "(JJ)J"), (0, .methodref 22 23), (0, .class_ 24), (0, .nameAndType 25 16), (0, u "com/example/indberet/indberet/KeyTable"), (0, u "finish"), (0, u "M"), (0, u "J"), (3, u "law"), (0, u "(J)Z")] 3

def k1m0 : Method := { name := "<init>", desc := "()V", sig := { parameters := [], returnType := none }, accessFlags := 2, code := none }
def k1c1 : Code := { maxStack := 8, maxLocals := 4, code := method_2_code, exceptionTable := #[], attributes := #[] }
def k1m1 : Method := { name := "inverse", desc := "(J)J", sig := { parameters := [.long], returnType := some .long }, accessFlags := 10, code := some k1c1 }
def k1c2 : Code := { maxStack := 5, maxLocals := 12, code := method_3_code, exceptionTable := #[], attributes := #[] }
def k1m2 : Method := { name := "unfinish", desc := "(JJ)J", sig := { parameters := [.long, .long], returnType := some .long }, accessFlags := 10, code := some k1c2 }
def k1c3 : Code := { maxStack := 4, maxLocals := 6, code := code, exceptionTable := #[], attributes := #[] }
def k1m3 : Method := { name := "law", desc := "(J)Z", sig := { parameters := [.long], returnType := some .boolean }, accessFlags := 9, code := some k1c3 }
/-- com/example/indberet/indberet/KeyTableFinishPinLaw -/
def k1 : Class := { plain "com/example/indberet/indberet/KeyTableFinishPinLaw" (some 0) with
  accessFlags := 49
  interfaces := #[]
  cf := some (fileOf pool1 9 #[] #[{ accessFlags := 2, nameIndex := 5, descriptorIndex := 6, attributes := #[] }, { accessFlags := 10, nameIndex := 15, descriptorIndex := 16, attributes := #[] }, { accessFlags := 10, nameIndex := 19, descriptorIndex := 20, attributes := #[] }, { accessFlags := 9, nameIndex := 31, descriptorIndex := 32, attributes := #[] }] 49 2 #[] #[{ accessFlags := 26, nameIndex := 26, descriptorIndex := 27, attributes := #[] }])
  fields := #[{ name := "M", type := .long, accessFlags := 26, slot := 0, constantValue := 0 }]
  methods := #[k1m0, k1m1, k1m2, k1m3]
  instanceTypes := #[]
  staticTypes := #[.long]
  resolved := Array.replicate 36 none
  statics := none }

def pool2 : Array CpInfo := pool [(3, .class_ 4), (0, u "com/example/indberet/indberet/KeyTable"), (1, .class_ 8), (1, u "java/lang/Object"), (6, u "pages"), (0, u "[[B"), (2, u "pageEnd"), (0, u "I"), (2, u "pageSize"), (0, .class_ 25), (0, u "com/example/indberet/indberet/KeyTable$Segment"), (5, u "directory"), (0, u "[Lcom/example/indberet/indberet/KeyTable$Segment;"), (2, u "valuesPerKey"), (0, .long 11400714819323198485), (13, u "LONGS"), (0, u "Ljava/lang/invoke/VarHandle;"), (10, u "size"), (13, u "pageCount"), (1, .class_ 80), (1, u "com/example/indberet/indberet/KeyTable$Key"), (66, u "MAX_DEPTH"), (29, u "directoryBits"), (8, u "LARGEST_PAGE_SIZE"), (46, u "(J)J"), (3, u "MULTIPLIER"), (0, u "J"), (1, u "PAGE_BITS"), (1, u "FIRST_PAGE_SIZE"), (1, u "FIRST_SLOTS"), (1, u "SEGMENT_SLOTS"), (0, u "MAX_KEYS"), (0, u "MAX_PAGES"), (1, u "FLAG_BITS"), (1, u "FLAGS"), (3, u "finish")] 32

def k2c0 : Code := { maxStack := 5, maxLocals := 4, code := prog_40_method_3_code, exceptionTable := #[], attributes := #[] }
def k2m0 : Method := { name := "finish", desc := "(J)J", sig := { parameters := [.long], returnType := some .long }, accessFlags := 8, code := some k2c0 }
/-- com/example/indberet/indberet/KeyTable -/
def k2 : Class := { plain "com/example/indberet/indberet/KeyTable" (some 0) with
  accessFlags := 48
  interfaces := #[]
  cf := some (fileOf pool2 3 #[.nestMembers #[78, 24]] #[{ accessFlags := 8, nameIndex := 256, descriptorIndex := 233, attributes := #[] }] 48 6 #[] #[{ accessFlags := 26, nameIndex := 50, descriptorIndex := 51, attributes := #[] }, { accessFlags := 26, nameIndex := 237, descriptorIndex := 238, attributes := #[] }, { accessFlags := 26, nameIndex := 240, descriptorIndex := 20, attributes := #[] }, { accessFlags := 26, nameIndex := 242, descriptorIndex := 20, attributes := #[] }, { accessFlags := 26, nameIndex := 186, descriptorIndex := 20, attributes := #[] }, { accessFlags := 26, nameIndex := 244, descriptorIndex := 20, attributes := #[] }, { accessFlags := 26, nameIndex := 246, descriptorIndex := 20, attributes := #[] }, { accessFlags := 26, nameIndex := 147, descriptorIndex := 20, attributes := #[] }, { accessFlags := 26, nameIndex := 247, descriptorIndex := 20, attributes := #[] }, { accessFlags := 26, nameIndex := 248, descriptorIndex := 20, attributes := #[] }, { accessFlags := 26, nameIndex := 250, descriptorIndex := 20, attributes := #[] }, { accessFlags := 26, nameIndex := 252, descriptorIndex := 20, attributes := #[] }, { accessFlags := 18, nameIndex := 35, descriptorIndex := 20, attributes := #[] }, { accessFlags := 2, nameIndex := 15, descriptorIndex := 16, attributes := #[] }, { accessFlags := 2, nameIndex := 76, descriptorIndex := 20, attributes := #[] }, { accessFlags := 2, nameIndex := 19, descriptorIndex := 20, attributes := #[] }, { accessFlags := 2, nameIndex := 23, descriptorIndex := 20, attributes := #[] }, { accessFlags := 2, nameIndex := 31, descriptorIndex := 32, attributes := #[] }, { accessFlags := 2, nameIndex := 177, descriptorIndex := 20, attributes := #[] }, { accessFlags := 2, nameIndex := 62, descriptorIndex := 20, attributes := #[] }])
  fields := #[{ name := "LONGS", type := (.object "java/lang/invoke/VarHandle"), accessFlags := 26, slot := 0, constantValue := 0 }, { name := "MULTIPLIER", type := .long, accessFlags := 26, slot := 1, constantValue := 0 }, { name := "PAGE_BITS", type := .int, accessFlags := 26, slot := 2, constantValue := 0 }, { name := "FIRST_PAGE_SIZE", type := .int, accessFlags := 26, slot := 3, constantValue := 0 }, { name := "LARGEST_PAGE_SIZE", type := .int, accessFlags := 26, slot := 4, constantValue := 0 }, { name := "FIRST_SLOTS", type := .int, accessFlags := 26, slot := 5, constantValue := 0 }, { name := "SEGMENT_SLOTS", type := .int, accessFlags := 26, slot := 6, constantValue := 0 }, { name := "MAX_DEPTH", type := .int, accessFlags := 26, slot := 7, constantValue := 0 }, { name := "MAX_KEYS", type := .int, accessFlags := 26, slot := 8, constantValue := 0 }, { name := "MAX_PAGES", type := .int, accessFlags := 26, slot := 9, constantValue := 0 }, { name := "FLAG_BITS", type := .int, accessFlags := 26, slot := 10, constantValue := 0 }, { name := "FLAGS", type := .int, accessFlags := 26, slot := 11, constantValue := 0 }, { name := "valuesPerKey", type := .int, accessFlags := 18, slot := 0, constantValue := 0 }, { name := "pages", type := (.array (.array .byte)), accessFlags := 2, slot := 1, constantValue := 0 }, { name := "pageCount", type := .int, accessFlags := 2, slot := 2, constantValue := 0 }, { name := "pageEnd", type := .int, accessFlags := 2, slot := 3, constantValue := 0 }, { name := "pageSize", type := .int, accessFlags := 2, slot := 4, constantValue := 0 }, { name := "directory", type := (.array (.object "com/example/indberet/indberet/KeyTable$Segment")), accessFlags := 2, slot := 5, constantValue := 0 }, { name := "directoryBits", type := .int, accessFlags := 2, slot := 6, constantValue := 0 }, { name := "size", type := .int, accessFlags := 2, slot := 7, constantValue := 0 }]
  methods := #[k2m0]
  instanceTypes := #[.int, (.array (.array .byte)), .int, .int, .int, (.array (.object "com/example/indberet/indberet/KeyTable$Segment")), .int, .int]
  staticTypes := #[(.object "java/lang/invoke/VarHandle"), .long, .int, .int, .int, .int, .int, .int, .int, .int, .int, .int]
  resolved := Array.replicate 289 none
  statics := none }

def pool3 : Array CpInfo := pool [(1, u "java/lang/Cloneable"), (0, .class_ 1), (0, u "java/lang/Object"), (0, .class_ 3)] 3

/-- java/lang/Cloneable -/
def k3 : Class := { plain "java/lang/Cloneable" (some 0) with
  accessFlags := 1537
  interfaces := #[]
  cf := some (fileOf pool3 2 #[] #[] 1537 4 #[] #[])
  fields := #[]
  methods := #[]
  instanceTypes := #[]
  staticTypes := #[]
  resolved := Array.replicate 8 none
  statics := none }

def pool4 : Array CpInfo := pool [(1, u "java/io/Serializable"), (0, .class_ 1), (0, u "java/lang/Object"), (0, .class_ 3)] 3

/-- java/io/Serializable -/
def k4 : Class := { plain "java/io/Serializable" (some 0) with
  accessFlags := 1537
  interfaces := #[]
  cf := some (fileOf pool4 2 #[] #[] 1537 4 #[] #[])
  fields := #[]
  methods := #[]
  instanceTypes := #[]
  staticTypes := #[]
  resolved := Array.replicate 8 none
  statics := none }

/-- the primitive byte -/
def k5 : Class := { plain "byte" none with kind := .primitive 'B', accessFlags := 0x411 }
/-- [B -/
def k6 : Class := { plain "[B" (some 0) with kind := .array 5 .byte, interfaces := #[3, 4], accessFlags := 1041 }

/-- the primitive int -/
def k7 : Class := { plain "int" none with kind := .primitive 'I', accessFlags := 0x411 }
/-- [I -/
def k8 : Class := { plain "[I" (some 0) with kind := .array 7 .int, interfaces := #[3, 4], accessFlags := 1041 }

def heap : Heap := #[]
def classes : Array Class := #[k0, k1, k2, k3, k4, k5, k6, k7, k8]
def interned : List (Array UInt16 × Addr) := []
def slotsUsed : Nat := 0
def theMethod : MethodId := ⟨1, 3⟩
def args0 : Array Value := #[.long 5]
def aboutOver (below : List Frame) : State where
  vm := { classes := classes, interned := interned.toArray }
  heap := heap
  slotsUsed := slotsUsed
  threads := #[{ frames := .invoking theMethod args0 :: below }]
def below0 : List Frame := [.native { method := ⟨0, 0⟩, args := #[] }]
def about1 : State := aboutOver below0
def p0 : Program := .bare "" "" ""
def e0 : Env := launch0.env 0 0 0
theorem w_frames : about1.frames = Frame.invoking theMethod args0 :: below0 := rfl
set_option maxRecDepth 65536 in
theorem w_args : argsFit about1.vm theMethod args0 = true := by decide +kernel
set_option maxRecDepth 65536 in
theorem w_heap : heapFits about1 = true := by decide +kernel
set_option maxRecDepth 65536 in
theorem w_runnable : about1.curStatus? = some .runnable := by decide +kernel
set_option maxRecDepth 65536 in
theorem w_alone : about1.alone = true := by decide +kernel
set_option maxRecDepth 65536 in
theorem w_named : about1.methodNamed? x = some theMethod := by decide +kernel
set_option maxRecDepth 65536 in
theorem w_hears : about1.hears theMethod below0 = true := by decide +kernel
set_option maxRecDepth 65536 in
theorem w_ripe : about1.ripe theMethod args0 below0 = true := by decide +kernel
theorem w_running : about1.status = .running := rfl
set_option maxRecDepth 65536 in
theorem w_room : about1.hasRoom e0.platform room_1 = true :=
  launch0.hasRoom_least _ room_1 (by decide +kernel) (by decide +kernel) (by decide +kernel) (by decide +kernel) (by decide +kernel) (by decide +kernel)
theorem allAtoms_all (ts : List Jvm.Cond) (a : Array Jvm.Value) (st : Jvm.State) : (allAtoms ts).before a st = ts.all (fun c => c.before a st) := by
  induction ts with
  | nil => rfl
  | cons c t ih =>
    show (Jvm.Cond.and c (allAtoms t)).before a st = _
    rw [Jvm.Cond.before_and, ih, List.all_cons]
def words1 : List Jvm.Cond := Jvm.Cond.code x code maxLocals ret :: tables_1
/-- a 'code' word, met by the world's own term for the bytes: nothing is compared byte by byte -/
theorem code_word {y : MethodName} {bytes : ByteArray} {mx : Nat} {rt : Option FieldType} {a : Array Value} {s : State} {m : MethodId} {meth : Method} {c : Code} (h1 : s.methodNamed? y = some m) (h2 : s.vm.method? m = some meth) (h3 : meth.code = some c) (h4 : c.code = bytes)
    (h5 : (c.maxLocals == mx && c.exceptionTable.isEmpty && decide (c.maxStack ≤ mostOperands) && decide (meth.sig.returnType = rt) && !meth.locks && decide (parseMethodDescriptor y.desc = some meth.sig)) = true) : (Jvm.Cond.code y bytes mx rt).before a s = true := by
  simp only [Bool.and_eq_true, beq_iff_eq, Bool.not_eq_true', decide_eq_true_eq] at h5
  obtain ⟨⟨⟨⟨⟨g1, g2⟩, g3⟩, g4⟩, g5⟩, g6⟩ := h5
  simp [Cond.before, Cond.holds, Cond.value, h1, h2, h3, h4, g1, g2, g3, g4, g5, g6]
def isCode : Jvm.Cond → Bool
  | .code _ _ _ _ => true
  | _ => false
theorem all_split {L : List Jvm.Cond} {P : Jvm.Cond → Bool} (h1 : L.all (fun c => isCode c || P c) = true) (h2 : ∀ c ∈ L.filter isCode, P c = true) : L.all P = true := by
  refine List.all_eq_true.mpr fun c hc => ?_
  have h := List.all_eq_true.mp h1 c hc
  rcases Bool.eq_false_or_eq_true (isCode c) with hi | hi
  · exact h2 c (List.mem_filter.mpr ⟨hc, hi⟩)
  · simpa [hi] using h
set_option maxRecDepth 65536 in
theorem w_c0 : (Jvm.Cond.code x code maxLocals ret).before args0 about1 = true := code_word (m := ⟨1, 3⟩) (meth := k1m3) (c := k1c3) (by decide +kernel) rfl rfl rfl (by decide +kernel)
set_option maxRecDepth 65536 in
theorem w_c1 : (Jvm.Cond.code ({ cls := "com/example/indberet/indberet/KeyTableFinishPinLaw", name := "inverse", desc := "(J)J" } : Jvm.MethodName) method_2_code (4 : Nat) (Option.some Jvm.ClassFile.FieldType.long)).before args0 about1 = true := code_word (m := ⟨1, 1⟩) (meth := k1m1) (c := k1c1) (by decide +kernel) rfl rfl rfl (by decide +kernel)
set_option maxRecDepth 65536 in
theorem w_c2 : (Jvm.Cond.code ({ cls := "com/example/indberet/indberet/KeyTableFinishPinLaw", name := "unfinish", desc := "(JJ)J" } : Jvm.MethodName) method_3_code (12 : Nat) (Option.some Jvm.ClassFile.FieldType.long)).before args0 about1 = true := code_word (m := ⟨1, 2⟩) (meth := k1m2) (c := k1c2) (by decide +kernel) rfl rfl rfl (by decide +kernel)
set_option maxRecDepth 65536 in
theorem w_c3 : (Jvm.Cond.code ({ cls := "com/example/indberet/indberet/KeyTable", name := "finish", desc := "(J)J" } : Jvm.MethodName) prog_40_method_3_code (4 : Nat) (Option.some Jvm.ClassFile.FieldType.long)).before args0 about1 = true := code_word (m := ⟨2, 0⟩) (meth := k2m0) (c := k2c0) (by decide +kernel) rfl rfl rfl (by decide +kernel)
def codes1 : List Jvm.Cond := [Jvm.Cond.code x code maxLocals ret, Jvm.Cond.code ({ cls := "com/example/indberet/indberet/KeyTableFinishPinLaw", name := "inverse", desc := "(J)J" } : Jvm.MethodName) method_2_code (4 : Nat) (Option.some Jvm.ClassFile.FieldType.long), Jvm.Cond.code ({ cls := "com/example/indberet/indberet/KeyTableFinishPinLaw", name := "unfinish", desc := "(JJ)J" } : Jvm.MethodName) method_3_code (12 : Nat) (Option.some Jvm.ClassFile.FieldType.long), Jvm.Cond.code ({ cls := "com/example/indberet/indberet/KeyTable", name := "finish", desc := "(J)J" } : Jvm.MethodName) prog_40_method_3_code (4 : Nat) (Option.some Jvm.ClassFile.FieldType.long)]
set_option maxRecDepth 65536 in
theorem codes_eq : words1.filter isCode = codes1 := rfl
theorem w_codes : ∀ c ∈ words1.filter isCode, c.before args0 about1 = true := by
  rw [codes_eq]
  intro c hc
  simp only [codes1, List.mem_cons, List.not_mem_nil, or_false] at hc
  rcases hc with rfl | rfl | rfl | rfl
  · exact w_c0
  · exact w_c1
  · exact w_c2
  · exact w_c3
set_option maxRecDepth 65536 in
theorem w_t1 : words1.all (fun c => isCode c || c.before args0 about1) = true := by decide +kernel
theorem w_tables : (allAtoms (Jvm.Cond.code x code maxLocals ret :: tables_1)).before args0 about1 = true := by
  rw [allAtoms_all]
  show words1.all (fun c => c.before args0 about1) = true
  refine all_split ?_ w_codes
  rw [w_t1]
set_option maxRecDepth 65536 in
theorem w_case : (Jvm.Cond.and given_1 narrow_1).before args0 about1 = true := by decide +kernel
theorem w_applies : (headSpec (Jvm.Cond.code x code maxLocals ret :: tables_1) room_1).applies x e0.platform about1 = true :=
  (Spec.applies_iff w_frames).mpr ⟨w_running, w_runnable, w_alone, w_named, w_hears, w_ripe, w_room, w_tables⟩
theorem atStart : AtStart classFile x code maxLocals ret World_1 tables_1 room_1 Calls_1 rest_1 Pre_1 launch0 p0 e0 about1 theMethod args0 below0 :=
  ⟨lists_1, trivial, launch0.admits_env _ _ _, launch0.least_env, fairChoices_fair.cas, fairChoices_fair.clock, w_frames, w_args, w_heap, w_applies, trivial, trivial, w_case⟩
end start1
theorem witness_1 : WitnessClaimed_1 := ⟨start1.p0, start1.e0, start1.about1, start1.theMethod, start1.args0, start1.below0, start1.atStart⟩
end Jvm.Pilot.@@N@@
