import JvmDerived
import JvmDerived.Pilot.@@N@@Statement
import JvmDerived.Pilot.@@N@@Code
set_option linter.unusedVariables false
set_option linter.unusedSimpArgs false

namespace Jvm.RoadKit
open Sem ClassFile Op Lib Jvm.Stand Jvm.Free Jvm.LawKit
section New
variable {p : Program} {l : Launch} {e : Env} {R : Room} {s : State} {m : MethodId} {args : Array Value} {below : List Frame} {meth : Method} {c : Code} {T : State} {locs : List Loc} {cells slots : Nat}
theorem retI (X : Stand p l e R s m args below meth c T locs cells slots) (hx : p.tables.exec = Jvm.exec) {pc : Nat} {Ls : Array Slot} {z : Int32} {rest : List Value} (hret : meth.sig.returnType = some .int) (hd : decode c.code pc = .ok (.ireturn, 1)) {fs : List Frame}
    (hl : ∀ (f : JFrame) (acts : List Action), f.method = m → f.locked = none → f.entered = [] → (doReturn e (T.setTop f) acts (some (.int z))).1 = T.setFrames fs) : Steps p.tables e below (T.setTop (mkF m pc Ls (.int z :: rest))) (T.setFrames fs) := by
  exact retOut X hx hret rfl (Or.inl ⟨rfl, Or.inl rfl, _, rfl⟩) hd hl
end New
end Jvm.RoadKit
namespace Jvm.Pilot.@@N@@
open Jvm Jvm.ClassFile Sem Op Lib Jvm.Free Jvm.Stand Jvm.LawKit Jvm.RoadKit Bundle Jvm.Pilot.@@N@@.Jvm.D
theorem own_selP {s : State} {args a1 a2 : Array Value} {y : MethodName} {n : Nat} (wi : (Jvm.Cond.instantiable y.cls n).before a1 s = true) (wp : (Jvm.Cond.privateMethod y).before a2 s = true) (wm : (Jvm.Cond.instanceMethod y).before args s = true) (hy : y.cls ≠ "java/lang/invoke/MethodHandle" ∧ y.cls ≠ "java/lang/invoke/VarHandle") : (Jvm.Cond.selects y.cls y y).before args s = true := by
  obtain ⟨c, k, h1, h2, -, h4, -⟩ := Cond.instantiable_spec wi
  exact selects_self_of_private h1 h2 ((Bool.or_eq_false_iff.mp h4).1) (Cond.privateMethod_at wp) wm hy
theorem own_named {s : State} {args : Array Value} {y : MethodName} {bytes : ByteArray} {mx : Nat} {rt : Option FieldType} (h : (Jvm.Cond.code y bytes mx rt).before args s = true) : ∃ m meth, s.methodNamed? y = some m ∧ s.vm.method? m = some meth ∧ parseMethodDescriptor y.desc = some meth.sig := by
  cases hn : s.methodNamed? y with
  | none => simp [Cond.before, Cond.holds, Cond.value, hn] at h
  | some m =>
    obtain ⟨meth, c, h1, -, -, -, -, -, -, h2⟩ := Cond.code_spec hn h
    exact ⟨m, meth, rfl, h1, h2⟩
theorem own_same {Z s : State} {a0 args : Array Value} {ref owner name desc : String} (hZ : Z.Warmed39 s.vm) (hmh : ref ≠ "java/lang/invoke/MethodHandle" ∧ ref ≠ "java/lang/invoke/VarHandle") (w : (Jvm.Cond.sameMethod ref owner name desc).before a0 Z = true) : (Jvm.Cond.sameMethod ref owner name desc).before args s = true := by
  have q := Cond.sameMethod_setVm (args := a0) hZ.alike hmh w
  simp only [Cond.before, Cond.holds, Cond.value] at q ⊢
  exact q
theorem own_nsroot {Z : State} {a0 : Array Value} {O K : String} {n : Nat} (w : (Jvm.Cond.noSuperclass O).before a0 Z = true) (wk : (Jvm.Cond.instantiable K n).before a0 Z = true) (hn : O ≠ K) : NS Z O K := by
  obtain ⟨c, k, h1, h2, h3, -, -⟩ := Cond.noSuperclass_spec w
  obtain ⟨t, k', g1, -⟩ := Cond.instantiable_spec wk
  have ne := ids_ne h1 g1 hn
  refine ⟨c, t, h1, g1, fun fuel => ?_⟩
  cases fuel with
  | zero => rfl
  | succ f => simp [Vm.isSubclassAux, ne, h2, h3]
theorem own_nsno {Z : State} {a0 : Array Value} {C S K : String} {j : Nat} (w : (Jvm.Cond.superclass C S).before a0 Z = true) (wk : (Jvm.Cond.instantiable K j).before a0 Z = true) (n : NS Z C K) (hn : C ≠ K) : ∃ c t, Z.vm.findClass C = some c ∧ Z.vm.findClass K = some t ∧ Z.vm.assignable c t = false := by
  obtain ⟨c, t, h0, g0, n3⟩ := n
  obtain ⟨p, k, kp, h1, h2, h3, h4, h5, -, h7⟩ := Cond.superclass_spec h0 w
  obtain ⟨t', k', g1, g2, g5, g7, -⟩ := Cond.instantiable_spec wk
  cases g0.symm.trans g1
  have ne := ids_ne h0 g0 hn
  have gi := (Bool.or_eq_false_iff.mp g7).1
  refine ⟨c, t, h0, g0, ?_⟩
  show Z.vm.assignableAux (255 + 1) c t = false
  simp [Vm.assignableAux, ne, h2, g2, h5, g5, gi, Vm.isSubclass, n3]
theorem own_mir {Z s : State} {args : Array Value} {C : String} {a : Addr} (hZ : Z.Warmed39 s.vm) (M : Mir Z C a) : (Term.mirror C).eval args s none [] s = some (.ref a) := by
  obtain ⟨c, k, h1, h2, h3, -⟩ := M
  obtain ⟨k', q1, q2⟩ := hZ.alike.2.2 _ _ h2
  have q3 : k'.mirror = some a := by rw [q2]; exact h3
  have q4 : s.vm.findClass C = some c := by rw [hZ.alike.findClass]; exact h1
  simp [Term.eval, q4, q1, q3]
theorem own_mvNest {Z s : State} {a0 args : Array Value} {own host : String} {index : Nat} {y : MethodName} (hZ : Z.Warmed39 s.vm) (w : (Jvm.Cond.methodLinkNest own index y host).before a0 Z = true) : (Jvm.Cond.methodLinkNest own index y host).before args s = true := (Cond.methodLinkNest_wide hZ w :)
def own_Ars (Z : State) (h : Heap) (a : Addr) (ty : FieldType) (n : Int32) : Prop := ∃ c : Cell, Arr Z h a c ty ∧ c.slots.size = n.toNatClampNeg ∧ ¬ n < 0
theorem own_Ars.lt {Z : State} {h : Heap} {a : Addr} {ty : FieldType} {n : Int32} (F : own_Ars Z h a ty n) : a < h.size := by obtain ⟨c, A, -⟩ := F; exact A.lt
theorem own_Ars.of {Z : State} {h : Heap} {a : Addr} {k : ClassId} {ty : FieldType} {n : Int32} {vs : List Value} {d : Value} (F : Arv Z h a k ty n vs d) : own_Ars Z h a ty n := by obtain ⟨c, A, -, S, N, -⟩ := F; exact ⟨c, A, S, N⟩
theorem own_Ars.ext {Z : State} {h h' : Heap} {a : Addr} {ty : FieldType} {n : Int32} (F : own_Ars Z h a ty n) (E : Ext h h') : own_Ars Z h' a ty n := by obtain ⟨c, A, r⟩ := F; exact ⟨c, A.ext E, r⟩
theorem own_arr {Z : State} {c c' : Cell} {ty : FieldType} (h : Z.isArrayOf c ty ∧ c.vm ≠ .unknown) (e1 : c'.cls = c.cls) (e2 : c'.vm = c.vm) : Z.isArrayOf c' ty ∧ c'.vm ≠ .unknown := by
  obtain ⟨⟨h1, h2⟩, h3⟩ := h
  exact ⟨⟨by rw [e2]; exact h1, by rw [e1]; exact h2⟩, by rw [e2]; exact h3⟩
theorem own_Ars.wr {Z : State} {h h' : Heap} {a b : Addr} {sl : Nat} {v : Value} {ty : FieldType} {n : Int32} (F : own_Ars Z h a ty n) (W : Wr h h' b sl v) : own_Ars Z h' a ty n := by
  obtain ⟨c, A, S, N⟩ := F
  obtain ⟨c', e1, e2, e3, e4, -⟩ := wr_at W A.1
  exact ⟨c', ⟨e1, own_arr A.2 e2 e3⟩, by rw [e4]; exact S, N⟩
theorem own_Ars.keep {Z : State} {h h' : Heap} {a : Addr} {ws : List Addr} {ty : FieldType} {n : Int32} (F : own_Ars Z h a ty n) (K : Keep h h' ws) : own_Ars Z h' a ty n := by
  obtain ⟨c, A, S, N⟩ := F
  obtain ⟨c', e1, e2, e3, e4⟩ := K.2.2 _ _ A.1
  exact ⟨c', ⟨e1, own_arr A.2 e2 e3⟩, by rw [e4]; exact S, N⟩
def own_w (w : Int32) : Prop := w = 1 ∨ w = 2 ∨ w = 3 ∨ w = 4
def own_c (w c : Int32) : Prop := (c = 0 ∨ c = 1 ∨ c = 2 ∨ c = 3) ∧ c < w
theorem own_n0 {w : Int32} (h : own_w w) : ((((w.toInt64) * (16 : Int64)).toInt32).toInt64) = ((w.toInt64) * (16 : Int64)) := by rcases h with rfl | rfl | rfl | rfl <;> decide
theorem own_n1 {w : Int32} (h : own_w w) : ¬ (((w.toInt64) * (16 : Int64)).toInt32) < 0 := by rcases h with rfl | rfl | rfl | rfl <;> decide
theorem own_n2 {w : Int32} (h : own_w w) : (((w.toInt64) * (16 : Int64)).toInt32).toNatClampNeg ≤ 64 := by rcases h with rfl | rfl | rfl | rfl <;> decide
theorem own_w0 {w : Int32} (h : own_w w) : ¬ w < 0 := by rcases h with rfl | rfl | rfl | rfl <;> decide
theorem own_w4 {w : Int32} (h : own_w w) : (0 : Int32).toNatClampNeg + w.toNatClampNeg ≤ (4 : Int32).toNatClampNeg := by rcases h with rfl | rfl | rfl | rfl <;> decide
def own_upd (vd xs : List Value) (off w : Int32) : List Value := vd.take off.toNatClampNeg ++ ((List.range w.toNatClampNeg).map fun i => xs.getD ((0 : Int32).toNatClampNeg + i) (.int (0 : Int32))) ++ vd.drop (off.toNatClampNeg + w.toNatClampNeg)
def own_val (a b c d r k : Int32) : Int32 := (if r = 0 then [a, b, c, d] else if r = 1 then [c, d, a, b] else [(a ^^^ (-1 : Int32)), (b ^^^ (-1 : Int32)), (c ^^^ (-1 : Int32)), (d ^^^ (-1 : Int32))]).getD k.toNatClampNeg 0
theorem own_map (xs : List Int32) (i : Nat) : (xs.map Value.int).getD i (.int (0 : Int32)) = .int (xs.getD i 0) := by
  simp only [List.getD_eq_getElem?_getD, List.getElem?_map]
  cases xs[i]? <;> rfl
theorem own_v0 (a b c d k : Int32) : own_val a b c d 0 k = [a, b, c, d].getD k.toNatClampNeg 0 := by unfold own_val; rw [if_pos rfl]
theorem own_v1 (a b c d k : Int32) : own_val a b c d 1 k = [c, d, a, b].getD k.toNatClampNeg 0 := by unfold own_val; rw [if_neg (by decide), if_pos rfl]
theorem own_v2 (a b c d k : Int32) : own_val a b c d 2 k = [(a ^^^ (-1 : Int32)), (b ^^^ (-1 : Int32)), (c ^^^ (-1 : Int32)), (d ^^^ (-1 : Int32))].getD k.toNatClampNeg 0 := by unfold own_val; rw [if_neg (by decide), if_neg (by decide)]
theorem own_r3 {r : Int32} (h : r = 0 ∨ r = 1 ∨ r = 2) : ¬ r < 0 ∧ r < (3 : Int32) := by rcases h with rfl | rfl | rfl <;> decide
theorem own_c4 {w c : Int32} (h : own_w w) (hc : own_c w c) : ¬ c < 0 ∧ c < (4 : Int32) := by rcases hc.1 with rfl | rfl | rfl | rfl <;> decide
theorem own_s5 (p : Int32) : ¬ (((1 : Int32) + (p &&& (3 : Int32))) = (0 : Int32)) := by
  have e := c_mask p 3 2 (by decide) (by decide)
  have e2 := c_iadd 1 (p &&& (3 : Int32))
  have e4 := rng32 ((1 : Int32) + (p &&& (3 : Int32)))
  have e3 : (1 : Int32).toInt = 1 := rfl
  intro h
  have : ((1 : Int32) + (p &&& (3 : Int32))).toInt = 0 := by rw [h]; rfl
  omega
theorem own_hw (p : Int32) : own_w ((1 : Int32) + (p &&& (3 : Int32))) := by
  have e := c_mask p 3 2 (by decide) (by decide)
  have e2 := c_iadd 1 (p &&& (3 : Int32))
  have e4 := rng32 ((1 : Int32) + (p &&& (3 : Int32)))
  have e3 : (1 : Int32).toInt = 1 := rfl
  unfold own_w
  simp only [← Int32.toInt_inj, Int32.reduceToInt]; omega
theorem own_hr (p : Int32) : ((((p.toUInt32 >>> ((2 : Int32) &&& 31).toUInt32).toInt32) % (3 : Int32)) = 0 ∨ (((p.toUInt32 >>> ((2 : Int32) &&& 31).toUInt32).toInt32) % (3 : Int32)) = 1 ∨ (((p.toUInt32 >>> ((2 : Int32) &&& 31).toUInt32).toInt32) % (3 : Int32)) = 2) := by
  have e := c_iushr p 2 2 (by decide) (by decide)
  have e1 : 0 ≤ ((p.toUInt32 >>> ((2 : Int32) &&& 31).toUInt32).toInt32).toInt := by rw [e]; omega
  have e2 := (c_irem ((p.toUInt32 >>> ((2 : Int32) &&& 31).toUInt32).toInt32) 3 3 (by decide)).1 e1
  simp only [← Int32.toInt_inj, Int32.reduceToInt]; omega
theorem own_hc (p : Int32) : own_c ((1 : Int32) + (p &&& (3 : Int32))) (((p.toUInt32 >>> ((8 : Int32) &&& 31).toUInt32).toInt32) % ((1 : Int32) + (p &&& (3 : Int32)))) := by
  have e := c_iushr p 8 8 (by decide) (by decide)
  have e1 : 0 ≤ ((p.toUInt32 >>> ((8 : Int32) &&& 31).toUInt32).toInt32).toInt := by rw [e]; omega
  have hw := own_hw p
  generalize ((p.toUInt32 >>> ((8 : Int32) &&& 31).toUInt32).toInt32) = x at *
  generalize ((1 : Int32) + (p &&& (3 : Int32))) = w at *
  have hw1 : 0 < w.toInt ∧ w.toInt ≤ 4 := by rcases hw with rfl | rfl | rfl | rfl <;> decide
  obtain ⟨a1, a2, -⟩ := (c_iremV x w).1 e1 hw1.1
  refine ⟨?_, by rw [Int32.lt_iff_toInt_lt]; exact a2⟩
  simp only [← Int32.toInt_inj, Int32.reduceToInt]; omega
theorem own_ulen (vd xs : List Value) (off w : Int32) (h : off.toNatClampNeg + w.toNatClampNeg ≤ vd.length) : (own_upd vd xs off w).length = vd.length := by
  simp only [own_upd, List.length_append, List.length_take, List.length_map, List.length_range, List.length_drop]; omega
theorem own_ix {w r c : Int32} (hw : own_w w) (hr : r = 0 ∨ r = 1 ∨ r = 2) (hc : own_c w c) : (¬ (((r * w) + c) < (0 : Int32))) ∧ ((r * w) + c) < (((w.toInt64) * (16 : Int64)).toInt32) := by
  obtain ⟨hc, hl⟩ := hc
  rcases hw with rfl | rfl | rfl | rfl <;> rcases hr with rfl | rfl | rfl <;> rcases hc with rfl | rfl | rfl | rfl <;> revert hl <;> decide

theorem own_final (a b c d : Int32) {w r k : Int32} (hw : own_w w) (hr : r = 0 ∨ r = 1 ∨ r = 2) (hc : own_c w k) : (own_upd (own_upd (own_upd (List.replicate 12 (.int (0 : Int32))) [(.int a), (.int b), (.int c), (.int d)] ((((0 : Int32).toInt64) * (w.toInt64)).toInt32) w) [(.int c), (.int d), (.int a), (.int b)] ((((1 : Int32).toInt64) * (w.toInt64)).toInt32) w) [(.int (a ^^^ (-1 : Int32))), (.int (b ^^^ (-1 : Int32))), (.int (c ^^^ (-1 : Int32))), (.int (d ^^^ (-1 : Int32)))] ((((2 : Int32).toInt64) * (w.toInt64)).toInt32) w).getD ((r * w) + k).toNatClampNeg (.int (0 : Int32)) = (.int (own_val a b c d r k)) := by
  obtain ⟨hc, hl⟩ := hc
  rcases hw with rfl | rfl | rfl | rfl <;> rcases hr with rfl | rfl | rfl <;> rcases hc with rfl | rfl | rfl | rfl <;> first | rfl | (exact absurd hl (by decide))
theorem d4_0 : decode jdk_29_method_28_code 0 = .ok (.iload_n 0, 1) := by decide +kernel
theorem d4_1 : decode jdk_29_method_28_code 1 = .ok (.i2l, 1) := by decide +kernel
theorem d4_2 : decode jdk_29_method_28_code 2 = .ok (.iload_n 1, 1) := by decide +kernel
theorem d4_3 : decode jdk_29_method_28_code 3 = .ok (.i2l, 1) := by decide +kernel
theorem d4_4 : decode jdk_29_method_28_code 4 = .ok (.lmul, 1) := by decide +kernel
theorem d4_5 : decode jdk_29_method_28_code 5 = .ok (.lstore_n 2, 1) := by decide +kernel
theorem d4_6 : decode jdk_29_method_28_code 6 = .ok (.lload_n 2, 1) := by decide +kernel
theorem d4_7 : decode jdk_29_method_28_code 7 = .ok (.l2i, 1) := by decide +kernel
theorem d4_8 : decode jdk_29_method_28_code 8 = .ok (.i2l, 1) := by decide +kernel
theorem d4_9 : decode jdk_29_method_28_code 9 = .ok (.lload_n 2, 1) := by decide +kernel
theorem d4_10 : decode jdk_29_method_28_code 10 = .ok (.lcmp, 1) := by decide +kernel
theorem d4_11 : decode jdk_29_method_28_code 11 = .ok (.ifCond .eq 13, 3) := by decide +kernel
theorem d4_24 : decode jdk_29_method_28_code 24 = .ok (.lload_n 2, 1) := by decide +kernel
theorem d4_25 : decode jdk_29_method_28_code 25 = .ok (.l2i, 1) := by decide +kernel
theorem d4_26 : decode jdk_29_method_28_code 26 = .ok (.ireturn, 1) := by decide +kernel
theorem ef_rm_me (m : MethodId) (x0 : Int32) (x1 : Int32) : entryFrame m #[(.int x0), (.int x1)] 4 = mkF m 0 #[.val (.int x0), .val (.int x1), .unset, .unset] [] := by first | (simp [entryFrame, mkF, argsToLocals, Value.category]; done) | rfl
def Q_rm_me (Z : State) (p1 : Int32) (h0 : Heap) (n0 : Nat) (v : Option Value) (h : Heap) (L : List Loc) : Prop := v = some (.int (((p1.toInt64) * (16 : Int64)).toInt32)) ∧ Fr n0 L ∧ h = h0
set_option maxRecDepth 65536 in
set_option maxHeartbeats 40000000 in
theorem rm_me (l : Launch) (Z : State) (a0 : Array Value) (hw : ∀ d ∈ tables_1, d.before a0 Z = true) (ws : List Jvm.Cond) (p1 : Int32) (h0 : Heap) (n0 : Nat) (Z0 : n0 ≤ h0.size) (hm_ : ((((p1.toInt64) * (16 : Int64)).toInt32).toInt64) = ((p1.toInt64) * (16 : Int64))) :
    MetFree l (⟨"java/lang/Math", "multiplyExact", "(II)I"⟩ : MethodName) (head1 (Jvm.Cond.code (⟨"java/lang/Math", "multiplyExact", "(II)I"⟩ : MethodName) jdk_29_method_28_code 4 (some .int) :: ws) ({ frames := 0, cells := 0, slots := 0, locals := 0 } : Room)) (fun a U => a = #[(.int p1), (.int (16 : Int32))] ∧ Z.Warmed39 U.vm ∧ U.heap = h0) (fun _ _ _ _ _ => True) (fun _ U o U' => ∃ v L, o = .returned v ∧ Q_rm_me Z p1 h0 n0 v U'.heap L ∧ FrameEnd U o U' L ({ frames := 0, cells := 0, slots := 0, locals := 0 } : Room).cells ({ frames := 0, cells := 0, slots := 0, locals := 0 } : Room).slots) := by
  refine MetFree.of_bodySF (Jvm.Free.JP.mathPlain rfl (by decide +kernel)) hisR ?_
  intro p e s m args below meth c s₁ Bd hml0 hP hK
  obtain ⟨rfl, hZ, hh⟩ := hP
  have hx := Bd.exec
  have hby := Bd.bytes
  have hml : c.maxLocals = 4 := hml0
  have hown : s.vm.findClass "java/lang/Math" = some m.cls := findClass_of_methodNamed Bd.named
  have hnm := (name_of_methodNamed Bd.named Bd.method).1
  have X0 : Stand p l e ({ frames := 0, cells := 0, slots := 0, locals := 0 } : Room) s m #[(.int p1), (.int (16 : Int32))] below meth c s₁ [] 0 0 := Stand.of_body Bd
  have e0 : s₁.heap = h0 := by rw [← hh, Bd.state]; rfl
  have N0 := Fr.nil n0
  have pre0 : ∀ t, Steps p.tables e below (s₁.setTop (mkF m 0 #[.val (.int p1), .val (.int (16 : Int32)), .unset, .unset] [])) t → Steps p.tables e below (s₁.setTop (entryFrame m #[(.int p1), (.int (16 : Int32))] 4)) t := fun t k => castTop (ef_rm_me m p1 (16 : Int32)) k
  obtain ⟨fs, hr, hrun, hended, hW, hsame⟩ := X0.leave (v := some (.int (((p1.toInt64) * (16 : Int64)).toInt32))) (fun h => by rw [Bd.returns] at h; cases h)
  refine ⟨_, _, pre0 _ ?_, hrun, hended, _, _, rfl, ?_, ⟨_, rfl⟩, hW, hsame.mono (by decide) (by decide)⟩
  · show Steps p.tables e below (s₁.setTop (mkF m 0 #[.val (.int p1), .val (.int (16 : Int32)), .unset, .unset] [])) _
    refine XS.iloadN X0.here hx rfl (hb hby d4_0) rfl ?_
    show Steps p.tables e below (s₁.setTop (mkF m 1 #[.val (.int p1), .val (.int (16 : Int32)), .unset, .unset] [(.int p1)])) _
    refine XS.i2l X0.here hx rfl (hb hby d4_1) rfl ?_
    show Steps p.tables e below (s₁.setTop (mkF m 2 #[.val (.int p1), .val (.int (16 : Int32)), .unset, .unset] [(.long (p1.toInt64))])) _
    refine XS.iloadN X0.here hx rfl (hb hby d4_2) rfl ?_
    show Steps p.tables e below (s₁.setTop (mkF m 3 #[.val (.int p1), .val (.int (16 : Int32)), .unset, .unset] [(.int (16 : Int32)), (.long (p1.toInt64))])) _
    refine XS.i2l X0.here hx rfl (hb hby d4_3) rfl ?_
    show Steps p.tables e below (s₁.setTop (mkF m 4 #[.val (.int p1), .val (.int (16 : Int32)), .unset, .unset] [(.long (16 : Int64)), (.long (p1.toInt64))])) _
    refine XS.lmul X0.here hx rfl (hb hby d4_4) rfl ?_
    show Steps p.tables e below (s₁.setTop (mkF m 5 #[.val (.int p1), .val (.int (16 : Int32)), .unset, .unset] [(.long ((p1.toInt64) * (16 : Int64)))])) _
    refine XS.lstoreN X0.here hx rfl (hb hby d4_5) rfl (l' := #[.val (.int p1), .val (.int (16 : Int32)), .val (.long ((p1.toInt64) * (16 : Int64))), .second]) rfl ?_
    show Steps p.tables e below (s₁.setTop (mkF m 6 #[.val (.int p1), .val (.int (16 : Int32)), .val (.long ((p1.toInt64) * (16 : Int64))), .second] [])) _
    refine XS.lloadN X0.here hx rfl (hb hby d4_6) rfl ?_
    show Steps p.tables e below (s₁.setTop (mkF m 7 #[.val (.int p1), .val (.int (16 : Int32)), .val (.long ((p1.toInt64) * (16 : Int64))), .second] [(.long ((p1.toInt64) * (16 : Int64)))])) _
    refine XS.l2i X0.here hx rfl (hb hby d4_7) rfl ?_
    show Steps p.tables e below (s₁.setTop (mkF m 8 #[.val (.int p1), .val (.int (16 : Int32)), .val (.long ((p1.toInt64) * (16 : Int64))), .second] [(.int (((p1.toInt64) * (16 : Int64)).toInt32))])) _
    refine XS.i2l X0.here hx rfl (hb hby d4_8) rfl ?_
    show Steps p.tables e below (s₁.setTop (mkF m 9 #[.val (.int p1), .val (.int (16 : Int32)), .val (.long ((p1.toInt64) * (16 : Int64))), .second] [(.long ((((p1.toInt64) * (16 : Int64)).toInt32).toInt64))])) _
    refine XS.lloadN X0.here hx rfl (hb hby d4_9) rfl ?_
    show Steps p.tables e below (s₁.setTop (mkF m 10 #[.val (.int p1), .val (.int (16 : Int32)), .val (.long ((p1.toInt64) * (16 : Int64))), .second] [(.long ((p1.toInt64) * (16 : Int64))), (.long ((((p1.toInt64) * (16 : Int64)).toInt32).toInt64))])) _
    refine XS.lcmp X0.here hx rfl (hb hby d4_10) rfl ?_
    show Steps p.tables e below (s₁.setTop (mkF m 11 #[.val (.int p1), .val (.int (16 : Int32)), .val (.long ((p1.toInt64) * (16 : Int64))), .second] [(.int (lcmpW ((((p1.toInt64) * (16 : Int64)).toInt32).toInt64) ((p1.toInt64) * (16 : Int64))))])) _
    refine XS.ifYes X0.here hx rfl (pc0 := 11) (pc' := 24) rfl (hb hby d4_11) rfl ((if0 _ _).trans (teq ((lw_eq _ _).mpr hm_)).1) (by decide) (by decide) ?_
    show Steps p.tables e below (s₁.setTop (mkF m 24 #[.val (.int p1), .val (.int (16 : Int32)), .val (.long ((p1.toInt64) * (16 : Int64))), .second] [])) _
    refine XS.lloadN X0.here hx rfl (hb hby d4_24) rfl ?_
    show Steps p.tables e below (s₁.setTop (mkF m 25 #[.val (.int p1), .val (.int (16 : Int32)), .val (.long ((p1.toInt64) * (16 : Int64))), .second] [(.long ((p1.toInt64) * (16 : Int64)))])) _
    refine XS.l2i X0.here hx rfl (hb hby d4_25) rfl ?_
    show Steps p.tables e below (s₁.setTop (mkF m 26 #[.val (.int p1), .val (.int (16 : Int32)), .val (.long ((p1.toInt64) * (16 : Int64))), .second] [(.int (((p1.toInt64) * (16 : Int64)).toInt32))])) _
    exact retI X0 hx Bd.returns (hb hby d4_26) hr
  · show Q_rm_me Z p1 h0 n0 _ s₁.heap _
    rw [e0]
    exact ⟨rfl, N0, rfl⟩
theorem d2_0 : decode prog_57_method_2_code 0 = .ok (.aload_n 0, 1) := by decide +kernel
theorem d2_1 : decode prog_57_method_2_code 1 = .ok (.invokespecial 9, 3) := by decide +kernel
theorem d2_4 : decode prog_57_method_2_code 4 = .ok (.aload_n 0, 1) := by decide +kernel
theorem d2_5 : decode prog_57_method_2_code 5 = .ok (.iload_n 1, 1) := by decide +kernel
theorem d2_6 : decode prog_57_method_2_code 6 = .ok (.putfield 14, 3) := by decide +kernel
theorem d2_9 : decode prog_57_method_2_code 9 = .ok (.aload_n 0, 1) := by decide +kernel
theorem d2_10 : decode prog_57_method_2_code 10 = .ok (.iload_n 1, 1) := by decide +kernel
theorem d2_11 : decode prog_57_method_2_code 11 = .ok (.iload_n 2, 1) := by decide +kernel
theorem d2_12 : decode prog_57_method_2_code 12 = .ok (.invokestatic 18, 3) := by decide +kernel
theorem pd__40II_41I : parseMethodDescriptor "(II)I" = some ⟨[.int, .int], some .int⟩ := by decide +kernel
theorem d2_15 : decode prog_57_method_2_code 15 = .ok (.newarray .int, 2) := by decide +kernel
theorem d2_17 : decode prog_57_method_2_code 17 = .ok (.putfield 24, 3) := by decide +kernel
theorem d2_20 : decode prog_57_method_2_code 20 = .ok (.return_, 1) := by decide +kernel
theorem pn_com_example_entropic_join_entropicjoin_Rows : plainName "com/example/entropic_join/entropicjoin/Rows" = true := by first | (simp [plainName, overriddenIn]; done) | decide +kernel
theorem ef_rm_i2 (m : MethodId) (x0 : Addr) (x1 : Int32) (x2 : Int32) : entryFrame m #[(.ref x0), (.int x1), (.int x2)] 3 = mkF m 0 #[.val (.ref x0), .val (.int x1), .val (.int x2)] [] := by first | (simp [entryFrame, mkF, argsToLocals, Value.category]; done) | rfl
def Q_rm_i2 (Z : State) (a1 : Addr) (p2 : Int32) (v1 : Value) (v2 : Value) (h0 : Heap) (n0 : Nat) (v : Option Value) (h : Heap) (L : List Loc) : Prop := ∃ dt : Addr, ∃ kd : ClassId, v = none ∧ Fr n0 L ∧ Keep h0 h [a1] ∧ (h0.size ≤ dt) ∧ (Fld Z h a1 "com/example/entropic_join/entropicjoin/Rows" "width" "I" (.int p2)) ∧ (Fld Z h a1 "com/example/entropic_join/entropicjoin/Rows" "data" "[I" (.ref dt)) ∧ (Fld Z h a1 "com/example/entropic_join/entropicjoin/Rows" "count" "I" (.int (0 : Int32))) ∧ (Arv Z h dt kd .int (((p2.toInt64) * (16 : Int64)).toInt32) (List.replicate 12 (.int (0 : Int32))) (.int (0 : Int32)))
set_option maxRecDepth 65536 in
set_option maxHeartbeats 40000000 in
theorem rm_i2 (l : Launch) (Z : State) (a0 : Array Value) (hw : ∀ d ∈ tables_1, d.before a0 Z = true) (ws : List Jvm.Cond) (a1 : Addr) (p2 : Int32) (v1 : Value) (v2 : Value) (h0 : Heap) (n0 : Nat) (Z0 : n0 ≤ h0.size) (pr0 : Exa Z h0 a1 "com/example/entropic_join/entropicjoin/Rows") (pr1 : Fld Z h0 a1 "com/example/entropic_join/entropicjoin/Rows" "width" "I" v1) (pr2 : Fld Z h0 a1 "com/example/entropic_join/entropicjoin/Rows" "data" "[I" v2) (pr3 : Fld Z h0 a1 "com/example/entropic_join/entropicjoin/Rows" "count" "I" (.int (0 : Int32))) (pr4 : n0 ≤ a1) (hq : own_w p2) :
    MetFree l (⟨"com/example/entropic_join/entropicjoin/Rows", "<init>", "(II)V"⟩ : MethodName) (head1 (Jvm.Cond.code (⟨"com/example/entropic_join/entropicjoin/Rows", "<init>", "(II)V"⟩ : MethodName) prog_57_method_2_code 3 none :: ws) ({ frames := 1, cells := 1, slots := 64, locals := 16 } : Room)) (fun a U => a = #[(.ref a1), (.int p2), (.int (16 : Int32))] ∧ Z.Warmed39 U.vm ∧ U.heap = h0) (fun _ _ _ _ _ => True) (fun _ U o U' => ∃ v L, o = .returned v ∧ Q_rm_i2 Z a1 p2 v1 v2 h0 n0 v U'.heap L ∧ FrameEnd U o U' L ({ frames := 1, cells := 1, slots := 64, locals := 16 } : Room).cells ({ frames := 1, cells := 1, slots := 64, locals := 16 } : Room).slots) := by
  refine MetFree.of_bodySF (plainFor_of_name pn_com_example_entropic_join_entropicjoin_Rows) hisR ?_
  intro p e s m args below meth c s₁ Bd hml0 hP hK
  obtain ⟨rfl, hZ, hh⟩ := hP
  have hx := Bd.exec
  have hby := Bd.bytes
  have hml : c.maxLocals = 3 := hml0
  have hown : s.vm.findClass "com/example/entropic_join/entropicjoin/Rows" = some m.cls := findClass_of_methodNamed Bd.named
  have hnm := (name_of_methodNamed Bd.named Bd.method).1
  have X0 : Stand p l e ({ frames := 1, cells := 1, slots := 64, locals := 16 } : Room) s m #[(.ref a1), (.int p2), (.int (16 : Int32))] below meth c s₁ [] 0 0 := Stand.of_body Bd
  have e0 : s₁.heap = h0 := by rw [← hh, Bd.state]; rfl
  have N0 := Fr.nil n0
  have pre0 : ∀ t, Steps p.tables e below (s₁.setTop (mkF m 0 #[.val (.ref a1), .val (.int p2), .val (.int (16 : Int32))] [])) t → Steps p.tables e below (s₁.setTop (entryFrame m #[(.ref a1), (.int p2), (.int (16 : Int32))] 3)) t := fun t k => castTop (ef_rm_i2 m a1 p2 (16 : Int32)) k
  obtain ⟨T1, X1, e1, st1⟩ := initO X0 hx hZ hown (hw _ (List.mem_of_getElem? (i := 13) rfl)) (hw _ (List.mem_of_getElem? (i := 14) rfl)) (hw _ (List.mem_of_getElem? (i := 15) rfl)) e0 (g := (mkF m 1 #[.val (.ref a1), .val (.int p2), .val (.int (16 : Int32))] [(.ref a1)])) rfl (by rw [hml]; rfl) rfl (hb hby d2_1) (by decide) (W := 0) (by show 2 * 0 + _ ≤ _; exact Nat.le_of_eq rfl) (by decide)
  obtain ⟨T2, h2, X2, e2, W2, st2⟩ := putF X1 hx hZ hown (host := "") (Or.inl (hw _ (List.mem_of_getElem? (i := 16) rfl))) Via.refl e1 pr1 pr0 (Or.inr ⟨(hw _ (List.mem_of_getElem? (i := 17) rfl)), rfl, hnm⟩) (hw _ (List.mem_of_getElem? (i := 5) rfl)) (ty := .int) (by decide) rfl rfl (g := (mkF m 6 #[.val (.ref a1), .val (.int p2), .val (.int (16 : Int32))] [(.int p2), (.ref a1)])) rfl rfl (hb hby d2_6)
  have N2 := Fr.snoc X2 N0 pr4
  have f2 : Fld Z h2 a1 "com/example/entropic_join/entropicjoin/Rows" "width" "I" (.int p2) := pr1.same W2
  have K3 : Keep h0 h2 [a1] := (Keep.refl h0 [a1]).wr W2 (Or.inl (List.mem_of_getElem? (i := 0) rfl))
  obtain ⟨_, _, ⟨T4, L4, k4, n4⟩, -, X4, ⟨Lc4, hQ4, l4, y4, z4⟩, st4⟩ := Jvm.LawKit.callS X2 hx (y := (⟨"java/lang/Math", "multiplyExact", "(II)I"⟩ : MethodName)) hown (mvT hZ (hw _ (List.mem_of_getElem? (i := 18) rfl))) (mvT hZ (hw _ (List.mem_of_getElem? (i := 19) rfl))) (mvT hZ (hw _ (List.mem_of_getElem? (i := 20) rfl))) (mvT hZ (hw _ (List.mem_of_getElem? (i := 21) rfl))) (by decide) (backOf (W := 1) (rm_me l Z a0 hw [] p2 h2 n0 (Nat.le_trans Z0 K3.1) (own_n0 hq)) hZ (hw _ (List.mem_of_getElem? (i := 21) rfl)) (hw _ (List.mem_of_getElem? (i := 20) rfl)) (by decide) (by decide)) (g := (mkF m 12 #[.val (.ref a1), .val (.int p2), .val (.int (16 : Int32))] [(.int (16 : Int32)), (.int p2), (.ref a1)])) rfl (by rw [hml]; rfl) (argsL := [(.int p2), (.int (16 : Int32))]) (rest := [(.ref a1)]) (lenOf pd__40II_41I rfl) rfl (by show 2 * 0 + _ ≤ _; exact Nat.le_of_eq rfl) (hb hby d2_12) (fun _ _ => ⟨rfl, e2, (by decide : 0 + 0 ≤ _), (by decide : 0 + 0 ≤ _)⟩)
  dsimp only [Pt.U, Pt.locs, Pt.cells, Pt.slots] at X4 l4 y4 z4 st4 hQ4
  subst l4 y4 z4
  obtain ⟨rfl, Nq4, e4⟩ := hQ4
  have N4 := Fr.app N2 Nq4
  obtain ⟨T5, h5, k5, X5, e5, E5, A5, st5⟩ := newP X4 hx hZ (hw _ (List.mem_of_getElem? (i := 0) rfl)) e4 (g := (mkF m 15 #[.val (.ref a1), .val (.int p2), .val (.int (16 : Int32))] [(.int (((p2.toInt64) * (16 : Int64)).toInt32)), (.ref a1)])) rfl (hb hby d2_15) rfl (own_n1 hq) (cap := 64) (own_n2 hq) (by decide) (by decide) (by decide)
  obtain ⟨b5, g5⟩ : ∃ z, z = h2.size := ⟨_, rfl⟩
  rw [← g5] at A5 st5
  have gnb5 : n0 ≤ b5 := Nat.le_trans (Nat.le_trans Z0 K3.1) (Nat.le_of_eq g5.symm)
  have gzb5 : h0.size ≤ b5 := Nat.le_trans K3.1 (Nat.le_of_eq g5.symm)
  have K6 : Keep h0 h5 [a1] := K3.ext E5
  have f5 : Arv Z h5 b5 k5 .int (((p2.toInt64) * (16 : Int64)).toInt32) (List.replicate 12 (.int (0 : Int32))) (.int (0 : Int32)) := (Arv.new A5 (own_n1 hq)).pad (pad_rep [] (.int (0 : Int32)) 12)
  have f7 : Fld Z h5 a1 "com/example/entropic_join/entropicjoin/Rows" "data" "[I" v2 := ((pr2.other W2 (Or.inr (slot_ne (Or.inl (hw _ (List.mem_of_getElem? (i := 23) rfl))) (Or.inr (hw _ (List.mem_of_getElem? (i := 17) rfl))) (by decide) (t := (.array .int)) (t' := .int) (by decide) (by decide)))).ext E5)
  have f8 : Exa Z h5 a1 "com/example/entropic_join/entropicjoin/Rows" := ((pr0.wr W2).ext E5)
  obtain ⟨T9, h9, X9, e9, W9, st9⟩ := putF X5 hx hZ hown (host := "") (Or.inl (hw _ (List.mem_of_getElem? (i := 22) rfl))) Via.refl e5 f7 f8 (Or.inl (hw _ (List.mem_of_getElem? (i := 23) rfl))) (hw _ (List.mem_of_getElem? (i := 5) rfl)) (ty := (.array .int)) (by decide) rfl rfl (g := (mkF m 17 #[.val (.ref a1), .val (.int p2), .val (.int (16 : Int32))] [(.ref b5), (.ref a1)])) rfl rfl (hb hby d2_17)
  have N9 := Fr.snoc X9 N4 pr4
  have f9 : Fld Z h9 a1 "com/example/entropic_join/entropicjoin/Rows" "data" "[I" (.ref b5) := f7.same W9
  have K10 : Keep h0 h9 [a1] := K6.wr W9 (Or.inl (List.mem_of_getElem? (i := 0) rfl))
  have f11 : Fld Z h9 a1 "com/example/entropic_join/entropicjoin/Rows" "width" "I" (.int p2) := ((f2.ext E5).other W9 (Or.inr (slot_ne (Or.inr (hw _ (List.mem_of_getElem? (i := 17) rfl))) (Or.inl (hw _ (List.mem_of_getElem? (i := 23) rfl))) (by decide) (t := .int) (t' := (.array .int)) (by decide) (by decide))))
  have f12 : Fld Z h9 a1 "com/example/entropic_join/entropicjoin/Rows" "count" "I" (.int (0 : Int32)) := (((pr3.other W2 (Or.inr (slot_ne (Or.inl (hw _ (List.mem_of_getElem? (i := 38) rfl))) (Or.inr (hw _ (List.mem_of_getElem? (i := 17) rfl))) (by decide) (t := .int) (t' := .int) (by decide) (by decide)))).ext E5).other W9 (Or.inr (slot_ne (Or.inl (hw _ (List.mem_of_getElem? (i := 38) rfl))) (Or.inl (hw _ (List.mem_of_getElem? (i := 23) rfl))) (by decide) (t := .int) (t' := (.array .int)) (by decide) (by decide))))
  have f13 : Arv Z h9 b5 k5 .int (((p2.toInt64) * (16 : Int64)).toInt32) (List.replicate 12 (.int (0 : Int32))) (.int (0 : Int32)) := (f5.other W9 (Ne.symm (Nat.ne_of_lt (Nat.lt_of_lt_of_le (pr0.wr W2).lt (Nat.le_of_eq g5.symm)))))
  have f11 : Fld Z h9 a1 "com/example/entropic_join/entropicjoin/Rows" "width" "I" (.int p2) := ((f2.ext E5).other W9 (Or.inr (slot_ne (Or.inr (hw _ (List.mem_of_getElem? (i := 17) rfl))) (Or.inl (hw _ (List.mem_of_getElem? (i := 23) rfl))) (by decide) (t := .int) (t' := (.array .int)) (by decide) (by decide))))
  have f12 : Fld Z h9 a1 "com/example/entropic_join/entropicjoin/Rows" "count" "I" (.int (0 : Int32)) := (((pr3.other W2 (Or.inr (slot_ne (Or.inl (hw _ (List.mem_of_getElem? (i := 38) rfl))) (Or.inr (hw _ (List.mem_of_getElem? (i := 17) rfl))) (by decide) (t := .int) (t' := .int) (by decide) (by decide)))).ext E5).other W9 (Or.inr (slot_ne (Or.inl (hw _ (List.mem_of_getElem? (i := 38) rfl))) (Or.inl (hw _ (List.mem_of_getElem? (i := 23) rfl))) (by decide) (t := .int) (t' := (.array .int)) (by decide) (by decide))))
  have f13 : Arv Z h9 b5 k5 .int (((p2.toInt64) * (16 : Int64)).toInt32) (List.replicate 12 (.int (0 : Int32))) (.int (0 : Int32)) := (f5.other W9 (Ne.symm (Nat.ne_of_lt (Nat.lt_of_lt_of_le (pr0.wr W2).lt (Nat.le_of_eq g5.symm)))))
  obtain ⟨fs, hr, hrun, hended, hW, hsame⟩ := X9.leave (v := none) (fun _ => rfl)
  refine ⟨_, _, pre0 _ ?_, hrun, hended, _, _, rfl, ?_, ⟨_, rfl⟩, hW, hsame.mono (by decide) (by decide)⟩
  · show Steps p.tables e below (s₁.setTop (mkF m 0 #[.val (.ref a1), .val (.int p2), .val (.int (16 : Int32))] [])) _
    refine XS.aloadN X0.here hx rfl (hb hby d2_0) rfl rfl ?_
    show Steps p.tables e below (s₁.setTop (mkF m 1 #[.val (.ref a1), .val (.int p2), .val (.int (16 : Int32))] [(.ref a1)])) _
    refine st1 _ ?_
    show Steps p.tables e below (T1.setTop (mkF m 4 #[.val (.ref a1), .val (.int p2), .val (.int (16 : Int32))] [])) _
    refine XS.aloadN X1.here hx rfl (hb hby d2_4) rfl rfl ?_
    show Steps p.tables e below (T1.setTop (mkF m 5 #[.val (.ref a1), .val (.int p2), .val (.int (16 : Int32))] [(.ref a1)])) _
    refine XS.iloadN X1.here hx rfl (hb hby d2_5) rfl ?_
    show Steps p.tables e below (T1.setTop (mkF m 6 #[.val (.ref a1), .val (.int p2), .val (.int (16 : Int32))] [(.int p2), (.ref a1)])) _
    refine st2 _ ?_
    show Steps p.tables e below (T2.setTop (mkF m 9 #[.val (.ref a1), .val (.int p2), .val (.int (16 : Int32))] [])) _
    refine XS.aloadN X2.here hx rfl (hb hby d2_9) rfl rfl ?_
    show Steps p.tables e below (T2.setTop (mkF m 10 #[.val (.ref a1), .val (.int p2), .val (.int (16 : Int32))] [(.ref a1)])) _
    refine XS.iloadN X2.here hx rfl (hb hby d2_10) rfl ?_
    show Steps p.tables e below (T2.setTop (mkF m 11 #[.val (.ref a1), .val (.int p2), .val (.int (16 : Int32))] [(.int p2), (.ref a1)])) _
    refine XS.iloadN X2.here hx rfl (hb hby d2_11) rfl ?_
    show Steps p.tables e below (T2.setTop (mkF m 12 #[.val (.ref a1), .val (.int p2), .val (.int (16 : Int32))] [(.int (16 : Int32)), (.int p2), (.ref a1)])) _
    refine st4 _ ?_
    show Steps p.tables e below (T4.setTop (mkF m 15 #[.val (.ref a1), .val (.int p2), .val (.int (16 : Int32))] [(.int (((p2.toInt64) * (16 : Int64)).toInt32)), (.ref a1)])) _
    refine st5 _ ?_
    show Steps p.tables e below (T5.setTop (mkF m 17 #[.val (.ref a1), .val (.int p2), .val (.int (16 : Int32))] [(.ref b5), (.ref a1)])) _
    refine st9 _ ?_
    show Steps p.tables e below (T9.setTop (mkF m 20 #[.val (.ref a1), .val (.int p2), .val (.int (16 : Int32))] [])) _
    exact X9.returnOut hx Bd.returns (hb hby d2_20) hr
  · show Q_rm_i2 Z a1 p2 v1 v2 h0 n0 _ T9.heap _
    rw [e9]
    exact ⟨b5, k5, rfl, N9, K10, gzb5, f11, f9, f12, f13⟩
theorem d1_0 : decode prog_57_method_1_code 0 = .ok (.aload_n 0, 1) := by decide +kernel
theorem d1_1 : decode prog_57_method_1_code 1 = .ok (.iload_n 1, 1) := by decide +kernel
theorem d1_2 : decode prog_57_method_1_code 2 = .ok (.bipush 16, 2) := by decide +kernel
theorem d1_4 : decode prog_57_method_1_code 4 = .ok (.invokespecial 3, 3) := by decide +kernel
theorem pd__40II_41V : parseMethodDescriptor "(II)V" = some ⟨[.int, .int], none⟩ := by decide +kernel
theorem d1_7 : decode prog_57_method_1_code 7 = .ok (.return_, 1) := by decide +kernel
theorem ef_rm_i1 (m : MethodId) (x0 : Addr) (x1 : Int32) : entryFrame m #[(.ref x0), (.int x1)] 2 = mkF m 0 #[.val (.ref x0), .val (.int x1)] [] := by first | (simp [entryFrame, mkF, argsToLocals, Value.category]; done) | rfl
def Q_rm_i1 (Z : State) (a1 : Addr) (p2 : Int32) (v1 : Value) (v2 : Value) (h0 : Heap) (n0 : Nat) (v : Option Value) (h : Heap) (L : List Loc) : Prop := ∃ dt : Addr, ∃ kd : ClassId, v = none ∧ Fr n0 L ∧ Keep h0 h [a1] ∧ (h0.size ≤ dt) ∧ (Fld Z h a1 "com/example/entropic_join/entropicjoin/Rows" "width" "I" (.int p2)) ∧ (Fld Z h a1 "com/example/entropic_join/entropicjoin/Rows" "data" "[I" (.ref dt)) ∧ (Fld Z h a1 "com/example/entropic_join/entropicjoin/Rows" "count" "I" (.int (0 : Int32))) ∧ (Arv Z h dt kd .int (((p2.toInt64) * (16 : Int64)).toInt32) (List.replicate 12 (.int (0 : Int32))) (.int (0 : Int32)))
set_option maxRecDepth 65536 in
set_option maxHeartbeats 40000000 in
theorem rm_i1 (l : Launch) (Z : State) (a0 : Array Value) (hw : ∀ d ∈ tables_1, d.before a0 Z = true) (ws : List Jvm.Cond) (a1 : Addr) (p2 : Int32) (v1 : Value) (v2 : Value) (h0 : Heap) (n0 : Nat) (Z0 : n0 ≤ h0.size) (pr0 : Exa Z h0 a1 "com/example/entropic_join/entropicjoin/Rows") (pr1 : Fld Z h0 a1 "com/example/entropic_join/entropicjoin/Rows" "width" "I" v1) (pr2 : Fld Z h0 a1 "com/example/entropic_join/entropicjoin/Rows" "data" "[I" v2) (pr3 : Fld Z h0 a1 "com/example/entropic_join/entropicjoin/Rows" "count" "I" (.int (0 : Int32))) (pr4 : n0 ≤ a1) (hq : own_w p2) :
    MetFree l (⟨"com/example/entropic_join/entropicjoin/Rows", "<init>", "(I)V"⟩ : MethodName) (head1 (Jvm.Cond.code (⟨"com/example/entropic_join/entropicjoin/Rows", "<init>", "(I)V"⟩ : MethodName) prog_57_method_1_code 2 none :: ws) ({ frames := 2, cells := 1, slots := 64, locals := 30 } : Room)) (fun a U => a = #[(.ref a1), (.int p2)] ∧ Z.Warmed39 U.vm ∧ U.heap = h0) (fun _ _ _ _ _ => True) (fun _ U o U' => ∃ v L, o = .returned v ∧ Q_rm_i1 Z a1 p2 v1 v2 h0 n0 v U'.heap L ∧ FrameEnd U o U' L ({ frames := 2, cells := 1, slots := 64, locals := 30 } : Room).cells ({ frames := 2, cells := 1, slots := 64, locals := 30 } : Room).slots) := by
  refine MetFree.of_bodySF (plainFor_of_name pn_com_example_entropic_join_entropicjoin_Rows) hisR ?_
  intro p e s m args below meth c s₁ Bd hml0 hP hK
  obtain ⟨rfl, hZ, hh⟩ := hP
  have hx := Bd.exec
  have hby := Bd.bytes
  have hml : c.maxLocals = 2 := hml0
  have hown : s.vm.findClass "com/example/entropic_join/entropicjoin/Rows" = some m.cls := findClass_of_methodNamed Bd.named
  have hnm := (name_of_methodNamed Bd.named Bd.method).1
  have X0 : Stand p l e ({ frames := 2, cells := 1, slots := 64, locals := 30 } : Room) s m #[(.ref a1), (.int p2)] below meth c s₁ [] 0 0 := Stand.of_body Bd
  have e0 : s₁.heap = h0 := by rw [← hh, Bd.state]; rfl
  have N0 := Fr.nil n0
  have pre0 : ∀ t, Steps p.tables e below (s₁.setTop (mkF m 0 #[.val (.ref a1), .val (.int p2)] [])) t → Steps p.tables e below (s₁.setTop (entryFrame m #[(.ref a1), (.int p2)] 2)) t := fun t k => castTop (ef_rm_i1 m a1 p2) k
  obtain ⟨_, _, ⟨T1, L1, k1, n1⟩, -, X1, ⟨Lc1, hQ1, l1, y1, z1⟩, st1⟩ := X0.specialBack hx (y := (⟨"com/example/entropic_join/entropicjoin/Rows", "<init>", "(II)V"⟩ : MethodName)) rfl hown (mvT hZ (hw _ (List.mem_of_getElem? (i := 10) rfl))) (mvT hZ (hw _ (List.mem_of_getElem? (i := 11) rfl))) (mvT hZ (hw _ (List.mem_of_getElem? (i := 12) rfl))) (by decide) (backOf (W := 0) (rm_i2 l Z a0 hw [] a1 p2 v1 v2 h0 n0 Z0 pr0 pr1 pr2 pr3 pr4 hq) hZ (hw _ (List.mem_of_getElem? (i := 12) rfl)) (hw _ (List.mem_of_getElem? (i := 6) rfl)) (by decide) (by decide)) (g := (mkF m 4 #[.val (.ref a1), .val (.int p2)] [(.int (16 : Int32)), (.int p2), (.ref a1)])) rfl (by rw [hml]; rfl) (Steps.refl _) (a := a1) (argsL := [(.int p2), (.int (16 : Int32))]) (rest := []) (lenOf pd__40II_41V rfl) rfl (by show 2 * 0 + _ ≤ _; exact Nat.le_of_eq rfl) (hb hby d1_4) (fun _ _ => ⟨rfl, e0, (by decide : 0 + 1 ≤ _), (by decide : 0 + 64 ≤ _)⟩)
  dsimp only [Pt.U, Pt.locs, Pt.cells, Pt.slots] at X1 l1 y1 z1 st1 hQ1
  subst l1 y1 z1
  obtain ⟨dt_1, kd_1, rfl, Nq1, Kc1, p1_0, p1_1, p1_2, p1_3, p1_4⟩ := hQ1
  have gzdt_1 : h0.size ≤ dt_1 := Nat.le_trans (Keep.refl h0 [a1]).1 p1_0
  have gndt_1 : n0 ≤ dt_1 := Nat.le_trans Z0 gzdt_1
  have K3 : Keep h0 T1.heap [a1] := (Keep.refl h0 [a1]).trans Kc1 (allS (Or.inl (List.mem_of_getElem? (i := 0) rfl)) all0)
  have N1 := Fr.app N0 Nq1
  obtain ⟨fs, hr, hrun, hended, hW, hsame⟩ := X1.leave (v := none) (fun _ => rfl)
  refine ⟨_, _, pre0 _ ?_, hrun, hended, _, _, rfl, ?_, ⟨_, rfl⟩, hW, hsame.mono (by decide) (by decide)⟩
  · show Steps p.tables e below (s₁.setTop (mkF m 0 #[.val (.ref a1), .val (.int p2)] [])) _
    refine XS.aloadN X0.here hx rfl (hb hby d1_0) rfl rfl ?_
    show Steps p.tables e below (s₁.setTop (mkF m 1 #[.val (.ref a1), .val (.int p2)] [(.ref a1)])) _
    refine XS.iloadN X0.here hx rfl (hb hby d1_1) rfl ?_
    show Steps p.tables e below (s₁.setTop (mkF m 2 #[.val (.ref a1), .val (.int p2)] [(.int p2), (.ref a1)])) _
    refine XS.bipush X0.here hx rfl (hb hby d1_2) ?_
    show Steps p.tables e below (s₁.setTop (mkF m 4 #[.val (.ref a1), .val (.int p2)] [(.int (16 : Int32)), (.int p2), (.ref a1)])) _
    refine st1.trans ?_
    show Steps p.tables e below (T1.setTop (mkF m 7 #[.val (.ref a1), .val (.int p2)] [])) _
    exact X1.returnOut hx Bd.returns (hb hby d1_7) hr
  · show Q_rm_i1 Z a1 p2 v1 v2 h0 n0 _ T1.heap _
    exact ⟨dt_1, kd_1, rfl, N1, K3, gzdt_1, p1_1, p1_2, p1_3, p1_4⟩
theorem d7_0 : decode prog_57_method_18_code 0 = .ok (.aload_n 0, 1) := by decide +kernel
theorem d7_1 : decode prog_57_method_18_code 1 = .ok (.getfield 28, 3) := by decide +kernel
theorem d7_4 : decode prog_57_method_18_code 4 = .ok (.i2l, 1) := by decide +kernel
theorem d7_5 : decode prog_57_method_18_code 5 = .ok (.aload_n 0, 1) := by decide +kernel
theorem d7_6 : decode prog_57_method_18_code 6 = .ok (.getfield 14, 3) := by decide +kernel
theorem d7_9 : decode prog_57_method_18_code 9 = .ok (.i2l, 1) := by decide +kernel
theorem d7_10 : decode prog_57_method_18_code 10 = .ok (.lmul, 1) := by decide +kernel
theorem d7_11 : decode prog_57_method_18_code 11 = .ok (.lstore_n 2, 1) := by decide +kernel
theorem d7_12 : decode prog_57_method_18_code 12 = .ok (.lload_n 2, 1) := by decide +kernel
theorem d7_13 : decode prog_57_method_18_code 13 = .ok (.iload_n 1, 1) := by decide +kernel
theorem d7_14 : decode prog_57_method_18_code 14 = .ok (.i2l, 1) := by decide +kernel
theorem d7_15 : decode prog_57_method_18_code 15 = .ok (.aload_n 0, 1) := by decide +kernel
theorem d7_16 : decode prog_57_method_18_code 16 = .ok (.getfield 14, 3) := by decide +kernel
theorem d7_19 : decode prog_57_method_18_code 19 = .ok (.i2l, 1) := by decide +kernel
theorem d7_20 : decode prog_57_method_18_code 20 = .ok (.lmul, 1) := by decide +kernel
theorem d7_21 : decode prog_57_method_18_code 21 = .ok (.ladd, 1) := by decide +kernel
theorem d7_22 : decode prog_57_method_18_code 22 = .ok (.lstore 4, 2) := by decide +kernel
theorem d7_24 : decode prog_57_method_18_code 24 = .ok (.lload 4, 2) := by decide +kernel
theorem d7_26 : decode prog_57_method_18_code 26 = .ok (.aload_n 0, 1) := by decide +kernel
theorem d7_27 : decode prog_57_method_18_code 27 = .ok (.getfield 24, 3) := by decide +kernel
theorem d7_30 : decode prog_57_method_18_code 30 = .ok (.arraylength, 1) := by decide +kernel
theorem d7_31 : decode prog_57_method_18_code 31 = .ok (.i2l, 1) := by decide +kernel
theorem d7_32 : decode prog_57_method_18_code 32 = .ok (.lcmp, 1) := by decide +kernel
theorem d7_33 : decode prog_57_method_18_code 33 = .ok (.ifCond .le 73, 3) := by decide +kernel
theorem d7_106 : decode prog_57_method_18_code 106 = .ok (.aload_n 0, 1) := by decide +kernel
theorem d7_107 : decode prog_57_method_18_code 107 = .ok (.dup, 1) := by decide +kernel
theorem d7_108 : decode prog_57_method_18_code 108 = .ok (.getfield 28, 3) := by decide +kernel
theorem d7_111 : decode prog_57_method_18_code 111 = .ok (.iload_n 1, 1) := by decide +kernel
theorem d7_112 : decode prog_57_method_18_code 112 = .ok (.iadd, 1) := by decide +kernel
theorem d7_113 : decode prog_57_method_18_code 113 = .ok (.putfield 28, 3) := by decide +kernel
theorem d7_116 : decode prog_57_method_18_code 116 = .ok (.lload_n 2, 1) := by decide +kernel
theorem d7_117 : decode prog_57_method_18_code 117 = .ok (.l2i, 1) := by decide +kernel
theorem d7_118 : decode prog_57_method_18_code 118 = .ok (.ireturn, 1) := by decide +kernel
theorem ef_rm_rr (m : MethodId) (x0 : Addr) (x1 : Int32) : entryFrame m #[(.ref x0), (.int x1)] 8 = mkF m 0 #[.val (.ref x0), .val (.int x1), .unset, .unset, .unset, .unset, .unset, .unset] [] := by first | (simp [entryFrame, mkF, argsToLocals, Value.category]; done) | rfl
def Q_rm_rr (Z : State) (a1 : Addr) (w : Int32) (dt : Addr) (cnt : Int32) (kd : ClassId) (nn : Int32) (vd : List Value) (h0 : Heap) (n0 : Nat) (v : Option Value) (h : Heap) (L : List Loc) : Prop := v = some (.int (((cnt.toInt64) * (w.toInt64)).toInt32)) ∧ Fr n0 L ∧ Keep h0 h [a1] ∧ (Fld Z h a1 "com/example/entropic_join/entropicjoin/Rows" "width" "I" (.int w)) ∧ (Fld Z h a1 "com/example/entropic_join/entropicjoin/Rows" "data" "[I" (.ref dt)) ∧ (Fld Z h a1 "com/example/entropic_join/entropicjoin/Rows" "count" "I" (.int (cnt + (1 : Int32))))
set_option maxRecDepth 65536 in
set_option maxHeartbeats 40000000 in
theorem rm_rr (l : Launch) (Z : State) (a0 : Array Value) (hw : ∀ d ∈ tables_1, d.before a0 Z = true) (ws : List Jvm.Cond) (a1 : Addr) (w : Int32) (dt : Addr) (cnt : Int32) (kd : ClassId) (nn : Int32) (vd : List Value) (h0 : Heap) (n0 : Nat) (Z0 : n0 ≤ h0.size) (pr0 : Exa Z h0 a1 "com/example/entropic_join/entropicjoin/Rows") (pr1 : n0 ≤ a1) (pr2 : Fld Z h0 a1 "com/example/entropic_join/entropicjoin/Rows" "width" "I" (.int w)) (pr3 : Fld Z h0 a1 "com/example/entropic_join/entropicjoin/Rows" "data" "[I" (.ref dt)) (pr4 : Fld Z h0 a1 "com/example/entropic_join/entropicjoin/Rows" "count" "I" (.int cnt)) (pr5 : Arv Z h0 dt kd .int nn vd (.int (0 : Int32))) (hle : ¬ ((nn.toInt64) < (((cnt.toInt64) * (w.toInt64)) + ((1 : Int64) * (w.toInt64))))) :
    MetFree l (⟨"com/example/entropic_join/entropicjoin/Rows", "reserveRows", "(I)I"⟩ : MethodName) (head1 (Jvm.Cond.code (⟨"com/example/entropic_join/entropicjoin/Rows", "reserveRows", "(I)I"⟩ : MethodName) prog_57_method_18_code 8 (some .int) :: ws) ({ frames := 0, cells := 0, slots := 0, locals := 0 } : Room)) (fun a U => a = #[(.ref a1), (.int (1 : Int32))] ∧ Z.Warmed39 U.vm ∧ U.heap = h0) (fun _ _ _ _ _ => True) (fun _ U o U' => ∃ v L, o = .returned v ∧ Q_rm_rr Z a1 w dt cnt kd nn vd h0 n0 v U'.heap L ∧ FrameEnd U o U' L ({ frames := 0, cells := 0, slots := 0, locals := 0 } : Room).cells ({ frames := 0, cells := 0, slots := 0, locals := 0 } : Room).slots) := by
  refine MetFree.of_bodySF (plainFor_of_name pn_com_example_entropic_join_entropicjoin_Rows) hisR ?_
  intro p e s m args below meth c s₁ Bd hml0 hP hK
  obtain ⟨rfl, hZ, hh⟩ := hP
  have hx := Bd.exec
  have hby := Bd.bytes
  have hml : c.maxLocals = 8 := hml0
  have hown : s.vm.findClass "com/example/entropic_join/entropicjoin/Rows" = some m.cls := findClass_of_methodNamed Bd.named
  have hnm := (name_of_methodNamed Bd.named Bd.method).1
  have X0 : Stand p l e ({ frames := 0, cells := 0, slots := 0, locals := 0 } : Room) s m #[(.ref a1), (.int (1 : Int32))] below meth c s₁ [] 0 0 := Stand.of_body Bd
  have e0 : s₁.heap = h0 := by rw [← hh, Bd.state]; rfl
  have N0 := Fr.nil n0
  have pre0 : ∀ t, Steps p.tables e below (s₁.setTop (mkF m 0 #[.val (.ref a1), .val (.int (1 : Int32)), .unset, .unset, .unset, .unset, .unset, .unset] [])) t → Steps p.tables e below (s₁.setTop (entryFrame m #[(.ref a1), (.int (1 : Int32))] 8)) t := fun t k => castTop (ef_rm_rr m a1 (1 : Int32)) k
  obtain ⟨T1, X1, e1, st1⟩ := getF X0 hx hZ hown (host := "") (Or.inl (hw _ (List.mem_of_getElem? (i := 37) rfl))) Via.refl e0 pr4 (g := (mkF m 1 #[.val (.ref a1), .val (.int (1 : Int32)), .unset, .unset, .unset, .unset, .unset, .unset] [(.ref a1)])) rfl rfl (hb hby d7_1)
  obtain ⟨T2, X2, e2, st2⟩ := getF X1 hx hZ hown (host := "") (Or.inl (hw _ (List.mem_of_getElem? (i := 16) rfl))) Via.refl e1 pr2 (g := (mkF m 6 #[.val (.ref a1), .val (.int (1 : Int32)), .unset, .unset, .unset, .unset, .unset, .unset] [(.ref a1), (.long (cnt.toInt64))])) rfl rfl (hb hby d7_6)
  obtain ⟨T3, X3, e3, st3⟩ := getF X2 hx hZ hown (host := "") (Or.inl (hw _ (List.mem_of_getElem? (i := 16) rfl))) Via.refl e2 pr2 (g := (mkF m 16 #[.val (.ref a1), .val (.int (1 : Int32)), .val (.long ((cnt.toInt64) * (w.toInt64))), .second, .unset, .unset, .unset, .unset] [(.ref a1), (.long (1 : Int64)), (.long ((cnt.toInt64) * (w.toInt64)))])) rfl rfl (hb hby d7_16)
  obtain ⟨T4, X4, e4, st4⟩ := getF X3 hx hZ hown (host := "") (Or.inl (hw _ (List.mem_of_getElem? (i := 22) rfl))) Via.refl e3 pr3 (g := (mkF m 27 #[.val (.ref a1), .val (.int (1 : Int32)), .val (.long ((cnt.toInt64) * (w.toInt64))), .second, .val (.long (((cnt.toInt64) * (w.toInt64)) + ((1 : Int64) * (w.toInt64)))), .second, .unset, .unset] [(.ref a1), (.long (((cnt.toInt64) * (w.toInt64)) + ((1 : Int64) * (w.toInt64))))])) rfl rfl (hb hby d7_27)
  obtain ⟨cl5, Ar5, q5, Sz5, Ng5, Hs5, Ft5⟩ := id pr5
  obtain ⟨T6, X6, e6, st6⟩ := getF X4 hx hZ hown (host := "") (Or.inl (hw _ (List.mem_of_getElem? (i := 37) rfl))) Via.refl e4 pr4 (g := (mkF m 108 #[.val (.ref a1), .val (.int (1 : Int32)), .val (.long ((cnt.toInt64) * (w.toInt64))), .second, .val (.long (((cnt.toInt64) * (w.toInt64)) + ((1 : Int64) * (w.toInt64)))), .second, .unset, .unset] [(.ref a1), (.ref a1)])) rfl rfl (hb hby d7_108)
  obtain ⟨T7, h7, X7, e7, W7, st7⟩ := putF X6 hx hZ hown (host := "") (Or.inl (hw _ (List.mem_of_getElem? (i := 37) rfl))) Via.refl e6 pr4 pr0 (Or.inl (hw _ (List.mem_of_getElem? (i := 38) rfl))) (hw _ (List.mem_of_getElem? (i := 5) rfl)) (ty := .int) (by decide) rfl rfl (g := (mkF m 113 #[.val (.ref a1), .val (.int (1 : Int32)), .val (.long ((cnt.toInt64) * (w.toInt64))), .second, .val (.long (((cnt.toInt64) * (w.toInt64)) + ((1 : Int64) * (w.toInt64)))), .second, .unset, .unset] [(.int (cnt + (1 : Int32))), (.ref a1)])) rfl rfl (hb hby d7_113)
  have N7 := Fr.snoc X7 N0 pr1
  have f7 : Fld Z h7 a1 "com/example/entropic_join/entropicjoin/Rows" "count" "I" (.int (cnt + (1 : Int32))) := pr4.same W7
  have K8 : Keep h0 h7 [a1] := (Keep.refl h0 [a1]).wr W7 (Or.inl (List.mem_of_getElem? (i := 0) rfl))
  have f9 : Fld Z h7 a1 "com/example/entropic_join/entropicjoin/Rows" "width" "I" (.int w) := (pr2.other W7 (Or.inr (slot_ne (Or.inr (hw _ (List.mem_of_getElem? (i := 17) rfl))) (Or.inl (hw _ (List.mem_of_getElem? (i := 38) rfl))) (by decide) (t := .int) (t' := .int) (by decide) (by decide))))
  have f10 : Fld Z h7 a1 "com/example/entropic_join/entropicjoin/Rows" "data" "[I" (.ref dt) := (pr3.other W7 (Or.inr (slot_ne (Or.inl (hw _ (List.mem_of_getElem? (i := 23) rfl))) (Or.inl (hw _ (List.mem_of_getElem? (i := 38) rfl))) (by decide) (t := (.array .int)) (t' := .int) (by decide) (by decide))))
  have f9 : Fld Z h7 a1 "com/example/entropic_join/entropicjoin/Rows" "width" "I" (.int w) := (pr2.other W7 (Or.inr (slot_ne (Or.inr (hw _ (List.mem_of_getElem? (i := 17) rfl))) (Or.inl (hw _ (List.mem_of_getElem? (i := 38) rfl))) (by decide) (t := .int) (t' := .int) (by decide) (by decide))))
  have f10 : Fld Z h7 a1 "com/example/entropic_join/entropicjoin/Rows" "data" "[I" (.ref dt) := (pr3.other W7 (Or.inr (slot_ne (Or.inl (hw _ (List.mem_of_getElem? (i := 23) rfl))) (Or.inl (hw _ (List.mem_of_getElem? (i := 38) rfl))) (by decide) (t := (.array .int)) (t' := .int) (by decide) (by decide))))
  obtain ⟨fs, hr, hrun, hended, hW, hsame⟩ := X7.leave (v := some (.int (((cnt.toInt64) * (w.toInt64)).toInt32))) (fun h => by rw [Bd.returns] at h; cases h)
  refine ⟨_, _, pre0 _ ?_, hrun, hended, _, _, rfl, ?_, ⟨_, rfl⟩, hW, hsame.mono (by decide) (by decide)⟩
  · show Steps p.tables e below (s₁.setTop (mkF m 0 #[.val (.ref a1), .val (.int (1 : Int32)), .unset, .unset, .unset, .unset, .unset, .unset] [])) _
    refine XS.aloadN X0.here hx rfl (hb hby d7_0) rfl rfl ?_
    show Steps p.tables e below (s₁.setTop (mkF m 1 #[.val (.ref a1), .val (.int (1 : Int32)), .unset, .unset, .unset, .unset, .unset, .unset] [(.ref a1)])) _
    refine st1 _ ?_
    show Steps p.tables e below (T1.setTop (mkF m 4 #[.val (.ref a1), .val (.int (1 : Int32)), .unset, .unset, .unset, .unset, .unset, .unset] [(.int cnt)])) _
    refine XS.i2l X1.here hx rfl (hb hby d7_4) rfl ?_
    show Steps p.tables e below (T1.setTop (mkF m 5 #[.val (.ref a1), .val (.int (1 : Int32)), .unset, .unset, .unset, .unset, .unset, .unset] [(.long (cnt.toInt64))])) _
    refine XS.aloadN X1.here hx rfl (hb hby d7_5) rfl rfl ?_
    show Steps p.tables e below (T1.setTop (mkF m 6 #[.val (.ref a1), .val (.int (1 : Int32)), .unset, .unset, .unset, .unset, .unset, .unset] [(.ref a1), (.long (cnt.toInt64))])) _
    refine st2 _ ?_
    show Steps p.tables e below (T2.setTop (mkF m 9 #[.val (.ref a1), .val (.int (1 : Int32)), .unset, .unset, .unset, .unset, .unset, .unset] [(.int w), (.long (cnt.toInt64))])) _
    refine XS.i2l X2.here hx rfl (hb hby d7_9) rfl ?_
    show Steps p.tables e below (T2.setTop (mkF m 10 #[.val (.ref a1), .val (.int (1 : Int32)), .unset, .unset, .unset, .unset, .unset, .unset] [(.long (w.toInt64)), (.long (cnt.toInt64))])) _
    refine XS.lmul X2.here hx rfl (hb hby d7_10) rfl ?_
    show Steps p.tables e below (T2.setTop (mkF m 11 #[.val (.ref a1), .val (.int (1 : Int32)), .unset, .unset, .unset, .unset, .unset, .unset] [(.long ((cnt.toInt64) * (w.toInt64)))])) _
    refine XS.lstoreN X2.here hx rfl (hb hby d7_11) rfl (l' := #[.val (.ref a1), .val (.int (1 : Int32)), .val (.long ((cnt.toInt64) * (w.toInt64))), .second, .unset, .unset, .unset, .unset]) rfl ?_
    show Steps p.tables e below (T2.setTop (mkF m 12 #[.val (.ref a1), .val (.int (1 : Int32)), .val (.long ((cnt.toInt64) * (w.toInt64))), .second, .unset, .unset, .unset, .unset] [])) _
    refine XS.lloadN X2.here hx rfl (hb hby d7_12) rfl ?_
    show Steps p.tables e below (T2.setTop (mkF m 13 #[.val (.ref a1), .val (.int (1 : Int32)), .val (.long ((cnt.toInt64) * (w.toInt64))), .second, .unset, .unset, .unset, .unset] [(.long ((cnt.toInt64) * (w.toInt64)))])) _
    refine XS.iloadN X2.here hx rfl (hb hby d7_13) rfl ?_
    show Steps p.tables e below (T2.setTop (mkF m 14 #[.val (.ref a1), .val (.int (1 : Int32)), .val (.long ((cnt.toInt64) * (w.toInt64))), .second, .unset, .unset, .unset, .unset] [(.int (1 : Int32)), (.long ((cnt.toInt64) * (w.toInt64)))])) _
    refine XS.i2l X2.here hx rfl (hb hby d7_14) rfl ?_
    show Steps p.tables e below (T2.setTop (mkF m 15 #[.val (.ref a1), .val (.int (1 : Int32)), .val (.long ((cnt.toInt64) * (w.toInt64))), .second, .unset, .unset, .unset, .unset] [(.long (1 : Int64)), (.long ((cnt.toInt64) * (w.toInt64)))])) _
    refine XS.aloadN X2.here hx rfl (hb hby d7_15) rfl rfl ?_
    show Steps p.tables e below (T2.setTop (mkF m 16 #[.val (.ref a1), .val (.int (1 : Int32)), .val (.long ((cnt.toInt64) * (w.toInt64))), .second, .unset, .unset, .unset, .unset] [(.ref a1), (.long (1 : Int64)), (.long ((cnt.toInt64) * (w.toInt64)))])) _
    refine st3 _ ?_
    show Steps p.tables e below (T3.setTop (mkF m 19 #[.val (.ref a1), .val (.int (1 : Int32)), .val (.long ((cnt.toInt64) * (w.toInt64))), .second, .unset, .unset, .unset, .unset] [(.int w), (.long (1 : Int64)), (.long ((cnt.toInt64) * (w.toInt64)))])) _
    refine XS.i2l X3.here hx rfl (hb hby d7_19) rfl ?_
    show Steps p.tables e below (T3.setTop (mkF m 20 #[.val (.ref a1), .val (.int (1 : Int32)), .val (.long ((cnt.toInt64) * (w.toInt64))), .second, .unset, .unset, .unset, .unset] [(.long (w.toInt64)), (.long (1 : Int64)), (.long ((cnt.toInt64) * (w.toInt64)))])) _
    refine XS.lmul X3.here hx rfl (hb hby d7_20) rfl ?_
    show Steps p.tables e below (T3.setTop (mkF m 21 #[.val (.ref a1), .val (.int (1 : Int32)), .val (.long ((cnt.toInt64) * (w.toInt64))), .second, .unset, .unset, .unset, .unset] [(.long ((1 : Int64) * (w.toInt64))), (.long ((cnt.toInt64) * (w.toInt64)))])) _
    refine XS.ladd X3.here hx rfl (hb hby d7_21) rfl ?_
    show Steps p.tables e below (T3.setTop (mkF m 22 #[.val (.ref a1), .val (.int (1 : Int32)), .val (.long ((cnt.toInt64) * (w.toInt64))), .second, .unset, .unset, .unset, .unset] [(.long (((cnt.toInt64) * (w.toInt64)) + ((1 : Int64) * (w.toInt64))))])) _
    refine XS.lstore X3.here hx rfl (hb hby d7_22) rfl (l' := #[.val (.ref a1), .val (.int (1 : Int32)), .val (.long ((cnt.toInt64) * (w.toInt64))), .second, .val (.long (((cnt.toInt64) * (w.toInt64)) + ((1 : Int64) * (w.toInt64)))), .second, .unset, .unset]) rfl ?_
    show Steps p.tables e below (T3.setTop (mkF m 24 #[.val (.ref a1), .val (.int (1 : Int32)), .val (.long ((cnt.toInt64) * (w.toInt64))), .second, .val (.long (((cnt.toInt64) * (w.toInt64)) + ((1 : Int64) * (w.toInt64)))), .second, .unset, .unset] [])) _
    refine XS.lload X3.here hx rfl (hb hby d7_24) rfl ?_
    show Steps p.tables e below (T3.setTop (mkF m 26 #[.val (.ref a1), .val (.int (1 : Int32)), .val (.long ((cnt.toInt64) * (w.toInt64))), .second, .val (.long (((cnt.toInt64) * (w.toInt64)) + ((1 : Int64) * (w.toInt64)))), .second, .unset, .unset] [(.long (((cnt.toInt64) * (w.toInt64)) + ((1 : Int64) * (w.toInt64))))])) _
    refine XS.aloadN X3.here hx rfl (hb hby d7_26) rfl rfl ?_
    show Steps p.tables e below (T3.setTop (mkF m 27 #[.val (.ref a1), .val (.int (1 : Int32)), .val (.long ((cnt.toInt64) * (w.toInt64))), .second, .val (.long (((cnt.toInt64) * (w.toInt64)) + ((1 : Int64) * (w.toInt64)))), .second, .unset, .unset] [(.ref a1), (.long (((cnt.toInt64) * (w.toInt64)) + ((1 : Int64) * (w.toInt64))))])) _
    refine st4 _ ?_
    show Steps p.tables e below (T4.setTop (mkF m 30 #[.val (.ref a1), .val (.int (1 : Int32)), .val (.long ((cnt.toInt64) * (w.toInt64))), .second, .val (.long (((cnt.toInt64) * (w.toInt64)) + ((1 : Int64) * (w.toInt64)))), .second, .unset, .unset] [(.ref dt), (.long (((cnt.toInt64) * (w.toInt64)) + ((1 : Int64) * (w.toInt64))))])) _
    refine X4.arraylength hx (by rw [e4]; exact Ar5.1) (State.isArrayOf_alike hZ.alike Ar5.2.1) (g := (mkF m 30 #[.val (.ref a1), .val (.int (1 : Int32)), .val (.long ((cnt.toInt64) * (w.toInt64))), .second, .val (.long (((cnt.toInt64) * (w.toInt64)) + ((1 : Int64) * (w.toInt64)))), .second, .unset, .unset] [(.ref dt), (.long (((cnt.toInt64) * (w.toInt64)) + ((1 : Int64) * (w.toInt64))))])) rfl rfl (hb hby d7_30) _ ?_
    rw [len_of Sz5 Ng5]
    show Steps p.tables e below (T4.setTop (mkF m 31 #[.val (.ref a1), .val (.int (1 : Int32)), .val (.long ((cnt.toInt64) * (w.toInt64))), .second, .val (.long (((cnt.toInt64) * (w.toInt64)) + ((1 : Int64) * (w.toInt64)))), .second, .unset, .unset] [(.int nn), (.long (((cnt.toInt64) * (w.toInt64)) + ((1 : Int64) * (w.toInt64))))])) _
    refine XS.i2l X4.here hx rfl (hb hby d7_31) rfl ?_
    show Steps p.tables e below (T4.setTop (mkF m 32 #[.val (.ref a1), .val (.int (1 : Int32)), .val (.long ((cnt.toInt64) * (w.toInt64))), .second, .val (.long (((cnt.toInt64) * (w.toInt64)) + ((1 : Int64) * (w.toInt64)))), .second, .unset, .unset] [(.long (nn.toInt64)), (.long (((cnt.toInt64) * (w.toInt64)) + ((1 : Int64) * (w.toInt64))))])) _
    refine XS.lcmp X4.here hx rfl (hb hby d7_32) rfl ?_
    show Steps p.tables e below (T4.setTop (mkF m 33 #[.val (.ref a1), .val (.int (1 : Int32)), .val (.long ((cnt.toInt64) * (w.toInt64))), .second, .val (.long (((cnt.toInt64) * (w.toInt64)) + ((1 : Int64) * (w.toInt64)))), .second, .unset, .unset] [(.int (lcmpW (((cnt.toInt64) * (w.toInt64)) + ((1 : Int64) * (w.toInt64))) (nn.toInt64)))])) _
    refine XS.ifYes X4.here hx rfl (pc0 := 33) (pc' := 106) rfl (hb hby d7_33) rfl ((if0 _ _).trans (flt (fun q_ => hle ((lw_gt _ _).mp q_))).2.2.2) (by decide) (by decide) ?_
    show Steps p.tables e below (T4.setTop (mkF m 106 #[.val (.ref a1), .val (.int (1 : Int32)), .val (.long ((cnt.toInt64) * (w.toInt64))), .second, .val (.long (((cnt.toInt64) * (w.toInt64)) + ((1 : Int64) * (w.toInt64)))), .second, .unset, .unset] [])) _
    refine XS.aloadN X4.here hx rfl (hb hby d7_106) rfl rfl ?_
    show Steps p.tables e below (T4.setTop (mkF m 107 #[.val (.ref a1), .val (.int (1 : Int32)), .val (.long ((cnt.toInt64) * (w.toInt64))), .second, .val (.long (((cnt.toInt64) * (w.toInt64)) + ((1 : Int64) * (w.toInt64)))), .second, .unset, .unset] [(.ref a1)])) _
    refine XS.dup X4.here hx rfl (hb hby d7_107) rfl rfl ?_
    show Steps p.tables e below (T4.setTop (mkF m 108 #[.val (.ref a1), .val (.int (1 : Int32)), .val (.long ((cnt.toInt64) * (w.toInt64))), .second, .val (.long (((cnt.toInt64) * (w.toInt64)) + ((1 : Int64) * (w.toInt64)))), .second, .unset, .unset] [(.ref a1), (.ref a1)])) _
    refine st6 _ ?_
    show Steps p.tables e below (T6.setTop (mkF m 111 #[.val (.ref a1), .val (.int (1 : Int32)), .val (.long ((cnt.toInt64) * (w.toInt64))), .second, .val (.long (((cnt.toInt64) * (w.toInt64)) + ((1 : Int64) * (w.toInt64)))), .second, .unset, .unset] [(.int cnt), (.ref a1)])) _
    refine XS.iloadN X6.here hx rfl (hb hby d7_111) rfl ?_
    show Steps p.tables e below (T6.setTop (mkF m 112 #[.val (.ref a1), .val (.int (1 : Int32)), .val (.long ((cnt.toInt64) * (w.toInt64))), .second, .val (.long (((cnt.toInt64) * (w.toInt64)) + ((1 : Int64) * (w.toInt64)))), .second, .unset, .unset] [(.int (1 : Int32)), (.int cnt), (.ref a1)])) _
    refine XS.iadd X6.here hx rfl (hb hby d7_112) rfl ?_
    show Steps p.tables e below (T6.setTop (mkF m 113 #[.val (.ref a1), .val (.int (1 : Int32)), .val (.long ((cnt.toInt64) * (w.toInt64))), .second, .val (.long (((cnt.toInt64) * (w.toInt64)) + ((1 : Int64) * (w.toInt64)))), .second, .unset, .unset] [(.int (cnt + (1 : Int32))), (.ref a1)])) _
    refine st7 _ ?_
    show Steps p.tables e below (T7.setTop (mkF m 116 #[.val (.ref a1), .val (.int (1 : Int32)), .val (.long ((cnt.toInt64) * (w.toInt64))), .second, .val (.long (((cnt.toInt64) * (w.toInt64)) + ((1 : Int64) * (w.toInt64)))), .second, .unset, .unset] [])) _
    refine XS.lloadN X7.here hx rfl (hb hby d7_116) rfl ?_
    show Steps p.tables e below (T7.setTop (mkF m 117 #[.val (.ref a1), .val (.int (1 : Int32)), .val (.long ((cnt.toInt64) * (w.toInt64))), .second, .val (.long (((cnt.toInt64) * (w.toInt64)) + ((1 : Int64) * (w.toInt64)))), .second, .unset, .unset] [(.long ((cnt.toInt64) * (w.toInt64)))])) _
    refine XS.l2i X7.here hx rfl (hb hby d7_117) rfl ?_
    show Steps p.tables e below (T7.setTop (mkF m 118 #[.val (.ref a1), .val (.int (1 : Int32)), .val (.long ((cnt.toInt64) * (w.toInt64))), .second, .val (.long (((cnt.toInt64) * (w.toInt64)) + ((1 : Int64) * (w.toInt64)))), .second, .unset, .unset] [(.int (((cnt.toInt64) * (w.toInt64)).toInt32))])) _
    exact retI X7 hx Bd.returns (hb hby d7_118) hr
  · show Q_rm_rr Z a1 w dt cnt kd nn vd h0 n0 _ T7.heap _
    rw [e7]
    exact ⟨rfl, N7, K8, f9, f10, f7⟩
theorem d6_0 : decode prog_57_method_17_code 0 = .ok (.aload_n 0, 1) := by decide +kernel
theorem d6_1 : decode prog_57_method_17_code 1 = .ok (.iconst 1, 1) := by decide +kernel
theorem d6_2 : decode prog_57_method_17_code 2 = .ok (.invokevirtual 50, 3) := by decide +kernel
theorem pd__40I_41I : parseMethodDescriptor "(I)I" = some ⟨[.int], some .int⟩ := by decide +kernel
theorem d6_5 : decode prog_57_method_17_code 5 = .ok (.ireturn, 1) := by decide +kernel
theorem ef_rm_r1 (m : MethodId) (x0 : Addr) : entryFrame m #[(.ref x0)] 1 = mkF m 0 #[.val (.ref x0)] [] := by first | (simp [entryFrame, mkF, argsToLocals, Value.category]; done) | rfl
def Q_rm_r1 (Z : State) (a1 : Addr) (w : Int32) (dt : Addr) (cnt : Int32) (kd : ClassId) (nn : Int32) (vd : List Value) (h0 : Heap) (n0 : Nat) (v : Option Value) (h : Heap) (L : List Loc) : Prop := v = some (.int (((cnt.toInt64) * (w.toInt64)).toInt32)) ∧ Fr n0 L ∧ Keep h0 h [a1] ∧ (Fld Z h a1 "com/example/entropic_join/entropicjoin/Rows" "width" "I" (.int w)) ∧ (Fld Z h a1 "com/example/entropic_join/entropicjoin/Rows" "data" "[I" (.ref dt)) ∧ (Fld Z h a1 "com/example/entropic_join/entropicjoin/Rows" "count" "I" (.int (cnt + (1 : Int32))))
set_option maxRecDepth 65536 in
set_option maxHeartbeats 40000000 in
theorem rm_r1 (l : Launch) (Z : State) (a0 : Array Value) (hw : ∀ d ∈ tables_1, d.before a0 Z = true) (ws : List Jvm.Cond) (a1 : Addr) (w : Int32) (dt : Addr) (cnt : Int32) (kd : ClassId) (nn : Int32) (vd : List Value) (h0 : Heap) (n0 : Nat) (Z0 : n0 ≤ h0.size) (pr0 : Exa Z h0 a1 "com/example/entropic_join/entropicjoin/Rows") (pr1 : n0 ≤ a1) (pr2 : Fld Z h0 a1 "com/example/entropic_join/entropicjoin/Rows" "width" "I" (.int w)) (pr3 : Fld Z h0 a1 "com/example/entropic_join/entropicjoin/Rows" "data" "[I" (.ref dt)) (pr4 : Fld Z h0 a1 "com/example/entropic_join/entropicjoin/Rows" "count" "I" (.int cnt)) (pr5 : Arv Z h0 dt kd .int nn vd (.int (0 : Int32))) (hle : ¬ ((nn.toInt64) < (((cnt.toInt64) * (w.toInt64)) + ((1 : Int64) * (w.toInt64))))) :
    MetFree l (⟨"com/example/entropic_join/entropicjoin/Rows", "reserveRow", "()I"⟩ : MethodName) (head1 (Jvm.Cond.code (⟨"com/example/entropic_join/entropicjoin/Rows", "reserveRow", "()I"⟩ : MethodName) prog_57_method_17_code 1 (some .int) :: ws) ({ frames := 1, cells := 0, slots := 0, locals := 19 } : Room)) (fun a U => a = #[(.ref a1)] ∧ Z.Warmed39 U.vm ∧ U.heap = h0) (fun _ _ _ _ _ => True) (fun _ U o U' => ∃ v L, o = .returned v ∧ Q_rm_r1 Z a1 w dt cnt kd nn vd h0 n0 v U'.heap L ∧ FrameEnd U o U' L ({ frames := 1, cells := 0, slots := 0, locals := 19 } : Room).cells ({ frames := 1, cells := 0, slots := 0, locals := 19 } : Room).slots) := by
  refine MetFree.of_bodySF (plainFor_of_name pn_com_example_entropic_join_entropicjoin_Rows) hisR ?_
  intro p e s m args below meth c s₁ Bd hml0 hP hK
  obtain ⟨rfl, hZ, hh⟩ := hP
  have hx := Bd.exec
  have hby := Bd.bytes
  have hml : c.maxLocals = 1 := hml0
  have hown : s.vm.findClass "com/example/entropic_join/entropicjoin/Rows" = some m.cls := findClass_of_methodNamed Bd.named
  have hnm := (name_of_methodNamed Bd.named Bd.method).1
  have X0 : Stand p l e ({ frames := 1, cells := 0, slots := 0, locals := 19 } : Room) s m #[(.ref a1)] below meth c s₁ [] 0 0 := Stand.of_body Bd
  have e0 : s₁.heap = h0 := by rw [← hh, Bd.state]; rfl
  have N0 := Fr.nil n0
  have pre0 : ∀ t, Steps p.tables e below (s₁.setTop (mkF m 0 #[.val (.ref a1)] [])) t → Steps p.tables e below (s₁.setTop (entryFrame m #[(.ref a1)] 1)) t := fun t k => castTop (ef_rm_r1 m a1) k
  obtain ⟨cq1, q1, q1'⟩ := (Ins.self pr0).cell
  obtain ⟨_, _, ⟨T1, L1, k1, n1⟩, -, X1, ⟨Lc1, hQ1, l1, y1, z1⟩, st1⟩ := X0.privateBack hx (y := (⟨"com/example/entropic_join/entropicjoin/Rows", "reserveRows", "(I)I"⟩ : MethodName)) hown (mvT hZ (hw _ (List.mem_of_getElem? (i := 33) rfl))) (mvT hZ (hw _ (List.mem_of_getElem? (i := 34) rfl))) (own_selP (mvT hZ (hw _ (List.mem_of_getElem? (i := 5) rfl)) (args := #[])) (mvP hZ (hw _ (List.mem_of_getElem? (i := 35) rfl)) (args := #[])) (mvT hZ (hw _ (List.mem_of_getElem? (i := 34) rfl))) (by decide)) (Cond.privateMethod_at (mvP hZ (hw _ (List.mem_of_getElem? (i := 35) rfl)) (args := #[]))) (mvT hZ (hw _ (List.mem_of_getElem? (i := 36) rfl))) (by decide) (backOf (W := 0) (rm_rr l Z a0 hw [] a1 w dt cnt kd nn vd h0 n0 Z0 pr0 pr1 pr2 pr3 pr4 pr5 hle) hZ (hw _ (List.mem_of_getElem? (i := 36) rfl)) (hw _ (List.mem_of_getElem? (i := 6) rfl)) (by decide) (by decide)) (g := (mkF m 2 #[.val (.ref a1)] [(.int (1 : Int32)), (.ref a1)])) rfl (by rw [hml]; rfl) (Steps.refl _) (a := a1) (by rw [e0]; exact q1) q1' (argsL := [(.int (1 : Int32))]) (rest := []) (lenOf pd__40I_41I rfl) rfl (by show 2 * 0 + _ ≤ _; exact Nat.le_of_eq rfl) (hb hby d6_2) (fun _ _ => ⟨rfl, e0, (by decide : 0 + 0 ≤ _), (by decide : 0 + 0 ≤ _)⟩)
  dsimp only [Pt.U, Pt.locs, Pt.cells, Pt.slots] at X1 l1 y1 z1 st1 hQ1
  subst l1 y1 z1
  obtain ⟨rfl, Nq1, Kc1, p1_0, p1_1, p1_2⟩ := hQ1
  have K2 : Keep h0 T1.heap [a1] := (Keep.refl h0 [a1]).trans Kc1 (allS (Or.inl (List.mem_of_getElem? (i := 0) rfl)) all0)
  have N1 := Fr.app N0 Nq1
  obtain ⟨fs, hr, hrun, hended, hW, hsame⟩ := X1.leave (v := some (.int (((cnt.toInt64) * (w.toInt64)).toInt32))) (fun h => by rw [Bd.returns] at h; cases h)
  refine ⟨_, _, pre0 _ ?_, hrun, hended, _, _, rfl, ?_, ⟨_, rfl⟩, hW, hsame.mono (by decide) (by decide)⟩
  · show Steps p.tables e below (s₁.setTop (mkF m 0 #[.val (.ref a1)] [])) _
    refine XS.aloadN X0.here hx rfl (hb hby d6_0) rfl rfl ?_
    show Steps p.tables e below (s₁.setTop (mkF m 1 #[.val (.ref a1)] [(.ref a1)])) _
    refine XS.iconst X0.here hx rfl (hb hby d6_1) ?_
    show Steps p.tables e below (s₁.setTop (mkF m 2 #[.val (.ref a1)] [(.int (1 : Int32)), (.ref a1)])) _
    refine st1.trans ?_
    show Steps p.tables e below (T1.setTop (mkF m 5 #[.val (.ref a1)] [(.int (((cnt.toInt64) * (w.toInt64)).toInt32))])) _
    exact retI X1 hx Bd.returns (hb hby d6_5) hr
  · show Q_rm_r1 Z a1 w dt cnt kd nn vd h0 n0 _ T1.heap _
    exact ⟨rfl, N1, K2, p1_0, p1_1, p1_2⟩
theorem d5_0 : decode prog_57_method_6_code 0 = .ok (.aload_n 0, 1) := by decide +kernel
theorem d5_1 : decode prog_57_method_6_code 1 = .ok (.invokevirtual 31, 3) := by decide +kernel
theorem pd__40_41I : parseMethodDescriptor "()I" = some ⟨[], some .int⟩ := by decide +kernel
theorem d5_4 : decode prog_57_method_6_code 4 = .ok (.istore_n 2, 1) := by decide +kernel
theorem d5_5 : decode prog_57_method_6_code 5 = .ok (.aload_n 1, 1) := by decide +kernel
theorem d5_6 : decode prog_57_method_6_code 6 = .ok (.iconst 0, 1) := by decide +kernel
theorem d5_7 : decode prog_57_method_6_code 7 = .ok (.aload_n 0, 1) := by decide +kernel
theorem d5_8 : decode prog_57_method_6_code 8 = .ok (.getfield 24, 3) := by decide +kernel
theorem d5_11 : decode prog_57_method_6_code 11 = .ok (.iload_n 2, 1) := by decide +kernel
theorem d5_12 : decode prog_57_method_6_code 12 = .ok (.aload_n 0, 1) := by decide +kernel
theorem d5_13 : decode prog_57_method_6_code 13 = .ok (.getfield 14, 3) := by decide +kernel
theorem d5_16 : decode prog_57_method_6_code 16 = .ok (.invokestatic 35, 3) := by decide +kernel
theorem d5_19 : decode prog_57_method_6_code 19 = .ok (.return_, 1) := by decide +kernel
theorem ef_rm_ad (m : MethodId) (x0 : Addr) (x1 : Addr) : entryFrame m #[(.ref x0), (.ref x1)] 3 = mkF m 0 #[.val (.ref x0), .val (.ref x1), .unset] [] := by first | (simp [entryFrame, mkF, argsToLocals, Value.category]; done) | rfl
def Q_rm_ad (Z : State) (a1 : Addr) (a2 : Addr) (w : Int32) (dt : Addr) (cnt : Int32) (kd : ClassId) (nn : Int32) (vd : List Value) (k2 : ClassId) (x0 : Int32) (x1 : Int32) (x2 : Int32) (x3 : Int32) (h0 : Heap) (n0 : Nat) (v : Option Value) (h : Heap) (L : List Loc) : Prop := v = none ∧ Fr n0 L ∧ Keep h0 h [a1, dt] ∧ (Fld Z h a1 "com/example/entropic_join/entropicjoin/Rows" "width" "I" (.int w)) ∧ (Fld Z h a1 "com/example/entropic_join/entropicjoin/Rows" "data" "[I" (.ref dt)) ∧ (Fld Z h a1 "com/example/entropic_join/entropicjoin/Rows" "count" "I" (.int (cnt + (1 : Int32)))) ∧ (Arv Z h dt kd .int nn (own_upd vd [(.int x0), (.int x1), (.int x2), (.int x3)] (((cnt.toInt64) * (w.toInt64)).toInt32) w) (.int (0 : Int32)))
set_option maxRecDepth 65536 in
set_option maxHeartbeats 40000000 in
theorem rm_ad (l : Launch) (Z : State) (a0 : Array Value) (hw : ∀ d ∈ tables_1, d.before a0 Z = true) (ws : List Jvm.Cond) (a1 : Addr) (a2 : Addr) (w : Int32) (dt : Addr) (cnt : Int32) (kd : ClassId) (nn : Int32) (vd : List Value) (k2 : ClassId) (x0 : Int32) (x1 : Int32) (x2 : Int32) (x3 : Int32) (h0 : Heap) (n0 : Nat) (Z0 : n0 ≤ h0.size) (pr0 : Exa Z h0 a1 "com/example/entropic_join/entropicjoin/Rows") (pr1 : n0 ≤ a1) (pr2 : Fld Z h0 a1 "com/example/entropic_join/entropicjoin/Rows" "width" "I" (.int w)) (pr3 : Fld Z h0 a1 "com/example/entropic_join/entropicjoin/Rows" "data" "[I" (.ref dt)) (pr4 : Fld Z h0 a1 "com/example/entropic_join/entropicjoin/Rows" "count" "I" (.int cnt)) (pr5 : Arv Z h0 dt kd .int nn vd (.int (0 : Int32))) (pr6 : n0 ≤ dt) (pr7 : Arv Z h0 a2 k2 .int (4 : Int32) [(.int x0), (.int x1), (.int x2), (.int x3)] (.int (0 : Int32))) (pr8 : a2 ≠ dt) (hle : ¬ ((nn.toInt64) < (((cnt.toInt64) * (w.toInt64)) + ((1 : Int64) * (w.toInt64))))) (hc2 : ¬ (((cnt.toInt64) * (w.toInt64)).toInt32) < 0) (hc3 : ¬ w < 0) (hc4 : (0 : Int32).toNatClampNeg + w.toNatClampNeg ≤ (4 : Int32).toNatClampNeg) (hc5 : (((cnt.toInt64) * (w.toInt64)).toInt32).toNatClampNeg + w.toNatClampNeg ≤ nn.toNatClampNeg) (hcl : (((cnt.toInt64) * (w.toInt64)).toInt32).toNatClampNeg + w.toNatClampNeg ≤ vd.length) :
    MetFree l (⟨"com/example/entropic_join/entropicjoin/Rows", "add", "([I)V"⟩ : MethodName) (head1 (Jvm.Cond.code (⟨"com/example/entropic_join/entropicjoin/Rows", "add", "([I)V"⟩ : MethodName) prog_57_method_6_code 3 none :: ws) ({ frames := 2, cells := 0, slots := 0, locals := 31 } : Room)) (fun a U => a = #[(.ref a1), (.ref a2)] ∧ Z.Warmed39 U.vm ∧ U.heap = h0) (fun _ _ _ _ _ => True) (fun _ U o U' => ∃ v L, o = .returned v ∧ Q_rm_ad Z a1 a2 w dt cnt kd nn vd k2 x0 x1 x2 x3 h0 n0 v U'.heap L ∧ FrameEnd U o U' L ({ frames := 2, cells := 0, slots := 0, locals := 31 } : Room).cells ({ frames := 2, cells := 0, slots := 0, locals := 31 } : Room).slots) := by
  refine MetFree.of_bodySF (plainFor_of_name pn_com_example_entropic_join_entropicjoin_Rows) hisR ?_
  intro p e s m args below meth c s₁ Bd hml0 hP hK
  obtain ⟨rfl, hZ, hh⟩ := hP
  have hx := Bd.exec
  have hby := Bd.bytes
  have hml : c.maxLocals = 3 := hml0
  have hown : s.vm.findClass "com/example/entropic_join/entropicjoin/Rows" = some m.cls := findClass_of_methodNamed Bd.named
  have hnm := (name_of_methodNamed Bd.named Bd.method).1
  have X0 : Stand p l e ({ frames := 2, cells := 0, slots := 0, locals := 31 } : Room) s m #[(.ref a1), (.ref a2)] below meth c s₁ [] 0 0 := Stand.of_body Bd
  have e0 : s₁.heap = h0 := by rw [← hh, Bd.state]; rfl
  have N0 := Fr.nil n0
  have pre0 : ∀ t, Steps p.tables e below (s₁.setTop (mkF m 0 #[.val (.ref a1), .val (.ref a2), .unset] [])) t → Steps p.tables e below (s₁.setTop (entryFrame m #[(.ref a1), (.ref a2)] 3)) t := fun t k => castTop (ef_rm_ad m a1 a2) k
  obtain ⟨cq1, q1, q1'⟩ := (Ins.self pr0).cell
  obtain ⟨_, _, ⟨T1, L1, k1, n1⟩, -, X1, ⟨Lc1, hQ1, l1, y1, z1⟩, st1⟩ := X0.privateBack hx (y := (⟨"com/example/entropic_join/entropicjoin/Rows", "reserveRow", "()I"⟩ : MethodName)) hown (mvT hZ (hw _ (List.mem_of_getElem? (i := 29) rfl))) (mvT hZ (hw _ (List.mem_of_getElem? (i := 30) rfl))) (own_selP (mvT hZ (hw _ (List.mem_of_getElem? (i := 5) rfl)) (args := #[])) (mvP hZ (hw _ (List.mem_of_getElem? (i := 31) rfl)) (args := #[])) (mvT hZ (hw _ (List.mem_of_getElem? (i := 30) rfl))) (by decide)) (Cond.privateMethod_at (mvP hZ (hw _ (List.mem_of_getElem? (i := 31) rfl)) (args := #[]))) (mvT hZ (hw _ (List.mem_of_getElem? (i := 32) rfl))) (by decide) (backOf (W := 0) (rm_r1 l Z a0 hw [] a1 w dt cnt kd nn vd h0 n0 Z0 pr0 pr1 pr2 pr3 pr4 pr5 hle) hZ (hw _ (List.mem_of_getElem? (i := 32) rfl)) (hw _ (List.mem_of_getElem? (i := 6) rfl)) (by decide) (by decide)) (g := (mkF m 1 #[.val (.ref a1), .val (.ref a2), .unset] [(.ref a1)])) rfl (by rw [hml]; rfl) (Steps.refl _) (a := a1) (by rw [e0]; exact q1) q1' (argsL := []) (rest := []) (lenOf pd__40_41I rfl) rfl (by show 2 * 0 + _ ≤ _; exact Nat.le_of_eq rfl) (hb hby d5_1) (fun _ _ => ⟨rfl, e0, (by decide : 0 + 0 ≤ _), (by decide : 0 + 0 ≤ _)⟩)
  dsimp only [Pt.U, Pt.locs, Pt.cells, Pt.slots] at X1 l1 y1 z1 st1 hQ1
  subst l1 y1 z1
  obtain ⟨rfl, Nq1, Kc1, p1_0, p1_1, p1_2⟩ := hQ1
  have K2 : Keep h0 T1.heap [a1, dt] := (Keep.refl h0 [a1, dt]).trans Kc1 (allS (Or.inl (List.mem_of_getElem? (i := 0) rfl)) all0)
  have N1 := Fr.app N0 Nq1
  obtain ⟨T3, X3, e3, st3⟩ := getF X1 hx hZ hown (host := "") (Or.inl (hw _ (List.mem_of_getElem? (i := 22) rfl))) Via.refl rfl p1_1 (g := (mkF m 8 #[.val (.ref a1), .val (.ref a2), .val (.int (((cnt.toInt64) * (w.toInt64)).toInt32))] [(.ref a1), (.int (0 : Int32)), (.ref a2)])) rfl rfl (hb hby d5_8)
  obtain ⟨T4, X4, e4, st4⟩ := getF X3 hx hZ hown (host := "") (Or.inl (hw _ (List.mem_of_getElem? (i := 16) rfl))) Via.refl e3 p1_0 (g := (mkF m 13 #[.val (.ref a1), .val (.ref a2), .val (.int (((cnt.toInt64) * (w.toInt64)).toInt32))] [(.ref a1), (.int (((cnt.toInt64) * (w.toInt64)).toInt32)), (.ref dt), (.int (0 : Int32)), (.ref a2)])) rfl rfl (hb hby d5_13)
  have f5 : Arv Z T1.heap a2 k2 .int (4 : Int32) [(.int x0), (.int x1), (.int x2), (.int x3)] (.int (0 : Int32)) := (pr7.keep Kc1 (ninS (Ne.symm (by obtain ⟨_, A_, -⟩ := id pr7; exact ne_arr pr0 (hw _ (List.mem_of_getElem? (i := 5) rfl)) A_)) nin0))
  have f6 : Arv Z T1.heap dt kd .int nn vd (.int (0 : Int32)) := (pr5.keep Kc1 (ninS (Ne.symm (by obtain ⟨_, A_, -⟩ := id pr5; exact ne_arr pr0 (hw _ (List.mem_of_getElem? (i := 5) rfl)) A_)) nin0))
  obtain ⟨T7, h7, L7, X7, e7, N7, Kc7, f7, st7⟩ := cpA X4 hx hZ hown (hw _ (List.mem_of_getElem? (i := 39) rfl)) (hw _ (List.mem_of_getElem? (i := 42) rfl)) (hw _ (List.mem_of_getElem? (i := 40) rfl)) (hw _ (List.mem_of_getElem? (i := 41) rfl)) e4 f5 f6 (Or.inl ⟨rfl, rfl⟩) (by decide) hc2 hc3 hc4 hc5 rfl hcl N1 pr6 (g := (mkF m 16 #[.val (.ref a1), .val (.ref a2), .val (.int (((cnt.toInt64) * (w.toInt64)).toInt32))] [(.int w), (.int (((cnt.toInt64) * (w.toInt64)).toInt32)), (.ref dt), (.int (0 : Int32)), (.ref a2)])) rfl (by rw [hml]; rfl) rfl (hb hby d5_16) (by decide) (W := 0) (by show 2 * 0 + _ ≤ _; exact Nat.le_of_eq rfl) (by decide)
  have g7 : Arv Z h7 dt kd .int nn (own_upd vd [(.int x0), (.int x1), (.int x2), (.int x3)] (((cnt.toInt64) * (w.toInt64)).toInt32) w) (.int (0 : Int32)) := f7
  have K8 : Keep h0 h7 [a1, dt] := K2.trans Kc7 (allS (Or.inl (List.mem_of_getElem? (i := 1) rfl)) all0)
  have f9 : Fld Z h7 a1 "com/example/entropic_join/entropicjoin/Rows" "width" "I" (.int w) := (p1_0.keep Kc7 (ninS (by obtain ⟨_, A_, -⟩ := id f6; exact ne_arr (pr0.keep Kc1) (hw _ (List.mem_of_getElem? (i := 5) rfl)) A_) nin0))
  have f10 : Fld Z h7 a1 "com/example/entropic_join/entropicjoin/Rows" "data" "[I" (.ref dt) := (p1_1.keep Kc7 (ninS (by obtain ⟨_, A_, -⟩ := id f6; exact ne_arr (pr0.keep Kc1) (hw _ (List.mem_of_getElem? (i := 5) rfl)) A_) nin0))
  have f11 : Fld Z h7 a1 "com/example/entropic_join/entropicjoin/Rows" "count" "I" (.int (cnt + (1 : Int32))) := (p1_2.keep Kc7 (ninS (by obtain ⟨_, A_, -⟩ := id f6; exact ne_arr (pr0.keep Kc1) (hw _ (List.mem_of_getElem? (i := 5) rfl)) A_) nin0))
  have f9 : Fld Z h7 a1 "com/example/entropic_join/entropicjoin/Rows" "width" "I" (.int w) := (p1_0.keep Kc7 (ninS (by obtain ⟨_, A_, -⟩ := id f6; exact ne_arr (pr0.keep Kc1) (hw _ (List.mem_of_getElem? (i := 5) rfl)) A_) nin0))
  have f10 : Fld Z h7 a1 "com/example/entropic_join/entropicjoin/Rows" "data" "[I" (.ref dt) := (p1_1.keep Kc7 (ninS (by obtain ⟨_, A_, -⟩ := id f6; exact ne_arr (pr0.keep Kc1) (hw _ (List.mem_of_getElem? (i := 5) rfl)) A_) nin0))
  have f11 : Fld Z h7 a1 "com/example/entropic_join/entropicjoin/Rows" "count" "I" (.int (cnt + (1 : Int32))) := (p1_2.keep Kc7 (ninS (by obtain ⟨_, A_, -⟩ := id f6; exact ne_arr (pr0.keep Kc1) (hw _ (List.mem_of_getElem? (i := 5) rfl)) A_) nin0))
  obtain ⟨fs, hr, hrun, hended, hW, hsame⟩ := X7.leave (v := none) (fun _ => rfl)
  refine ⟨_, _, pre0 _ ?_, hrun, hended, _, _, rfl, ?_, ⟨_, rfl⟩, hW, hsame.mono (by decide) (by decide)⟩
  · show Steps p.tables e below (s₁.setTop (mkF m 0 #[.val (.ref a1), .val (.ref a2), .unset] [])) _
    refine XS.aloadN X0.here hx rfl (hb hby d5_0) rfl rfl ?_
    show Steps p.tables e below (s₁.setTop (mkF m 1 #[.val (.ref a1), .val (.ref a2), .unset] [(.ref a1)])) _
    refine st1.trans ?_
    show Steps p.tables e below (T1.setTop (mkF m 4 #[.val (.ref a1), .val (.ref a2), .unset] [(.int (((cnt.toInt64) * (w.toInt64)).toInt32))])) _
    refine XS.istoreN X1.here hx rfl (hb hby d5_4) rfl (l' := #[.val (.ref a1), .val (.ref a2), .val (.int (((cnt.toInt64) * (w.toInt64)).toInt32))]) rfl ?_
    show Steps p.tables e below (T1.setTop (mkF m 5 #[.val (.ref a1), .val (.ref a2), .val (.int (((cnt.toInt64) * (w.toInt64)).toInt32))] [])) _
    refine XS.aloadN X1.here hx rfl (hb hby d5_5) rfl rfl ?_
    show Steps p.tables e below (T1.setTop (mkF m 6 #[.val (.ref a1), .val (.ref a2), .val (.int (((cnt.toInt64) * (w.toInt64)).toInt32))] [(.ref a2)])) _
    refine XS.iconst X1.here hx rfl (hb hby d5_6) ?_
    show Steps p.tables e below (T1.setTop (mkF m 7 #[.val (.ref a1), .val (.ref a2), .val (.int (((cnt.toInt64) * (w.toInt64)).toInt32))] [(.int (0 : Int32)), (.ref a2)])) _
    refine XS.aloadN X1.here hx rfl (hb hby d5_7) rfl rfl ?_
    show Steps p.tables e below (T1.setTop (mkF m 8 #[.val (.ref a1), .val (.ref a2), .val (.int (((cnt.toInt64) * (w.toInt64)).toInt32))] [(.ref a1), (.int (0 : Int32)), (.ref a2)])) _
    refine st3 _ ?_
    show Steps p.tables e below (T3.setTop (mkF m 11 #[.val (.ref a1), .val (.ref a2), .val (.int (((cnt.toInt64) * (w.toInt64)).toInt32))] [(.ref dt), (.int (0 : Int32)), (.ref a2)])) _
    refine XS.iloadN X3.here hx rfl (hb hby d5_11) rfl ?_
    show Steps p.tables e below (T3.setTop (mkF m 12 #[.val (.ref a1), .val (.ref a2), .val (.int (((cnt.toInt64) * (w.toInt64)).toInt32))] [(.int (((cnt.toInt64) * (w.toInt64)).toInt32)), (.ref dt), (.int (0 : Int32)), (.ref a2)])) _
    refine XS.aloadN X3.here hx rfl (hb hby d5_12) rfl rfl ?_
    show Steps p.tables e below (T3.setTop (mkF m 13 #[.val (.ref a1), .val (.ref a2), .val (.int (((cnt.toInt64) * (w.toInt64)).toInt32))] [(.ref a1), (.int (((cnt.toInt64) * (w.toInt64)).toInt32)), (.ref dt), (.int (0 : Int32)), (.ref a2)])) _
    refine st4 _ ?_
    show Steps p.tables e below (T4.setTop (mkF m 16 #[.val (.ref a1), .val (.ref a2), .val (.int (((cnt.toInt64) * (w.toInt64)).toInt32))] [(.int w), (.int (((cnt.toInt64) * (w.toInt64)).toInt32)), (.ref dt), (.int (0 : Int32)), (.ref a2)])) _
    refine st7 _ ?_
    show Steps p.tables e below (T7.setTop (mkF m 19 #[.val (.ref a1), .val (.ref a2), .val (.int (((cnt.toInt64) * (w.toInt64)).toInt32))] [])) _
    exact X7.returnOut hx Bd.returns (hb hby d5_19) hr
  · show Q_rm_ad Z a1 a2 w dt cnt kd nn vd k2 x0 x1 x2 x3 h0 n0 _ T7.heap _
    rw [e7]
    exact ⟨rfl, N7, K8, f9, f10, f11, g7⟩
theorem d8_0 : decode prog_57_method_5_code 0 = .ok (.aload_n 0, 1) := by decide +kernel
theorem d8_1 : decode prog_57_method_5_code 1 = .ok (.getfield 24, 3) := by decide +kernel
theorem d8_4 : decode prog_57_method_5_code 4 = .ok (.iload_n 1, 1) := by decide +kernel
theorem d8_5 : decode prog_57_method_5_code 5 = .ok (.aload_n 0, 1) := by decide +kernel
theorem d8_6 : decode prog_57_method_5_code 6 = .ok (.getfield 14, 3) := by decide +kernel
theorem d8_9 : decode prog_57_method_5_code 9 = .ok (.imul, 1) := by decide +kernel
theorem d8_10 : decode prog_57_method_5_code 10 = .ok (.iload_n 2, 1) := by decide +kernel
theorem d8_11 : decode prog_57_method_5_code 11 = .ok (.iadd, 1) := by decide +kernel
theorem d8_12 : decode prog_57_method_5_code 12 = .ok (.iaload, 1) := by decide +kernel
theorem d8_13 : decode prog_57_method_5_code 13 = .ok (.ireturn, 1) := by decide +kernel
theorem ef_rm_gt (m : MethodId) (x0 : Addr) (x1 : Int32) (x2 : Int32) : entryFrame m #[(.ref x0), (.int x1), (.int x2)] 3 = mkF m 0 #[.val (.ref x0), .val (.int x1), .val (.int x2)] [] := by first | (simp [entryFrame, mkF, argsToLocals, Value.category]; done) | rfl
def Q_rm_gt (Z : State) (a1 : Addr) (p2 : Int32) (p3 : Int32) (w : Int32) (dt : Addr) (kd : ClassId) (nn : Int32) (vd : List Value) (ee : Int32) (h0 : Heap) (n0 : Nat) (v : Option Value) (h : Heap) (L : List Loc) : Prop := v = some (.int ee) ∧ Fr n0 L ∧ h = h0
set_option maxRecDepth 65536 in
set_option maxHeartbeats 40000000 in
theorem rm_gt (l : Launch) (Z : State) (a0 : Array Value) (hw : ∀ d ∈ tables_1, d.before a0 Z = true) (ws : List Jvm.Cond) (a1 : Addr) (p2 : Int32) (p3 : Int32) (w : Int32) (dt : Addr) (kd : ClassId) (nn : Int32) (vd : List Value) (ee : Int32) (h0 : Heap) (n0 : Nat) (Z0 : n0 ≤ h0.size) (pr0 : Fld Z h0 a1 "com/example/entropic_join/entropicjoin/Rows" "width" "I" (.int w)) (pr1 : Fld Z h0 a1 "com/example/entropic_join/entropicjoin/Rows" "data" "[I" (.ref dt)) (pr2 : Arv Z h0 dt kd .int nn vd (.int (0 : Int32))) (hi1 : ¬ (((p2 * w) + p3) < (0 : Int32))) (hi2 : ((p2 * w) + p3) < nn) (hat : vd.getD ((p2 * w) + p3).toNatClampNeg (.int (0 : Int32)) = (.int ee)) :
    MetFree l (⟨"com/example/entropic_join/entropicjoin/Rows", "get", "(II)I"⟩ : MethodName) (head1 (Jvm.Cond.code (⟨"com/example/entropic_join/entropicjoin/Rows", "get", "(II)I"⟩ : MethodName) prog_57_method_5_code 3 (some .int) :: ws) ({ frames := 0, cells := 0, slots := 0, locals := 0 } : Room)) (fun a U => a = #[(.ref a1), (.int p2), (.int p3)] ∧ Z.Warmed39 U.vm ∧ U.heap = h0) (fun _ _ _ _ _ => True) (fun _ U o U' => ∃ v L, o = .returned v ∧ Q_rm_gt Z a1 p2 p3 w dt kd nn vd ee h0 n0 v U'.heap L ∧ FrameEnd U o U' L ({ frames := 0, cells := 0, slots := 0, locals := 0 } : Room).cells ({ frames := 0, cells := 0, slots := 0, locals := 0 } : Room).slots) := by
  refine MetFree.of_bodySF (plainFor_of_name pn_com_example_entropic_join_entropicjoin_Rows) hisR ?_
  intro p e s m args below meth c s₁ Bd hml0 hP hK
  obtain ⟨rfl, hZ, hh⟩ := hP
  have hx := Bd.exec
  have hby := Bd.bytes
  have hml : c.maxLocals = 3 := hml0
  have hown : s.vm.findClass "com/example/entropic_join/entropicjoin/Rows" = some m.cls := findClass_of_methodNamed Bd.named
  have hnm := (name_of_methodNamed Bd.named Bd.method).1
  have X0 : Stand p l e ({ frames := 0, cells := 0, slots := 0, locals := 0 } : Room) s m #[(.ref a1), (.int p2), (.int p3)] below meth c s₁ [] 0 0 := Stand.of_body Bd
  have e0 : s₁.heap = h0 := by rw [← hh, Bd.state]; rfl
  have N0 := Fr.nil n0
  have pre0 : ∀ t, Steps p.tables e below (s₁.setTop (mkF m 0 #[.val (.ref a1), .val (.int p2), .val (.int p3)] [])) t → Steps p.tables e below (s₁.setTop (entryFrame m #[(.ref a1), (.int p2), (.int p3)] 3)) t := fun t k => castTop (ef_rm_gt m a1 p2 p3) k
  obtain ⟨T1, X1, e1, st1⟩ := getF X0 hx hZ hown (host := "") (Or.inl (hw _ (List.mem_of_getElem? (i := 22) rfl))) Via.refl e0 pr1 (g := (mkF m 1 #[.val (.ref a1), .val (.int p2), .val (.int p3)] [(.ref a1)])) rfl rfl (hb hby d8_1)
  obtain ⟨T2, X2, e2, st2⟩ := getF X1 hx hZ hown (host := "") (Or.inl (hw _ (List.mem_of_getElem? (i := 16) rfl))) Via.refl e1 pr0 (g := (mkF m 6 #[.val (.ref a1), .val (.int p2), .val (.int p3)] [(.ref a1), (.int p2), (.ref dt)])) rfl rfl (hb hby d8_6)
  obtain ⟨cl3, Ar3, q3, Sz3, Ng3, Hs3, Ft3⟩ := id pr2
  obtain ⟨fs, hr, hrun, hended, hW, hsame⟩ := X2.leave (v := some (.int ee)) (fun h => by rw [Bd.returns] at h; cases h)
  refine ⟨_, _, pre0 _ ?_, hrun, hended, _, _, rfl, ?_, ⟨_, rfl⟩, hW, hsame.mono (by decide) (by decide)⟩
  · show Steps p.tables e below (s₁.setTop (mkF m 0 #[.val (.ref a1), .val (.int p2), .val (.int p3)] [])) _
    refine XS.aloadN X0.here hx rfl (hb hby d8_0) rfl rfl ?_
    show Steps p.tables e below (s₁.setTop (mkF m 1 #[.val (.ref a1), .val (.int p2), .val (.int p3)] [(.ref a1)])) _
    refine st1 _ ?_
    show Steps p.tables e below (T1.setTop (mkF m 4 #[.val (.ref a1), .val (.int p2), .val (.int p3)] [(.ref dt)])) _
    refine XS.iloadN X1.here hx rfl (hb hby d8_4) rfl ?_
    show Steps p.tables e below (T1.setTop (mkF m 5 #[.val (.ref a1), .val (.int p2), .val (.int p3)] [(.int p2), (.ref dt)])) _
    refine XS.aloadN X1.here hx rfl (hb hby d8_5) rfl rfl ?_
    show Steps p.tables e below (T1.setTop (mkF m 6 #[.val (.ref a1), .val (.int p2), .val (.int p3)] [(.ref a1), (.int p2), (.ref dt)])) _
    refine st2 _ ?_
    show Steps p.tables e below (T2.setTop (mkF m 9 #[.val (.ref a1), .val (.int p2), .val (.int p3)] [(.int w), (.int p2), (.ref dt)])) _
    refine XS.imul X2.here hx rfl (hb hby d8_9) rfl ?_
    show Steps p.tables e below (T2.setTop (mkF m 10 #[.val (.ref a1), .val (.int p2), .val (.int p3)] [(.int (p2 * w)), (.ref dt)])) _
    refine XS.iloadN X2.here hx rfl (hb hby d8_10) rfl ?_
    show Steps p.tables e below (T2.setTop (mkF m 11 #[.val (.ref a1), .val (.int p2), .val (.int p3)] [(.int p3), (.int (p2 * w)), (.ref dt)])) _
    refine XS.iadd X2.here hx rfl (hb hby d8_11) rfl ?_
    show Steps p.tables e below (T2.setTop (mkF m 12 #[.val (.ref a1), .val (.int p2), .val (.int p3)] [(.int ((p2 * w) + p3)), (.ref dt)])) _
    refine X2.iaload hx (j := ((p2 * w) + p3)) (v := (.int ee)) (by rw [e2]; exact Ar3.1) (State.isArrayOf_alike hZ.alike Ar3.2.1) Ar3.2.2 (inb_of Sz3 ⟨hi1, hi2⟩) (Has.at Hs3 (inb_of Sz3 ⟨hi1, hi2⟩) hat) (g := (mkF m 12 #[.val (.ref a1), .val (.int p2), .val (.int p3)] [(.int ((p2 * w) + p3)), (.ref dt)])) rfl rfl (hb hby d8_12) _ ?_
    show Steps p.tables e below (T2.setTop (mkF m 13 #[.val (.ref a1), .val (.int p2), .val (.int p3)] [(.int ee)])) _
    exact retI X2 hx Bd.returns (hb hby d8_13) hr
  · show Q_rm_gt Z a1 p2 p3 w dt kd nn vd ee h0 n0 _ T2.heap _
    rw [e2]
    exact ⟨rfl, N0, rfl⟩
theorem pd__40I_41V : parseMethodDescriptor "(I)V" = some ⟨[.int], none⟩ := by decide +kernel
theorem pd__40_91I_41V : parseMethodDescriptor "([I)V" = some ⟨[(.array .int)], none⟩ := by decide +kernel
theorem pn_com_example_entropic_join_entropicjoin_RowsGetPinLaw : plainName "com/example/entropic_join/entropicjoin/RowsGetPinLaw" = true := by first | (simp [plainName, overriddenIn]; done) | decide +kernel
theorem ef_rm0 (m : MethodId) (x0 : Int32) (x1 : Int32) (x2 : Int32) (x3 : Int32) (x4 : Int32) : entryFrame m #[(.int x0), (.int x1), (.int x2), (.int x3), (.int x4)] maxLocals = mkF m 0 #[.val (.int x0), .val (.int x1), .val (.int x2), .val (.int x3), .val (.int x4), .unset, .unset, .unset, .unset, .unset, .unset, .unset, .unset, .unset] [] := by first | (simp [entryFrame, mkF, argsToLocals, Value.category, maxLocals]; done) | rfl
def Q_rm0 (Z : State) (p1 : Int32) (p2 : Int32) (p3 : Int32) (p4 : Int32) (p5 : Int32) (h0 : Heap) (n0 : Nat) (v : Option Value) (h : Heap) (L : List Loc) : Prop := v = some (.int (1 : Int32)) ∧ Fr n0 L
set_option maxRecDepth 65536 in
set_option maxHeartbeats 40000000 in
theorem rm0 (l : Launch) (Z : State) (a0 : Array Value) (hw : ∀ d ∈ tables_1, d.before a0 Z = true) (ws : List Jvm.Cond) (p1 : Int32) (p2 : Int32) (p3 : Int32) (p4 : Int32) (p5 : Int32) (h0 : Heap) (n0 : Nat) (Z0 : n0 ≤ h0.size) :
    MetFree l x (head1 (Jvm.Cond.code x code maxLocals ret :: ws) room_1) (fun a U => a = #[(.int p1), (.int p2), (.int p3), (.int p4), (.int p5)] ∧ Z.Warmed39 U.vm ∧ U.heap = h0) (fun _ _ _ _ _ => True) (fun _ U o U' => ∃ v L, o = .returned v ∧ Q_rm0 Z p1 p2 p3 p4 p5 h0 n0 v U'.heap L ∧ FrameEnd U o U' L room_1.cells room_1.slots) := by
  refine MetFree.of_bodySF (plainFor_of_name pn_com_example_entropic_join_entropicjoin_RowsGetPinLaw) hisR ?_
  intro p e s m args below meth c s₁ Bd hml0 hP hK
  obtain ⟨rfl, hZ, hh⟩ := hP
  have hx := Bd.exec
  have hby := Bd.bytes
  have hml : c.maxLocals = 14 := hml0
  have hown : s.vm.findClass "com/example/entropic_join/entropicjoin/RowsGetPinLaw" = some m.cls := findClass_of_methodNamed Bd.named
  have hnm := (name_of_methodNamed Bd.named Bd.method).1
  have X0 : Stand p l e room_1 s m #[(.int p1), (.int p2), (.int p3), (.int p4), (.int p5)] below meth c s₁ [] 0 0 := Stand.of_body Bd
  have e0 : s₁.heap = h0 := by rw [← hh, Bd.state]; rfl
  have N0 := Fr.nil n0
  have pre0 : ∀ t, Steps p.tables e below (s₁.setTop (mkF m 0 #[.val (.int p1), .val (.int p2), .val (.int p3), .val (.int p4), .val (.int p5), .unset, .unset, .unset, .unset, .unset, .unset, .unset, .unset, .unset] [])) t → Steps p.tables e below (s₁.setTop (entryFrame m #[(.int p1), (.int p2), (.int p3), (.int p4), (.int p5)] maxLocals)) t := fun t k => castTop (ef_rm0 m p1 p2 p3 p4 p5) k
  obtain ⟨w5, r6, c7, eqw5, eqr6, eqc7, hq, hrr, hcc⟩ : ∃ w5 r6 c7 : Int32, ((1 : Int32) + (p5 &&& (3 : Int32))) = w5 ∧ (((p5.toUInt32 >>> ((2 : Int32) &&& 31).toUInt32).toInt32) % (3 : Int32)) = r6 ∧ (((p5.toUInt32 >>> ((8 : Int32) &&& 31).toUInt32).toInt32) % ((1 : Int32) + (p5 &&& (3 : Int32)))) = c7 ∧ own_w w5 ∧ (r6 = 0 ∨ r6 = 1 ∨ r6 = 2) ∧ own_c w5 c7 := ⟨_, _, _, rfl, rfl, rfl, own_hw p5, own_hr p5, own_hc p5⟩
  obtain ⟨T1, h1, k1, X1, e1, E1, A1, Ex1, st1⟩ := newPE X0 hx hZ (hw _ (List.mem_of_getElem? (i := 0) rfl)) e0 (g := (mkF m 27 #[.val (.int p1), .val (.int p2), .val (.int p3), .val (.int p4), .val (.int p5), .val (.int w5), .val (.int r6), .val (.int c7), .unset, .unset, .unset, .unset, .unset, .unset] [(.int (4 : Int32))])) rfl (hb hby at_27) rfl (by decide) (cap := 4) (by decide) (by decide) (by decide) (by decide) rfl
  obtain ⟨b1, g1⟩ : ∃ z, z = h0.size := ⟨_, rfl⟩
  rw [← g1] at A1 st1 Ex1
  have gnb1 : n0 ≤ b1 := Nat.le_trans (Nat.le_trans Z0 (Keep.refl h0 []).1) (Nat.le_of_eq g1.symm)
  have gzb1 : h0.size ≤ b1 := Nat.le_trans (Keep.refl h0 []).1 (Nat.le_of_eq g1.symm)
  have K2 : Keep h0 h1 [] := (Keep.refl h0 []).ext E1
  have xe1 : Exa Z h1 b1 "[I" := Ex1
  have f1 : Arv Z h1 b1 k1 .int (4 : Int32) [(.int (0 : Int32)), (.int (0 : Int32)), (.int (0 : Int32)), (.int (0 : Int32))] (.int (0 : Int32)) := (Arv.new A1 (by decide)).pad (pad_rep [] (.int (0 : Int32)) 4)
  obtain ⟨cl3, Ar3, q3, Sz3, Ng3, Hs3, Ft3⟩ := id f1
  obtain ⟨T4, h4, X4, e4, W4, st4⟩ := stI X1 hx hZ e1 Ar3 (j := (0 : Int32)) (inb_of Sz3 ⟨by decide, by decide⟩) (g := (mkF m 32 #[.val (.int p1), .val (.int p2), .val (.int p3), .val (.int p4), .val (.int p5), .val (.int w5), .val (.int r6), .val (.int c7), .unset, .unset, .unset, .unset, .unset, .unset] [(.int p1), (.int (0 : Int32)), (.ref b1), (.ref b1)])) rfl rfl (hb hby at_32)
  have N4 := Fr.snoc X4 N0 gnb1
  have f4 : Arv Z h4 b1 k1 .int (4 : Int32) [(.int p1), (.int (0 : Int32)), (.int (0 : Int32)), (.int (0 : Int32))] (.int (0 : Int32)) := Arv.set Ar3 q3 Sz3 Ng3 Hs3 Ft3 rfl W4 0 rfl (Nat.le_of_ble_eq_true rfl)
  have K5 : Keep h0 h4 [] := K2.wr W4 (Or.inr gzb1)
  obtain ⟨cl6, Ar6, q6, Sz6, Ng6, Hs6, Ft6⟩ := id f4
  obtain ⟨T7, h7, X7, e7, W7, st7⟩ := stI X4 hx hZ e4 Ar6 (j := (1 : Int32)) (inb_of Sz6 ⟨by decide, by decide⟩) (g := (mkF m 36 #[.val (.int p1), .val (.int p2), .val (.int p3), .val (.int p4), .val (.int p5), .val (.int w5), .val (.int r6), .val (.int c7), .unset, .unset, .unset, .unset, .unset, .unset] [(.int p2), (.int (1 : Int32)), (.ref b1), (.ref b1)])) rfl rfl (hb hby at_36)
  have N7 := Fr.snoc X7 N4 gnb1
  have f7 : Arv Z h7 b1 k1 .int (4 : Int32) [(.int p1), (.int p2), (.int (0 : Int32)), (.int (0 : Int32))] (.int (0 : Int32)) := Arv.set Ar6 q6 Sz6 Ng6 Hs6 Ft6 rfl W7 1 rfl (Nat.le_of_ble_eq_true rfl)
  have K8 : Keep h0 h7 [] := K5.wr W7 (Or.inr gzb1)
  obtain ⟨cl9, Ar9, q9, Sz9, Ng9, Hs9, Ft9⟩ := id f7
  obtain ⟨T10, h10, X10, e10, W10, st10⟩ := stI X7 hx hZ e7 Ar9 (j := (2 : Int32)) (inb_of Sz9 ⟨by decide, by decide⟩) (g := (mkF m 40 #[.val (.int p1), .val (.int p2), .val (.int p3), .val (.int p4), .val (.int p5), .val (.int w5), .val (.int r6), .val (.int c7), .unset, .unset, .unset, .unset, .unset, .unset] [(.int p3), (.int (2 : Int32)), (.ref b1), (.ref b1)])) rfl rfl (hb hby at_40)
  have N10 := Fr.snoc X10 N7 gnb1
  have f10 : Arv Z h10 b1 k1 .int (4 : Int32) [(.int p1), (.int p2), (.int p3), (.int (0 : Int32))] (.int (0 : Int32)) := Arv.set Ar9 q9 Sz9 Ng9 Hs9 Ft9 rfl W10 2 rfl (Nat.le_of_ble_eq_true rfl)
  have K11 : Keep h0 h10 [] := K8.wr W10 (Or.inr gzb1)
  obtain ⟨cl12, Ar12, q12, Sz12, Ng12, Hs12, Ft12⟩ := id f10
  obtain ⟨T13, h13, X13, e13, W13, st13⟩ := stI X10 hx hZ e10 Ar12 (j := (3 : Int32)) (inb_of Sz12 ⟨by decide, by decide⟩) (g := (mkF m 44 #[.val (.int p1), .val (.int p2), .val (.int p3), .val (.int p4), .val (.int p5), .val (.int w5), .val (.int r6), .val (.int c7), .unset, .unset, .unset, .unset, .unset, .unset] [(.int p4), (.int (3 : Int32)), (.ref b1), (.ref b1)])) rfl rfl (hb hby at_44)
  have N13 := Fr.snoc X13 N10 gnb1
  have f13 : Arv Z h13 b1 k1 .int (4 : Int32) [(.int p1), (.int p2), (.int p3), (.int p4)] (.int (0 : Int32)) := Arv.set Ar12 q12 Sz12 Ng12 Hs12 Ft12 rfl W13 3 rfl (Nat.le_of_ble_eq_true rfl)
  have K14 : Keep h0 h13 [] := K11.wr W13 (Or.inr gzb1)
  obtain ⟨T15, h15, k15, X15, e15, E15, A15, Ex15, st15⟩ := newPE X13 hx hZ (hw _ (List.mem_of_getElem? (i := 0) rfl)) e13 (g := (mkF m 48 #[.val (.int p1), .val (.int p2), .val (.int p3), .val (.int p4), .val (.int p5), .val (.int w5), .val (.int r6), .val (.int c7), .val (.ref b1), .unset, .unset, .unset, .unset, .unset] [(.int (4 : Int32))])) rfl (hb hby at_48) rfl (by decide) (cap := 4) (by decide) (by decide) (by decide) (by decide) rfl
  obtain ⟨b15, g15⟩ : ∃ z, z = h13.size := ⟨_, rfl⟩
  rw [← g15] at A15 st15 Ex15
  have gnb15 : n0 ≤ b15 := Nat.le_trans (Nat.le_trans Z0 K14.1) (Nat.le_of_eq g15.symm)
  have gzb15 : h0.size ≤ b15 := Nat.le_trans K14.1 (Nat.le_of_eq g15.symm)
  have K16 : Keep h0 h15 [] := K14.ext E15
  have xe15 : Exa Z h15 b15 "[I" := Ex15
  have f15 : Arv Z h15 b15 k15 .int (4 : Int32) [(.int (0 : Int32)), (.int (0 : Int32)), (.int (0 : Int32)), (.int (0 : Int32))] (.int (0 : Int32)) := (Arv.new A15 (by decide)).pad (pad_rep [] (.int (0 : Int32)) 4)
  obtain ⟨cl17, Ar17, q17, Sz17, Ng17, Hs17, Ft17⟩ := id f15
  obtain ⟨T18, h18, X18, e18, W18, st18⟩ := stI X15 hx hZ e15 Ar17 (j := (0 : Int32)) (inb_of Sz17 ⟨by decide, by decide⟩) (g := (mkF m 53 #[.val (.int p1), .val (.int p2), .val (.int p3), .val (.int p4), .val (.int p5), .val (.int w5), .val (.int r6), .val (.int c7), .val (.ref b1), .unset, .unset, .unset, .unset, .unset] [(.int p3), (.int (0 : Int32)), (.ref b15), (.ref b15)])) rfl rfl (hb hby at_53)
  have N18 := Fr.snoc X18 N13 gnb15
  have f18 : Arv Z h18 b15 k15 .int (4 : Int32) [(.int p3), (.int (0 : Int32)), (.int (0 : Int32)), (.int (0 : Int32))] (.int (0 : Int32)) := Arv.set Ar17 q17 Sz17 Ng17 Hs17 Ft17 rfl W18 0 rfl (Nat.le_of_ble_eq_true rfl)
  have K19 : Keep h0 h18 [] := K16.wr W18 (Or.inr gzb15)
  obtain ⟨cl20, Ar20, q20, Sz20, Ng20, Hs20, Ft20⟩ := id f18
  obtain ⟨T21, h21, X21, e21, W21, st21⟩ := stI X18 hx hZ e18 Ar20 (j := (1 : Int32)) (inb_of Sz20 ⟨by decide, by decide⟩) (g := (mkF m 57 #[.val (.int p1), .val (.int p2), .val (.int p3), .val (.int p4), .val (.int p5), .val (.int w5), .val (.int r6), .val (.int c7), .val (.ref b1), .unset, .unset, .unset, .unset, .unset] [(.int p4), (.int (1 : Int32)), (.ref b15), (.ref b15)])) rfl rfl (hb hby at_57)
  have N21 := Fr.snoc X21 N18 gnb15
  have f21 : Arv Z h21 b15 k15 .int (4 : Int32) [(.int p3), (.int p4), (.int (0 : Int32)), (.int (0 : Int32))] (.int (0 : Int32)) := Arv.set Ar20 q20 Sz20 Ng20 Hs20 Ft20 rfl W21 1 rfl (Nat.le_of_ble_eq_true rfl)
  have K22 : Keep h0 h21 [] := K19.wr W21 (Or.inr gzb15)
  obtain ⟨cl23, Ar23, q23, Sz23, Ng23, Hs23, Ft23⟩ := id f21
  obtain ⟨T24, h24, X24, e24, W24, st24⟩ := stI X21 hx hZ e21 Ar23 (j := (2 : Int32)) (inb_of Sz23 ⟨by decide, by decide⟩) (g := (mkF m 61 #[.val (.int p1), .val (.int p2), .val (.int p3), .val (.int p4), .val (.int p5), .val (.int w5), .val (.int r6), .val (.int c7), .val (.ref b1), .unset, .unset, .unset, .unset, .unset] [(.int p1), (.int (2 : Int32)), (.ref b15), (.ref b15)])) rfl rfl (hb hby at_61)
  have N24 := Fr.snoc X24 N21 gnb15
  have f24 : Arv Z h24 b15 k15 .int (4 : Int32) [(.int p3), (.int p4), (.int p1), (.int (0 : Int32))] (.int (0 : Int32)) := Arv.set Ar23 q23 Sz23 Ng23 Hs23 Ft23 rfl W24 2 rfl (Nat.le_of_ble_eq_true rfl)
  have K25 : Keep h0 h24 [] := K22.wr W24 (Or.inr gzb15)
  obtain ⟨cl26, Ar26, q26, Sz26, Ng26, Hs26, Ft26⟩ := id f24
  obtain ⟨T27, h27, X27, e27, W27, st27⟩ := stI X24 hx hZ e24 Ar26 (j := (3 : Int32)) (inb_of Sz26 ⟨by decide, by decide⟩) (g := (mkF m 65 #[.val (.int p1), .val (.int p2), .val (.int p3), .val (.int p4), .val (.int p5), .val (.int w5), .val (.int r6), .val (.int c7), .val (.ref b1), .unset, .unset, .unset, .unset, .unset] [(.int p2), (.int (3 : Int32)), (.ref b15), (.ref b15)])) rfl rfl (hb hby at_65)
  have N27 := Fr.snoc X27 N24 gnb15
  have f27 : Arv Z h27 b15 k15 .int (4 : Int32) [(.int p3), (.int p4), (.int p1), (.int p2)] (.int (0 : Int32)) := Arv.set Ar26 q26 Sz26 Ng26 Hs26 Ft26 rfl W27 3 rfl (Nat.le_of_ble_eq_true rfl)
  have K28 : Keep h0 h27 [] := K25.wr W27 (Or.inr gzb15)
  obtain ⟨T29, h29, k29, X29, e29, E29, A29, Ex29, st29⟩ := newPE X27 hx hZ (hw _ (List.mem_of_getElem? (i := 0) rfl)) e27 (g := (mkF m 69 #[.val (.int p1), .val (.int p2), .val (.int p3), .val (.int p4), .val (.int p5), .val (.int w5), .val (.int r6), .val (.int c7), .val (.ref b1), .val (.ref b15), .unset, .unset, .unset, .unset] [(.int (4 : Int32))])) rfl (hb hby at_69) rfl (by decide) (cap := 4) (by decide) (by decide) (by decide) (by decide) rfl
  obtain ⟨b29, g29⟩ : ∃ z, z = h27.size := ⟨_, rfl⟩
  rw [← g29] at A29 st29 Ex29
  have gnb29 : n0 ≤ b29 := Nat.le_trans (Nat.le_trans Z0 K28.1) (Nat.le_of_eq g29.symm)
  have gzb29 : h0.size ≤ b29 := Nat.le_trans K28.1 (Nat.le_of_eq g29.symm)
  have K30 : Keep h0 h29 [] := K28.ext E29
  have xe29 : Exa Z h29 b29 "[I" := Ex29
  have f29 : Arv Z h29 b29 k29 .int (4 : Int32) [(.int (0 : Int32)), (.int (0 : Int32)), (.int (0 : Int32)), (.int (0 : Int32))] (.int (0 : Int32)) := (Arv.new A29 (by decide)).pad (pad_rep [] (.int (0 : Int32)) 4)
  obtain ⟨cl31, Ar31, q31, Sz31, Ng31, Hs31, Ft31⟩ := id f29
  obtain ⟨T32, h32, X32, e32, W32, st32⟩ := stI X29 hx hZ e29 Ar31 (j := (0 : Int32)) (inb_of Sz31 ⟨by decide, by decide⟩) (g := (mkF m 76 #[.val (.int p1), .val (.int p2), .val (.int p3), .val (.int p4), .val (.int p5), .val (.int w5), .val (.int r6), .val (.int c7), .val (.ref b1), .val (.ref b15), .unset, .unset, .unset, .unset] [(.int (p1 ^^^ (-1 : Int32))), (.int (0 : Int32)), (.ref b29), (.ref b29)])) rfl rfl (hb hby at_76)
  have N32 := Fr.snoc X32 N27 gnb29
  have f32 : Arv Z h32 b29 k29 .int (4 : Int32) [(.int (p1 ^^^ (-1 : Int32))), (.int (0 : Int32)), (.int (0 : Int32)), (.int (0 : Int32))] (.int (0 : Int32)) := Arv.set Ar31 q31 Sz31 Ng31 Hs31 Ft31 rfl W32 0 rfl (Nat.le_of_ble_eq_true rfl)
  have K33 : Keep h0 h32 [] := K30.wr W32 (Or.inr gzb29)
  obtain ⟨cl34, Ar34, q34, Sz34, Ng34, Hs34, Ft34⟩ := id f32
  obtain ⟨T35, h35, X35, e35, W35, st35⟩ := stI X32 hx hZ e32 Ar34 (j := (1 : Int32)) (inb_of Sz34 ⟨by decide, by decide⟩) (g := (mkF m 82 #[.val (.int p1), .val (.int p2), .val (.int p3), .val (.int p4), .val (.int p5), .val (.int w5), .val (.int r6), .val (.int c7), .val (.ref b1), .val (.ref b15), .unset, .unset, .unset, .unset] [(.int (p2 ^^^ (-1 : Int32))), (.int (1 : Int32)), (.ref b29), (.ref b29)])) rfl rfl (hb hby at_82)
  have N35 := Fr.snoc X35 N32 gnb29
  have f35 : Arv Z h35 b29 k29 .int (4 : Int32) [(.int (p1 ^^^ (-1 : Int32))), (.int (p2 ^^^ (-1 : Int32))), (.int (0 : Int32)), (.int (0 : Int32))] (.int (0 : Int32)) := Arv.set Ar34 q34 Sz34 Ng34 Hs34 Ft34 rfl W35 1 rfl (Nat.le_of_ble_eq_true rfl)
  have K36 : Keep h0 h35 [] := K33.wr W35 (Or.inr gzb29)
  obtain ⟨cl37, Ar37, q37, Sz37, Ng37, Hs37, Ft37⟩ := id f35
  obtain ⟨T38, h38, X38, e38, W38, st38⟩ := stI X35 hx hZ e35 Ar37 (j := (2 : Int32)) (inb_of Sz37 ⟨by decide, by decide⟩) (g := (mkF m 88 #[.val (.int p1), .val (.int p2), .val (.int p3), .val (.int p4), .val (.int p5), .val (.int w5), .val (.int r6), .val (.int c7), .val (.ref b1), .val (.ref b15), .unset, .unset, .unset, .unset] [(.int (p3 ^^^ (-1 : Int32))), (.int (2 : Int32)), (.ref b29), (.ref b29)])) rfl rfl (hb hby at_88)
  have N38 := Fr.snoc X38 N35 gnb29
  have f38 : Arv Z h38 b29 k29 .int (4 : Int32) [(.int (p1 ^^^ (-1 : Int32))), (.int (p2 ^^^ (-1 : Int32))), (.int (p3 ^^^ (-1 : Int32))), (.int (0 : Int32))] (.int (0 : Int32)) := Arv.set Ar37 q37 Sz37 Ng37 Hs37 Ft37 rfl W38 2 rfl (Nat.le_of_ble_eq_true rfl)
  have K39 : Keep h0 h38 [] := K36.wr W38 (Or.inr gzb29)
  obtain ⟨cl40, Ar40, q40, Sz40, Ng40, Hs40, Ft40⟩ := id f38
  obtain ⟨T41, h41, X41, e41, W41, st41⟩ := stI X38 hx hZ e38 Ar40 (j := (3 : Int32)) (inb_of Sz40 ⟨by decide, by decide⟩) (g := (mkF m 94 #[.val (.int p1), .val (.int p2), .val (.int p3), .val (.int p4), .val (.int p5), .val (.int w5), .val (.int r6), .val (.int c7), .val (.ref b1), .val (.ref b15), .unset, .unset, .unset, .unset] [(.int (p4 ^^^ (-1 : Int32))), (.int (3 : Int32)), (.ref b29), (.ref b29)])) rfl rfl (hb hby at_94)
  have N41 := Fr.snoc X41 N38 gnb29
  have f41 : Arv Z h41 b29 k29 .int (4 : Int32) [(.int (p1 ^^^ (-1 : Int32))), (.int (p2 ^^^ (-1 : Int32))), (.int (p3 ^^^ (-1 : Int32))), (.int (p4 ^^^ (-1 : Int32)))] (.int (0 : Int32)) := Arv.set Ar40 q40 Sz40 Ng40 Hs40 Ft40 rfl W41 3 rfl (Nat.le_of_ble_eq_true rfl)
  have K42 : Keep h0 h41 [] := K39.wr W41 (Or.inr gzb29)
  obtain ⟨T43, h43, k43, X43, e43, E43, A43, Ex43, O43, st43⟩ := newRA X41 hx hZ hown rfl (hw _ (List.mem_of_getElem? (i := 1) rfl)) (hw _ (List.mem_of_getElem? (i := 2) rfl)) e41 (g := (mkF m 98 #[.val (.int p1), .val (.int p2), .val (.int p3), .val (.int p4), .val (.int p5), .val (.int w5), .val (.int r6), .val (.int c7), .val (.ref b1), .val (.ref b15), .val (.ref b29), .unset, .unset, .unset] [(.int (3 : Int32))])) rfl (hb hby at_98) rfl (by decide) (cap := 3) (by decide) (by decide) (by decide) (by decide) (ad := "[[I") rfl
  obtain ⟨b43, g43⟩ : ∃ z, z = h41.size := ⟨_, rfl⟩
  rw [← g43] at A43 st43 Ex43
  have gnb43 : n0 ≤ b43 := Nat.le_trans (Nat.le_trans Z0 K42.1) (Nat.le_of_eq g43.symm)
  have gzb43 : h0.size ≤ b43 := Nat.le_trans K42.1 (Nat.le_of_eq g43.symm)
  have K44 : Keep h0 h43 [] := K42.ext E43
  have xe43 : Exa Z h43 b43 "[[I" := Ex43
  have f43 : Arv Z h43 b43 k43 (.array .int) (3 : Int32) [.null, .null, .null] .null := (Arv.new A43 (by decide)).pad (pad_rep [] .null 3)
  obtain ⟨cl45, Ar45, q45, Sz45, Ng45, Hs45, Ft45⟩ := id f43
  have f46 : Exa Z h43 b1 "[I" := (((((((((((((((xe1.wr W4).wr W7).wr W10).wr W13).ext E15).wr W18).wr W21).wr W24).wr W27).ext E29).wr W32).wr W35).wr W38).wr W41).ext E43)
  obtain ⟨T47, h47, X47, e47, W47, st47⟩ := stR X43 hx hZ e43 Ar45 (j := (0 : Int32)) (inb_of Sz45 ⟨by decide, by decide⟩) rfl (Sto.ofVA Ar45 q45 O43 (Ins.self f46)) (g := (mkF m 105 #[.val (.int p1), .val (.int p2), .val (.int p3), .val (.int p4), .val (.int p5), .val (.int w5), .val (.int r6), .val (.int c7), .val (.ref b1), .val (.ref b15), .val (.ref b29), .unset, .unset, .unset] [(.ref b1), (.int (0 : Int32)), (.ref b43), (.ref b43)])) rfl rfl (hb hby at_105)
  have N47 := Fr.snoc X47 N41 gnb43
  have f47 : Arv Z h47 b43 k43 (.array .int) (3 : Int32) [(.ref b1), .null, .null] .null := Arv.set Ar45 q45 Sz45 Ng45 Hs45 Ft45 rfl W47 0 rfl (Nat.le_of_ble_eq_true rfl)
  have K48 : Keep h0 h47 [] := K44.wr W47 (Or.inr gzb43)
  obtain ⟨cl49, Ar49, q49, Sz49, Ng49, Hs49, Ft49⟩ := id f47
  have f50 : Exa Z h47 b15 "[I" := (((((((((((xe15.wr W18).wr W21).wr W24).wr W27).ext E29).wr W32).wr W35).wr W38).wr W41).ext E43).wr W47)
  obtain ⟨T51, h51, X51, e51, W51, st51⟩ := stR X47 hx hZ e47 Ar49 (j := (1 : Int32)) (inb_of Sz49 ⟨by decide, by decide⟩) rfl (Sto.ofVA Ar49 q49 O43 (Ins.self f50)) (g := (mkF m 110 #[.val (.int p1), .val (.int p2), .val (.int p3), .val (.int p4), .val (.int p5), .val (.int w5), .val (.int r6), .val (.int c7), .val (.ref b1), .val (.ref b15), .val (.ref b29), .unset, .unset, .unset] [(.ref b15), (.int (1 : Int32)), (.ref b43), (.ref b43)])) rfl rfl (hb hby at_110)
  have N51 := Fr.snoc X51 N47 gnb43
  have f51 : Arv Z h51 b43 k43 (.array .int) (3 : Int32) [(.ref b1), (.ref b15), .null] .null := Arv.set Ar49 q49 Sz49 Ng49 Hs49 Ft49 rfl W51 1 rfl (Nat.le_of_ble_eq_true rfl)
  have K52 : Keep h0 h51 [] := K48.wr W51 (Or.inr gzb43)
  obtain ⟨cl53, Ar53, q53, Sz53, Ng53, Hs53, Ft53⟩ := id f51
  have f54 : Exa Z h51 b29 "[I" := (((((((xe29.wr W32).wr W35).wr W38).wr W41).ext E43).wr W47).wr W51)
  obtain ⟨T55, h55, X55, e55, W55, st55⟩ := stR X51 hx hZ e51 Ar53 (j := (2 : Int32)) (inb_of Sz53 ⟨by decide, by decide⟩) rfl (Sto.ofVA Ar53 q53 O43 (Ins.self f54)) (g := (mkF m 115 #[.val (.int p1), .val (.int p2), .val (.int p3), .val (.int p4), .val (.int p5), .val (.int w5), .val (.int r6), .val (.int c7), .val (.ref b1), .val (.ref b15), .val (.ref b29), .unset, .unset, .unset] [(.ref b29), (.int (2 : Int32)), (.ref b43), (.ref b43)])) rfl rfl (hb hby at_115)
  have N55 := Fr.snoc X55 N51 gnb43
  have f55 : Arv Z h55 b43 k43 (.array .int) (3 : Int32) [(.ref b1), (.ref b15), (.ref b29)] .null := Arv.set Ar53 q53 Sz53 Ng53 Hs53 Ft53 rfl W55 2 rfl (Nat.le_of_ble_eq_true rfl)
  have K56 : Keep h0 h55 [] := K52.wr W55 (Or.inr gzb43)
  obtain ⟨T57, h57, X57, e57, E57, A57, D57, -, st57⟩ := newO X55 hx hZ hown (hw _ (List.mem_of_getElem? (i := 4) rfl)) (hw _ (List.mem_of_getElem? (i := 5) rfl)) (hw _ (List.mem_of_getElem? (i := 6) rfl)) e55 (g := (mkF m 118 #[.val (.int p1), .val (.int p2), .val (.int p3), .val (.int p4), .val (.int p5), .val (.int w5), .val (.int r6), .val (.int c7), .val (.ref b1), .val (.ref b15), .val (.ref b29), .val (.ref b43), .unset, .unset] [])) rfl (hb hby at_118) (by decide) (by decide)
  obtain ⟨b57, g57⟩ : ∃ z, z = h55.size := ⟨_, rfl⟩
  rw [← g57] at A57 D57 st57
  have gnb57 : n0 ≤ b57 := Nat.le_trans (Nat.le_trans Z0 K56.1) (Nat.le_of_eq g57.symm)
  have gzb57 : h0.size ≤ b57 := Nat.le_trans K56.1 (Nat.le_of_eq g57.symm)
  have K58 : Keep h0 h57 [] := K56.ext E57
  have f59 : Fld Z h57 b57 "com/example/entropic_join/entropicjoin/Rows" "width" "I" (.int (0 : Int32)) := D57 (Or.inr (hw _ (List.mem_of_getElem? (i := 17) rfl))) (ty := .int) (by decide)
  have f60 : Fld Z h57 b57 "com/example/entropic_join/entropicjoin/Rows" "data" "[I" .null := D57 (Or.inl (hw _ (List.mem_of_getElem? (i := 23) rfl))) (ty := (.array .int)) (by decide)
  have f61 : Fld Z h57 b57 "com/example/entropic_join/entropicjoin/Rows" "count" "I" (.int (0 : Int32)) := D57 (Or.inl (hw _ (List.mem_of_getElem? (i := 38) rfl))) (ty := .int) (by decide)
  obtain ⟨_, _, ⟨T62, L62, k62, n62⟩, -, X62, ⟨Lc62, hQ62, l62, y62, z62⟩, st62⟩ := X57.specialBack hx (y := (⟨"com/example/entropic_join/entropicjoin/Rows", "<init>", "(I)V"⟩ : MethodName)) rfl hown (mvT hZ (hw _ (List.mem_of_getElem? (i := 7) rfl))) (mvT hZ (hw _ (List.mem_of_getElem? (i := 8) rfl))) (mvT hZ (hw _ (List.mem_of_getElem? (i := 9) rfl))) (by decide) (backOf (W := 1) (rm_i1 l Z a0 hw [] b57 w5 (.int (0 : Int32)) .null h57 n0 (Nat.le_trans Z0 K58.1) A57 f59 f60 f61 gnb57 hq) hZ (hw _ (List.mem_of_getElem? (i := 9) rfl)) (hw _ (List.mem_of_getElem? (i := 6) rfl)) (by decide) (by decide)) (g := (mkF m 124 #[.val (.int p1), .val (.int p2), .val (.int p3), .val (.int p4), .val (.int p5), .val (.int w5), .val (.int r6), .val (.int c7), .val (.ref b1), .val (.ref b15), .val (.ref b29), .val (.ref b43), .unset, .unset] [(.int w5), (.ref b57), (.ref b57)])) rfl (by rw [hml]; rfl) (Steps.refl _) (a := b57) (argsL := [(.int w5)]) (rest := [(.ref b57)]) (lenOf pd__40I_41V rfl) rfl (by show 2 * 0 + _ ≤ _; exact Nat.le_of_eq rfl) (hb hby at_124) (fun _ _ => ⟨rfl, e57, (by decide : 5 + 1 ≤ _), (by decide : 18 + 64 ≤ _)⟩)
  dsimp only [Pt.U, Pt.locs, Pt.cells, Pt.slots] at X62 l62 y62 z62 st62 hQ62
  subst l62 y62 z62
  obtain ⟨dt_62, kd_62, rfl, Nq62, Kc62, p62_0, p62_1, p62_2, p62_3, p62_4⟩ := hQ62
  have gzdt_62 : h0.size ≤ dt_62 := Nat.le_trans K58.1 p62_0
  have gndt_62 : n0 ≤ dt_62 := Nat.le_trans Z0 gzdt_62
  have K64 : Keep h0 T62.heap [] := K58.trans Kc62 (allS (Or.inr gzb57) all0)
  have N62 := Fr.app N55 Nq62
  have f65 : Exa Z T62.heap b57 "com/example/entropic_join/entropicjoin/Rows" := (A57.keep Kc62)
  have f66 : Arv Z T62.heap b1 k1 .int (4 : Int32) [(.int p1), (.int p2), (.int p3), (.int p4)] (.int (0 : Int32)) := ((((((((((((((((f13.ext E15).other W18 (Nat.ne_of_lt (Nat.lt_of_lt_of_le ((((xe1.wr W4).wr W7).wr W10).wr W13).lt (Nat.le_of_eq g15.symm)))).other W21 (Nat.ne_of_lt (Nat.lt_of_lt_of_le ((((xe1.wr W4).wr W7).wr W10).wr W13).lt (Nat.le_of_eq g15.symm)))).other W24 (Nat.ne_of_lt (Nat.lt_of_lt_of_le ((((xe1.wr W4).wr W7).wr W10).wr W13).lt (Nat.le_of_eq g15.symm)))).other W27 (Nat.ne_of_lt (Nat.lt_of_lt_of_le ((((xe1.wr W4).wr W7).wr W10).wr W13).lt (Nat.le_of_eq g15.symm)))).ext E29).other W32 (Nat.ne_of_lt (Nat.lt_of_lt_of_le (((((((((xe1.wr W4).wr W7).wr W10).wr W13).ext E15).wr W18).wr W21).wr W24).wr W27).lt (Nat.le_of_eq g29.symm)))).other W35 (Nat.ne_of_lt (Nat.lt_of_lt_of_le (((((((((xe1.wr W4).wr W7).wr W10).wr W13).ext E15).wr W18).wr W21).wr W24).wr W27).lt (Nat.le_of_eq g29.symm)))).other W38 (Nat.ne_of_lt (Nat.lt_of_lt_of_le (((((((((xe1.wr W4).wr W7).wr W10).wr W13).ext E15).wr W18).wr W21).wr W24).wr W27).lt (Nat.le_of_eq g29.symm)))).other W41 (Nat.ne_of_lt (Nat.lt_of_lt_of_le (((((((((xe1.wr W4).wr W7).wr W10).wr W13).ext E15).wr W18).wr W21).wr W24).wr W27).lt (Nat.le_of_eq g29.symm)))).ext E43).other W47 (Nat.ne_of_lt (Nat.lt_of_lt_of_le ((((((((((((((xe1.wr W4).wr W7).wr W10).wr W13).ext E15).wr W18).wr W21).wr W24).wr W27).ext E29).wr W32).wr W35).wr W38).wr W41).lt (Nat.le_of_eq g43.symm)))).other W51 (Nat.ne_of_lt (Nat.lt_of_lt_of_le ((((((((((((((xe1.wr W4).wr W7).wr W10).wr W13).ext E15).wr W18).wr W21).wr W24).wr W27).ext E29).wr W32).wr W35).wr W38).wr W41).lt (Nat.le_of_eq g43.symm)))).other W55 (Nat.ne_of_lt (Nat.lt_of_lt_of_le ((((((((((((((xe1.wr W4).wr W7).wr W10).wr W13).ext E15).wr W18).wr W21).wr W24).wr W27).ext E29).wr W32).wr W35).wr W38).wr W41).lt (Nat.le_of_eq g43.symm)))).ext E57).keep Kc62 (ninS (Nat.ne_of_lt (Nat.lt_of_lt_of_le (((f46.wr W47).wr W51).wr W55).lt (Nat.le_of_eq g57.symm))) nin0))
  obtain ⟨cq67, kq67, q67a, q67b, q67c⟩ := isOf hZ rfl f65
  obtain ⟨_, _, ⟨T67, L67, k67, n67⟩, -, X67, ⟨Lc67, hQ67, l67, y67, z67⟩, st67⟩ := X62.virtualBack hx (y := (⟨"com/example/entropic_join/entropicjoin/Rows", "add", "([I)V"⟩ : MethodName)) (z := (⟨"com/example/entropic_join/entropicjoin/Rows", "add", "([I)V"⟩ : MethodName)) hown (mvT hZ (hw _ (List.mem_of_getElem? (i := 24) rfl))) (mvT hZ (hw _ (List.mem_of_getElem? (i := 25) rfl))) (notFace_of_selects (args := #[]) (mvT hZ (hw _ (List.mem_of_getElem? (i := 27) rfl)))) (mvT hZ (hw _ (List.mem_of_getElem? (i := 27) rfl))) (mvT hZ (hw _ (List.mem_of_getElem? (i := 26) rfl))) (by decide) (backOf (W := 0) (rm_ad l Z a0 hw [] b57 b1 w5 dt_62 (0 : Int32) kd_62 (((w5.toInt64) * (16 : Int64)).toInt32) (List.replicate 12 (.int (0 : Int32))) k1 p1 p2 p3 p4 T62.heap n0 (Nat.le_trans Z0 K64.1) f65 gnb57 p62_1 p62_2 p62_3 p62_4 gndt_62 f66 (Nat.ne_of_lt (Nat.lt_of_lt_of_le ((((f46.wr W47).wr W51).wr W55).ext E57).lt p62_0)) (by rcases hq with rfl | rfl | rfl | rfl <;> decide) (by rcases hq with rfl | rfl | rfl | rfl <;> decide) (own_w0 hq) (own_w4 hq) (by rcases hq with rfl | rfl | rfl | rfl <;> decide) (by rcases hq with rfl | rfl | rfl | rfl <;> exact Nat.le_of_ble_eq_true rfl)) hZ (hw _ (List.mem_of_getElem? (i := 28) rfl)) (hw _ (List.mem_of_getElem? (i := 6) rfl)) (by decide) (by decide)) q67a q67c (g := (mkF m 133 #[.val (.int p1), .val (.int p2), .val (.int p3), .val (.int p4), .val (.int p5), .val (.int w5), .val (.int r6), .val (.int c7), .val (.ref b1), .val (.ref b15), .val (.ref b29), .val (.ref b43), .val (.ref b57), .unset] [(.ref b1), (.ref b57)])) rfl (by rw [hml]; rfl) (Steps.refl _) (argsL := [(.ref b1)]) (rest := []) (lenOf pd__40_91I_41V rfl) rfl (by show 2 * 0 + _ ≤ _; exact Nat.le_of_eq rfl) (hb hby at_133) (fun _ _ => ⟨rfl, rfl, (by decide : 6 + 0 ≤ _), (by decide : 82 + 0 ≤ _)⟩)
  dsimp only [Pt.U, Pt.locs, Pt.cells, Pt.slots] at X67 l67 y67 z67 st67 hQ67
  subst l67 y67 z67
  obtain ⟨rfl, Nq67, Kc67, p67_0, p67_1, p67_2, p67_3⟩ := hQ67
  have K68 : Keep h0 T67.heap [] := K64.trans Kc67 (allS (Or.inr gzb57) (allS (Or.inr gzdt_62) all0))
  have N67 := Fr.app N62 Nq67
  have f69 : Exa Z T67.heap b57 "com/example/entropic_join/entropicjoin/Rows" := (f65.keep Kc67)
  have f70 : Arv Z T67.heap b15 k15 .int (4 : Int32) [(.int p3), (.int p4), (.int p1), (.int p2)] (.int (0 : Int32)) := ((((((((((((f27.ext E29).other W32 (Nat.ne_of_lt (Nat.lt_of_lt_of_le ((((xe15.wr W18).wr W21).wr W24).wr W27).lt (Nat.le_of_eq g29.symm)))).other W35 (Nat.ne_of_lt (Nat.lt_of_lt_of_le ((((xe15.wr W18).wr W21).wr W24).wr W27).lt (Nat.le_of_eq g29.symm)))).other W38 (Nat.ne_of_lt (Nat.lt_of_lt_of_le ((((xe15.wr W18).wr W21).wr W24).wr W27).lt (Nat.le_of_eq g29.symm)))).other W41 (Nat.ne_of_lt (Nat.lt_of_lt_of_le ((((xe15.wr W18).wr W21).wr W24).wr W27).lt (Nat.le_of_eq g29.symm)))).ext E43).other W47 (Nat.ne_of_lt (Nat.lt_of_lt_of_le (((((((((xe15.wr W18).wr W21).wr W24).wr W27).ext E29).wr W32).wr W35).wr W38).wr W41).lt (Nat.le_of_eq g43.symm)))).other W51 (Nat.ne_of_lt (Nat.lt_of_lt_of_le (((((((((xe15.wr W18).wr W21).wr W24).wr W27).ext E29).wr W32).wr W35).wr W38).wr W41).lt (Nat.le_of_eq g43.symm)))).other W55 (Nat.ne_of_lt (Nat.lt_of_lt_of_le (((((((((xe15.wr W18).wr W21).wr W24).wr W27).ext E29).wr W32).wr W35).wr W38).wr W41).lt (Nat.le_of_eq g43.symm)))).ext E57).keep Kc62 (ninS (Nat.ne_of_lt (Nat.lt_of_lt_of_le ((f50.wr W51).wr W55).lt (Nat.le_of_eq g57.symm))) nin0)).keep Kc67 (ninS (Nat.ne_of_lt (Nat.lt_of_lt_of_le ((f50.wr W51).wr W55).lt (Nat.le_of_eq g57.symm))) (ninS (Nat.ne_of_lt (Nat.lt_of_lt_of_le (((f50.wr W51).wr W55).ext E57).lt p62_0)) nin0)))
  obtain ⟨cq71, kq71, q71a, q71b, q71c⟩ := isOf hZ rfl f69
  obtain ⟨_, _, ⟨T71, L71, k71, n71⟩, -, X71, ⟨Lc71, hQ71, l71, y71, z71⟩, st71⟩ := X67.virtualBack hx (y := (⟨"com/example/entropic_join/entropicjoin/Rows", "add", "([I)V"⟩ : MethodName)) (z := (⟨"com/example/entropic_join/entropicjoin/Rows", "add", "([I)V"⟩ : MethodName)) hown (mvT hZ (hw _ (List.mem_of_getElem? (i := 24) rfl))) (mvT hZ (hw _ (List.mem_of_getElem? (i := 25) rfl))) (notFace_of_selects (args := #[]) (mvT hZ (hw _ (List.mem_of_getElem? (i := 27) rfl)))) (mvT hZ (hw _ (List.mem_of_getElem? (i := 27) rfl))) (mvT hZ (hw _ (List.mem_of_getElem? (i := 26) rfl))) (by decide) (backOf (W := 0) (rm_ad l Z a0 hw [] b57 b15 w5 dt_62 (1 : Int32) kd_62 (((w5.toInt64) * (16 : Int64)).toInt32) (own_upd (List.replicate 12 (.int (0 : Int32))) [(.int p1), (.int p2), (.int p3), (.int p4)] ((((0 : Int32).toInt64) * (w5.toInt64)).toInt32) w5) k15 p3 p4 p1 p2 T67.heap n0 (Nat.le_trans Z0 K68.1) f69 gnb57 p67_0 p67_1 p67_2 p67_3 gndt_62 f70 (Nat.ne_of_lt (Nat.lt_of_lt_of_le (((f50.wr W51).wr W55).ext E57).lt p62_0)) (by rcases hq with rfl | rfl | rfl | rfl <;> decide) (by rcases hq with rfl | rfl | rfl | rfl <;> decide) (own_w0 hq) (own_w4 hq) (by rcases hq with rfl | rfl | rfl | rfl <;> decide) (by rcases hq with rfl | rfl | rfl | rfl <;> exact Nat.le_of_ble_eq_true rfl)) hZ (hw _ (List.mem_of_getElem? (i := 28) rfl)) (hw _ (List.mem_of_getElem? (i := 6) rfl)) (by decide) (by decide)) q71a q71c (g := (mkF m 140 #[.val (.int p1), .val (.int p2), .val (.int p3), .val (.int p4), .val (.int p5), .val (.int w5), .val (.int r6), .val (.int c7), .val (.ref b1), .val (.ref b15), .val (.ref b29), .val (.ref b43), .val (.ref b57), .unset] [(.ref b15), (.ref b57)])) rfl (by rw [hml]; rfl) (Steps.refl _) (argsL := [(.ref b15)]) (rest := []) (lenOf pd__40_91I_41V rfl) rfl (by show 2 * 0 + _ ≤ _; exact Nat.le_of_eq rfl) (hb hby at_140) (fun _ _ => ⟨rfl, rfl, (by decide : 6 + 0 ≤ _), (by decide : 82 + 0 ≤ _)⟩)
  dsimp only [Pt.U, Pt.locs, Pt.cells, Pt.slots] at X71 l71 y71 z71 st71 hQ71
  subst l71 y71 z71
  obtain ⟨rfl, Nq71, Kc71, p71_0, p71_1, p71_2, p71_3⟩ := hQ71
  have K72 : Keep h0 T71.heap [] := K68.trans Kc71 (allS (Or.inr gzb57) (allS (Or.inr gzdt_62) all0))
  have N71 := Fr.app N67 Nq71
  have f73 : Exa Z T71.heap b57 "com/example/entropic_join/entropicjoin/Rows" := (f69.keep Kc71)
  have f74 : Arv Z T71.heap b29 k29 .int (4 : Int32) [(.int (p1 ^^^ (-1 : Int32))), (.int (p2 ^^^ (-1 : Int32))), (.int (p3 ^^^ (-1 : Int32))), (.int (p4 ^^^ (-1 : Int32)))] (.int (0 : Int32)) := ((((((((f41.ext E43).other W47 (Nat.ne_of_lt (Nat.lt_of_lt_of_le ((((xe29.wr W32).wr W35).wr W38).wr W41).lt (Nat.le_of_eq g43.symm)))).other W51 (Nat.ne_of_lt (Nat.lt_of_lt_of_le ((((xe29.wr W32).wr W35).wr W38).wr W41).lt (Nat.le_of_eq g43.symm)))).other W55 (Nat.ne_of_lt (Nat.lt_of_lt_of_le ((((xe29.wr W32).wr W35).wr W38).wr W41).lt (Nat.le_of_eq g43.symm)))).ext E57).keep Kc62 (ninS (Nat.ne_of_lt (Nat.lt_of_lt_of_le (f54.wr W55).lt (Nat.le_of_eq g57.symm))) nin0)).keep Kc67 (ninS (Nat.ne_of_lt (Nat.lt_of_lt_of_le (f54.wr W55).lt (Nat.le_of_eq g57.symm))) (ninS (Nat.ne_of_lt (Nat.lt_of_lt_of_le ((f54.wr W55).ext E57).lt p62_0)) nin0))).keep Kc71 (ninS (Nat.ne_of_lt (Nat.lt_of_lt_of_le (f54.wr W55).lt (Nat.le_of_eq g57.symm))) (ninS (Nat.ne_of_lt (Nat.lt_of_lt_of_le ((f54.wr W55).ext E57).lt p62_0)) nin0)))
  obtain ⟨cq75, kq75, q75a, q75b, q75c⟩ := isOf hZ rfl f73
  obtain ⟨_, _, ⟨T75, L75, k75, n75⟩, -, X75, ⟨Lc75, hQ75, l75, y75, z75⟩, st75⟩ := X71.virtualBack hx (y := (⟨"com/example/entropic_join/entropicjoin/Rows", "add", "([I)V"⟩ : MethodName)) (z := (⟨"com/example/entropic_join/entropicjoin/Rows", "add", "([I)V"⟩ : MethodName)) hown (mvT hZ (hw _ (List.mem_of_getElem? (i := 24) rfl))) (mvT hZ (hw _ (List.mem_of_getElem? (i := 25) rfl))) (notFace_of_selects (args := #[]) (mvT hZ (hw _ (List.mem_of_getElem? (i := 27) rfl)))) (mvT hZ (hw _ (List.mem_of_getElem? (i := 27) rfl))) (mvT hZ (hw _ (List.mem_of_getElem? (i := 26) rfl))) (by decide) (backOf (W := 0) (rm_ad l Z a0 hw [] b57 b29 w5 dt_62 (2 : Int32) kd_62 (((w5.toInt64) * (16 : Int64)).toInt32) (own_upd (own_upd (List.replicate 12 (.int (0 : Int32))) [(.int p1), (.int p2), (.int p3), (.int p4)] ((((0 : Int32).toInt64) * (w5.toInt64)).toInt32) w5) [(.int p3), (.int p4), (.int p1), (.int p2)] ((((1 : Int32).toInt64) * (w5.toInt64)).toInt32) w5) k29 (p1 ^^^ (-1 : Int32)) (p2 ^^^ (-1 : Int32)) (p3 ^^^ (-1 : Int32)) (p4 ^^^ (-1 : Int32)) T71.heap n0 (Nat.le_trans Z0 K72.1) f73 gnb57 p71_0 p71_1 p71_2 p71_3 gndt_62 f74 (Nat.ne_of_lt (Nat.lt_of_lt_of_le ((f54.wr W55).ext E57).lt p62_0)) (by rcases hq with rfl | rfl | rfl | rfl <;> decide) (by rcases hq with rfl | rfl | rfl | rfl <;> decide) (own_w0 hq) (own_w4 hq) (by rcases hq with rfl | rfl | rfl | rfl <;> decide) (by rcases hq with rfl | rfl | rfl | rfl <;> exact Nat.le_of_ble_eq_true rfl)) hZ (hw _ (List.mem_of_getElem? (i := 28) rfl)) (hw _ (List.mem_of_getElem? (i := 6) rfl)) (by decide) (by decide)) q75a q75c (g := (mkF m 147 #[.val (.int p1), .val (.int p2), .val (.int p3), .val (.int p4), .val (.int p5), .val (.int w5), .val (.int r6), .val (.int c7), .val (.ref b1), .val (.ref b15), .val (.ref b29), .val (.ref b43), .val (.ref b57), .unset] [(.ref b29), (.ref b57)])) rfl (by rw [hml]; rfl) (Steps.refl _) (argsL := [(.ref b29)]) (rest := []) (lenOf pd__40_91I_41V rfl) rfl (by show 2 * 0 + _ ≤ _; exact Nat.le_of_eq rfl) (hb hby at_147) (fun _ _ => ⟨rfl, rfl, (by decide : 6 + 0 ≤ _), (by decide : 82 + 0 ≤ _)⟩)
  dsimp only [Pt.U, Pt.locs, Pt.cells, Pt.slots] at X75 l75 y75 z75 st75 hQ75
  subst l75 y75 z75
  obtain ⟨rfl, Nq75, Kc75, p75_0, p75_1, p75_2, p75_3⟩ := hQ75
  have K76 : Keep h0 T75.heap [] := K72.trans Kc75 (allS (Or.inr gzb57) (allS (Or.inr gzdt_62) all0))
  have N75 := Fr.app N71 Nq75
  have f77 : Arv Z T75.heap b43 k43 (.array .int) (3 : Int32) [(.ref b1), (.ref b15), (.ref b29)] .null := (((((f55.ext E57).keep Kc62 (ninS (Nat.ne_of_lt (Nat.lt_of_lt_of_le (((xe43.wr W47).wr W51).wr W55).lt (Nat.le_of_eq g57.symm))) nin0)).keep Kc67 (ninS (Nat.ne_of_lt (Nat.lt_of_lt_of_le (((xe43.wr W47).wr W51).wr W55).lt (Nat.le_of_eq g57.symm))) (ninS (Nat.ne_of_lt (Nat.lt_of_lt_of_le ((((xe43.wr W47).wr W51).wr W55).ext E57).lt p62_0)) nin0))).keep Kc71 (ninS (Nat.ne_of_lt (Nat.lt_of_lt_of_le (((xe43.wr W47).wr W51).wr W55).lt (Nat.le_of_eq g57.symm))) (ninS (Nat.ne_of_lt (Nat.lt_of_lt_of_le ((((xe43.wr W47).wr W51).wr W55).ext E57).lt p62_0)) nin0))).keep Kc75 (ninS (Nat.ne_of_lt (Nat.lt_of_lt_of_le (((xe43.wr W47).wr W51).wr W55).lt (Nat.le_of_eq g57.symm))) (ninS (Nat.ne_of_lt (Nat.lt_of_lt_of_le ((((xe43.wr W47).wr W51).wr W55).ext E57).lt p62_0)) nin0)))
  obtain ⟨cl78, Ar78, q78, Sz78, Ng78, Hs78, Ft78⟩ := id f77
  have f80 : Arv Z T75.heap b1 k1 .int (4 : Int32) [(.int p1), (.int p2), (.int p3), (.int p4)] (.int (0 : Int32)) := (((f66.keep Kc67 (ninS (Nat.ne_of_lt (Nat.lt_of_lt_of_le (((f46.wr W47).wr W51).wr W55).lt (Nat.le_of_eq g57.symm))) (ninS (Nat.ne_of_lt (Nat.lt_of_lt_of_le ((((f46.wr W47).wr W51).wr W55).ext E57).lt p62_0)) nin0))).keep Kc71 (ninS (Nat.ne_of_lt (Nat.lt_of_lt_of_le (((f46.wr W47).wr W51).wr W55).lt (Nat.le_of_eq g57.symm))) (ninS (Nat.ne_of_lt (Nat.lt_of_lt_of_le ((((f46.wr W47).wr W51).wr W55).ext E57).lt p62_0)) nin0))).keep Kc75 (ninS (Nat.ne_of_lt (Nat.lt_of_lt_of_le (((f46.wr W47).wr W51).wr W55).lt (Nat.le_of_eq g57.symm))) (ninS (Nat.ne_of_lt (Nat.lt_of_lt_of_le ((((f46.wr W47).wr W51).wr W55).ext E57).lt p62_0)) nin0)))
  have f81 : Arv Z T75.heap b15 k15 .int (4 : Int32) [(.int p3), (.int p4), (.int p1), (.int p2)] (.int (0 : Int32)) := ((f70.keep Kc71 (ninS (Nat.ne_of_lt (Nat.lt_of_lt_of_le ((f50.wr W51).wr W55).lt (Nat.le_of_eq g57.symm))) (ninS (Nat.ne_of_lt (Nat.lt_of_lt_of_le (((f50.wr W51).wr W55).ext E57).lt p62_0)) nin0))).keep Kc75 (ninS (Nat.ne_of_lt (Nat.lt_of_lt_of_le ((f50.wr W51).wr W55).lt (Nat.le_of_eq g57.symm))) (ninS (Nat.ne_of_lt (Nat.lt_of_lt_of_le (((f50.wr W51).wr W55).ext E57).lt p62_0)) nin0)))
  have f82 : Arv Z T75.heap b29 k29 .int (4 : Int32) [(.int (p1 ^^^ (-1 : Int32))), (.int (p2 ^^^ (-1 : Int32))), (.int (p3 ^^^ (-1 : Int32))), (.int (p4 ^^^ (-1 : Int32)))] (.int (0 : Int32)) := (f74.keep Kc75 (ninS (Nat.ne_of_lt (Nat.lt_of_lt_of_le (f54.wr W55).lt (Nat.le_of_eq g57.symm))) (ninS (Nat.ne_of_lt (Nat.lt_of_lt_of_le ((f54.wr W55).ext E57).lt p62_0)) nin0)))
  obtain ⟨x79, kx79, ys79, q179, fx79, q279⟩ : ∃ (x : Addr) (kx : ClassId) (ys : List Value), ([(.ref b1), (.ref b15), (.ref b29)] : List Value).getD r6.toNatClampNeg .null = .ref x ∧ Arv Z T75.heap x kx .int (4 : Int32) ys (.int (0 : Int32)) ∧ ys.getD c7.toNatClampNeg (.int (0 : Int32)) = .int (own_val p1 p2 p3 p4 r6 c7) := by
    rcases hrr with rfl | rfl | rfl
    · exact ⟨b1, k1, _, rfl, f80, by rw [own_v0]; exact own_map [p1, p2, p3, p4] _⟩
    · exact ⟨b15, k15, _, rfl, f81, by rw [own_v1]; exact own_map [p3, p4, p1, p2] _⟩
    · exact ⟨b29, k29, _, rfl, f82, by rw [own_v2]; exact own_map [(p1 ^^^ (-1 : Int32)), (p2 ^^^ (-1 : Int32)), (p3 ^^^ (-1 : Int32)), (p4 ^^^ (-1 : Int32))] _⟩
  obtain ⟨cl83, Ar83, q83, Sz83, Ng83, Hs83, Ft83⟩ := id fx79
  have f85 : Exa Z T75.heap b57 "com/example/entropic_join/entropicjoin/Rows" := (f73.keep Kc75)
  obtain ⟨cq84, kq84, q84a, q84b, q84c⟩ := isOf hZ rfl f85
  obtain ⟨_, _, ⟨T84, L84, k84, n84⟩, -, X84, ⟨Lc84, hQ84, l84, y84, z84⟩, st84⟩ := X75.virtualBack hx (y := (⟨"com/example/entropic_join/entropicjoin/Rows", "get", "(II)I"⟩ : MethodName)) (z := (⟨"com/example/entropic_join/entropicjoin/Rows", "get", "(II)I"⟩ : MethodName)) hown (mvT hZ (hw _ (List.mem_of_getElem? (i := 43) rfl))) (mvT hZ (hw _ (List.mem_of_getElem? (i := 44) rfl))) (notFace_of_selects (args := #[]) (mvT hZ (hw _ (List.mem_of_getElem? (i := 46) rfl)))) (mvT hZ (hw _ (List.mem_of_getElem? (i := 46) rfl))) (mvT hZ (hw _ (List.mem_of_getElem? (i := 45) rfl))) (by decide) (backOf (W := 0) (rm_gt l Z a0 hw [] b57 r6 c7 w5 dt_62 kd_62 (((w5.toInt64) * (16 : Int64)).toInt32) (own_upd (own_upd (own_upd (List.replicate 12 (.int (0 : Int32))) [(.int p1), (.int p2), (.int p3), (.int p4)] ((((0 : Int32).toInt64) * (w5.toInt64)).toInt32) w5) [(.int p3), (.int p4), (.int p1), (.int p2)] ((((1 : Int32).toInt64) * (w5.toInt64)).toInt32) w5) [(.int (p1 ^^^ (-1 : Int32))), (.int (p2 ^^^ (-1 : Int32))), (.int (p3 ^^^ (-1 : Int32))), (.int (p4 ^^^ (-1 : Int32)))] ((((2 : Int32).toInt64) * (w5.toInt64)).toInt32) w5) (own_val p1 p2 p3 p4 r6 c7) T75.heap n0 (Nat.le_trans Z0 K76.1) p75_0 p75_1 p75_3 (own_ix hq hrr hcc).1 (own_ix hq hrr hcc).2 (own_final p1 p2 p3 p4 hq hrr hcc)) hZ (hw _ (List.mem_of_getElem? (i := 47) rfl)) (hw _ (List.mem_of_getElem? (i := 6) rfl)) (by decide) (by decide)) q84a q84c (g := (mkF m 166 #[.val (.int p1), .val (.int p2), .val (.int p3), .val (.int p4), .val (.int p5), .val (.int w5), .val (.int r6), .val (.int c7), .val (.ref b1), .val (.ref b15), .val (.ref b29), .val (.ref b43), .val (.ref b57), .val (.int (own_val p1 p2 p3 p4 r6 c7))] [(.int c7), (.int r6), (.ref b57)])) rfl (by rw [hml]; rfl) (Steps.refl _) (argsL := [(.int r6), (.int c7)]) (rest := []) (lenOf pd__40II_41I rfl) rfl (by show 2 * 0 + _ ≤ _; exact Nat.le_of_eq rfl) (hb hby at_166) (fun _ _ => ⟨rfl, rfl, (by decide : 6 + 0 ≤ _), (by decide : 82 + 0 ≤ _)⟩)
  dsimp only [Pt.U, Pt.locs, Pt.cells, Pt.slots] at X84 l84 y84 z84 st84 hQ84
  subst l84 y84 z84
  obtain ⟨rfl, Nq84, e84⟩ := hQ84
  have N84 := Fr.app N75 Nq84
  obtain ⟨fs, hr, hrun, hended, hW, hsame⟩ := X84.leave (v := some (.int (1 : Int32))) (fun h => by rw [Bd.returns] at h; cases h)
  refine ⟨_, _, pre0 _ ?_, hrun, hended, _, _, rfl, ?_, ⟨_, rfl⟩, hW, hsame.mono (by decide) (by decide)⟩
  · show Steps p.tables e below (s₁.setTop (mkF m 0 #[.val (.int p1), .val (.int p2), .val (.int p3), .val (.int p4), .val (.int p5), .unset, .unset, .unset, .unset, .unset, .unset, .unset, .unset, .unset] [])) _
    refine XS.iconst X0.here hx rfl (hb hby at_0) ?_
    show Steps p.tables e below (s₁.setTop (mkF m 1 #[.val (.int p1), .val (.int p2), .val (.int p3), .val (.int p4), .val (.int p5), .unset, .unset, .unset, .unset, .unset, .unset, .unset, .unset, .unset] [(.int (1 : Int32))])) _
    refine XS.iload X0.here hx rfl (hb hby at_1) rfl ?_
    show Steps p.tables e below (s₁.setTop (mkF m 3 #[.val (.int p1), .val (.int p2), .val (.int p3), .val (.int p4), .val (.int p5), .unset, .unset, .unset, .unset, .unset, .unset, .unset, .unset, .unset] [(.int p5), (.int (1 : Int32))])) _
    refine XS.iconst X0.here hx rfl (hb hby at_3) ?_
    show Steps p.tables e below (s₁.setTop (mkF m 4 #[.val (.int p1), .val (.int p2), .val (.int p3), .val (.int p4), .val (.int p5), .unset, .unset, .unset, .unset, .unset, .unset, .unset, .unset, .unset] [(.int (3 : Int32)), (.int p5), (.int (1 : Int32))])) _
    refine XS.iand X0.here hx rfl (hb hby at_4) rfl ?_
    show Steps p.tables e below (s₁.setTop (mkF m 5 #[.val (.int p1), .val (.int p2), .val (.int p3), .val (.int p4), .val (.int p5), .unset, .unset, .unset, .unset, .unset, .unset, .unset, .unset, .unset] [(.int (p5 &&& (3 : Int32))), (.int (1 : Int32))])) _
    refine XS.iadd X0.here hx rfl (hb hby at_5) rfl ?_
    show Steps p.tables e below (s₁.setTop (mkF m 6 #[.val (.int p1), .val (.int p2), .val (.int p3), .val (.int p4), .val (.int p5), .unset, .unset, .unset, .unset, .unset, .unset, .unset, .unset, .unset] [(.int ((1 : Int32) + (p5 &&& (3 : Int32))))])) _
    refine XS.istore X0.here hx rfl (hb hby at_6) rfl (l' := #[.val (.int p1), .val (.int p2), .val (.int p3), .val (.int p4), .val (.int p5), .val (.int ((1 : Int32) + (p5 &&& (3 : Int32)))), .unset, .unset, .unset, .unset, .unset, .unset, .unset, .unset]) rfl ?_
    show Steps p.tables e below (s₁.setTop (mkF m 8 #[.val (.int p1), .val (.int p2), .val (.int p3), .val (.int p4), .val (.int p5), .val (.int ((1 : Int32) + (p5 &&& (3 : Int32)))), .unset, .unset, .unset, .unset, .unset, .unset, .unset, .unset] [])) _
    refine XS.iload X0.here hx rfl (hb hby at_8) rfl ?_
    show Steps p.tables e below (s₁.setTop (mkF m 10 #[.val (.int p1), .val (.int p2), .val (.int p3), .val (.int p4), .val (.int p5), .val (.int ((1 : Int32) + (p5 &&& (3 : Int32)))), .unset, .unset, .unset, .unset, .unset, .unset, .unset, .unset] [(.int p5)])) _
    refine XS.iconst X0.here hx rfl (hb hby at_10) ?_
    show Steps p.tables e below (s₁.setTop (mkF m 11 #[.val (.int p1), .val (.int p2), .val (.int p3), .val (.int p4), .val (.int p5), .val (.int ((1 : Int32) + (p5 &&& (3 : Int32)))), .unset, .unset, .unset, .unset, .unset, .unset, .unset, .unset] [(.int (2 : Int32)), (.int p5)])) _
    refine XS.iushr X0.here hx rfl (hb hby at_11) rfl ?_
    show Steps p.tables e below (s₁.setTop (mkF m 12 #[.val (.int p1), .val (.int p2), .val (.int p3), .val (.int p4), .val (.int p5), .val (.int ((1 : Int32) + (p5 &&& (3 : Int32)))), .unset, .unset, .unset, .unset, .unset, .unset, .unset, .unset] [(.int ((p5.toUInt32 >>> ((2 : Int32) &&& 31).toUInt32).toInt32))])) _
    refine XS.iconst X0.here hx rfl (hb hby at_12) ?_
    show Steps p.tables e below (s₁.setTop (mkF m 13 #[.val (.int p1), .val (.int p2), .val (.int p3), .val (.int p4), .val (.int p5), .val (.int ((1 : Int32) + (p5 &&& (3 : Int32)))), .unset, .unset, .unset, .unset, .unset, .unset, .unset, .unset] [(.int (3 : Int32)), (.int ((p5.toUInt32 >>> ((2 : Int32) &&& 31).toUInt32).toInt32))])) _
    refine iremM X0 hx rfl (hb hby at_13) rfl (by decide : ¬ ((3 : Int32) = (0 : Int32))) ?_
    show Steps p.tables e below (s₁.setTop (mkF m 14 #[.val (.int p1), .val (.int p2), .val (.int p3), .val (.int p4), .val (.int p5), .val (.int ((1 : Int32) + (p5 &&& (3 : Int32)))), .unset, .unset, .unset, .unset, .unset, .unset, .unset, .unset] [(.int (((p5.toUInt32 >>> ((2 : Int32) &&& 31).toUInt32).toInt32) % (3 : Int32)))])) _
    refine XS.istore X0.here hx rfl (hb hby at_14) rfl (l' := #[.val (.int p1), .val (.int p2), .val (.int p3), .val (.int p4), .val (.int p5), .val (.int ((1 : Int32) + (p5 &&& (3 : Int32)))), .val (.int (((p5.toUInt32 >>> ((2 : Int32) &&& 31).toUInt32).toInt32) % (3 : Int32))), .unset, .unset, .unset, .unset, .unset, .unset, .unset]) rfl ?_
    show Steps p.tables e below (s₁.setTop (mkF m 16 #[.val (.int p1), .val (.int p2), .val (.int p3), .val (.int p4), .val (.int p5), .val (.int ((1 : Int32) + (p5 &&& (3 : Int32)))), .val (.int (((p5.toUInt32 >>> ((2 : Int32) &&& 31).toUInt32).toInt32) % (3 : Int32))), .unset, .unset, .unset, .unset, .unset, .unset, .unset] [])) _
    refine XS.iload X0.here hx rfl (hb hby at_16) rfl ?_
    show Steps p.tables e below (s₁.setTop (mkF m 18 #[.val (.int p1), .val (.int p2), .val (.int p3), .val (.int p4), .val (.int p5), .val (.int ((1 : Int32) + (p5 &&& (3 : Int32)))), .val (.int (((p5.toUInt32 >>> ((2 : Int32) &&& 31).toUInt32).toInt32) % (3 : Int32))), .unset, .unset, .unset, .unset, .unset, .unset, .unset] [(.int p5)])) _
    refine XS.bipush X0.here hx rfl (hb hby at_18) ?_
    show Steps p.tables e below (s₁.setTop (mkF m 20 #[.val (.int p1), .val (.int p2), .val (.int p3), .val (.int p4), .val (.int p5), .val (.int ((1 : Int32) + (p5 &&& (3 : Int32)))), .val (.int (((p5.toUInt32 >>> ((2 : Int32) &&& 31).toUInt32).toInt32) % (3 : Int32))), .unset, .unset, .unset, .unset, .unset, .unset, .unset] [(.int (8 : Int32)), (.int p5)])) _
    refine XS.iushr X0.here hx rfl (hb hby at_20) rfl ?_
    show Steps p.tables e below (s₁.setTop (mkF m 21 #[.val (.int p1), .val (.int p2), .val (.int p3), .val (.int p4), .val (.int p5), .val (.int ((1 : Int32) + (p5 &&& (3 : Int32)))), .val (.int (((p5.toUInt32 >>> ((2 : Int32) &&& 31).toUInt32).toInt32) % (3 : Int32))), .unset, .unset, .unset, .unset, .unset, .unset, .unset] [(.int ((p5.toUInt32 >>> ((8 : Int32) &&& 31).toUInt32).toInt32))])) _
    refine XS.iload X0.here hx rfl (hb hby at_21) rfl ?_
    show Steps p.tables e below (s₁.setTop (mkF m 23 #[.val (.int p1), .val (.int p2), .val (.int p3), .val (.int p4), .val (.int p5), .val (.int ((1 : Int32) + (p5 &&& (3 : Int32)))), .val (.int (((p5.toUInt32 >>> ((2 : Int32) &&& 31).toUInt32).toInt32) % (3 : Int32))), .unset, .unset, .unset, .unset, .unset, .unset, .unset] [(.int ((1 : Int32) + (p5 &&& (3 : Int32)))), (.int ((p5.toUInt32 >>> ((8 : Int32) &&& 31).toUInt32).toInt32))])) _
    refine iremM X0 hx rfl (hb hby at_23) rfl (own_s5 p5) ?_
    show Steps p.tables e below (s₁.setTop (mkF m 24 #[.val (.int p1), .val (.int p2), .val (.int p3), .val (.int p4), .val (.int p5), .val (.int ((1 : Int32) + (p5 &&& (3 : Int32)))), .val (.int (((p5.toUInt32 >>> ((2 : Int32) &&& 31).toUInt32).toInt32) % (3 : Int32))), .unset, .unset, .unset, .unset, .unset, .unset, .unset] [(.int (((p5.toUInt32 >>> ((8 : Int32) &&& 31).toUInt32).toInt32) % ((1 : Int32) + (p5 &&& (3 : Int32)))))])) _
    refine XS.istore X0.here hx rfl (hb hby at_24) rfl (l' := #[.val (.int p1), .val (.int p2), .val (.int p3), .val (.int p4), .val (.int p5), .val (.int ((1 : Int32) + (p5 &&& (3 : Int32)))), .val (.int (((p5.toUInt32 >>> ((2 : Int32) &&& 31).toUInt32).toInt32) % (3 : Int32))), .val (.int (((p5.toUInt32 >>> ((8 : Int32) &&& 31).toUInt32).toInt32) % ((1 : Int32) + (p5 &&& (3 : Int32))))), .unset, .unset, .unset, .unset, .unset, .unset]) rfl ?_
    show Steps p.tables e below (s₁.setTop (mkF m 26 #[.val (.int p1), .val (.int p2), .val (.int p3), .val (.int p4), .val (.int p5), .val (.int ((1 : Int32) + (p5 &&& (3 : Int32)))), .val (.int (((p5.toUInt32 >>> ((2 : Int32) &&& 31).toUInt32).toInt32) % (3 : Int32))), .val (.int (((p5.toUInt32 >>> ((8 : Int32) &&& 31).toUInt32).toInt32) % ((1 : Int32) + (p5 &&& (3 : Int32))))), .unset, .unset, .unset, .unset, .unset, .unset] [])) _
    rw [eqc7, eqr6, eqw5]
    show Steps p.tables e below (s₁.setTop (mkF m 26 #[.val (.int p1), .val (.int p2), .val (.int p3), .val (.int p4), .val (.int p5), .val (.int w5), .val (.int r6), .val (.int c7), .unset, .unset, .unset, .unset, .unset, .unset] [])) _
    refine XS.iconst X0.here hx rfl (hb hby at_26) ?_
    show Steps p.tables e below (s₁.setTop (mkF m 27 #[.val (.int p1), .val (.int p2), .val (.int p3), .val (.int p4), .val (.int p5), .val (.int w5), .val (.int r6), .val (.int c7), .unset, .unset, .unset, .unset, .unset, .unset] [(.int (4 : Int32))])) _
    refine st1 _ ?_
    show Steps p.tables e below (T1.setTop (mkF m 29 #[.val (.int p1), .val (.int p2), .val (.int p3), .val (.int p4), .val (.int p5), .val (.int w5), .val (.int r6), .val (.int c7), .unset, .unset, .unset, .unset, .unset, .unset] [(.ref b1)])) _
    refine XS.dup X1.here hx rfl (hb hby at_29) rfl rfl ?_
    show Steps p.tables e below (T1.setTop (mkF m 30 #[.val (.int p1), .val (.int p2), .val (.int p3), .val (.int p4), .val (.int p5), .val (.int w5), .val (.int r6), .val (.int c7), .unset, .unset, .unset, .unset, .unset, .unset] [(.ref b1), (.ref b1)])) _
    refine XS.iconst X1.here hx rfl (hb hby at_30) ?_
    show Steps p.tables e below (T1.setTop (mkF m 31 #[.val (.int p1), .val (.int p2), .val (.int p3), .val (.int p4), .val (.int p5), .val (.int w5), .val (.int r6), .val (.int c7), .unset, .unset, .unset, .unset, .unset, .unset] [(.int (0 : Int32)), (.ref b1), (.ref b1)])) _
    refine XS.iloadN X1.here hx rfl (hb hby at_31) rfl ?_
    show Steps p.tables e below (T1.setTop (mkF m 32 #[.val (.int p1), .val (.int p2), .val (.int p3), .val (.int p4), .val (.int p5), .val (.int w5), .val (.int r6), .val (.int c7), .unset, .unset, .unset, .unset, .unset, .unset] [(.int p1), (.int (0 : Int32)), (.ref b1), (.ref b1)])) _
    refine st4 _ ?_
    show Steps p.tables e below (T4.setTop (mkF m 33 #[.val (.int p1), .val (.int p2), .val (.int p3), .val (.int p4), .val (.int p5), .val (.int w5), .val (.int r6), .val (.int c7), .unset, .unset, .unset, .unset, .unset, .unset] [(.ref b1)])) _
    refine XS.dup X4.here hx rfl (hb hby at_33) rfl rfl ?_
    show Steps p.tables e below (T4.setTop (mkF m 34 #[.val (.int p1), .val (.int p2), .val (.int p3), .val (.int p4), .val (.int p5), .val (.int w5), .val (.int r6), .val (.int c7), .unset, .unset, .unset, .unset, .unset, .unset] [(.ref b1), (.ref b1)])) _
    refine XS.iconst X4.here hx rfl (hb hby at_34) ?_
    show Steps p.tables e below (T4.setTop (mkF m 35 #[.val (.int p1), .val (.int p2), .val (.int p3), .val (.int p4), .val (.int p5), .val (.int w5), .val (.int r6), .val (.int c7), .unset, .unset, .unset, .unset, .unset, .unset] [(.int (1 : Int32)), (.ref b1), (.ref b1)])) _
    refine XS.iloadN X4.here hx rfl (hb hby at_35) rfl ?_
    show Steps p.tables e below (T4.setTop (mkF m 36 #[.val (.int p1), .val (.int p2), .val (.int p3), .val (.int p4), .val (.int p5), .val (.int w5), .val (.int r6), .val (.int c7), .unset, .unset, .unset, .unset, .unset, .unset] [(.int p2), (.int (1 : Int32)), (.ref b1), (.ref b1)])) _
    refine st7 _ ?_
    show Steps p.tables e below (T7.setTop (mkF m 37 #[.val (.int p1), .val (.int p2), .val (.int p3), .val (.int p4), .val (.int p5), .val (.int w5), .val (.int r6), .val (.int c7), .unset, .unset, .unset, .unset, .unset, .unset] [(.ref b1)])) _
    refine XS.dup X7.here hx rfl (hb hby at_37) rfl rfl ?_
    show Steps p.tables e below (T7.setTop (mkF m 38 #[.val (.int p1), .val (.int p2), .val (.int p3), .val (.int p4), .val (.int p5), .val (.int w5), .val (.int r6), .val (.int c7), .unset, .unset, .unset, .unset, .unset, .unset] [(.ref b1), (.ref b1)])) _
    refine XS.iconst X7.here hx rfl (hb hby at_38) ?_
    show Steps p.tables e below (T7.setTop (mkF m 39 #[.val (.int p1), .val (.int p2), .val (.int p3), .val (.int p4), .val (.int p5), .val (.int w5), .val (.int r6), .val (.int c7), .unset, .unset, .unset, .unset, .unset, .unset] [(.int (2 : Int32)), (.ref b1), (.ref b1)])) _
    refine XS.iloadN X7.here hx rfl (hb hby at_39) rfl ?_
    show Steps p.tables e below (T7.setTop (mkF m 40 #[.val (.int p1), .val (.int p2), .val (.int p3), .val (.int p4), .val (.int p5), .val (.int w5), .val (.int r6), .val (.int c7), .unset, .unset, .unset, .unset, .unset, .unset] [(.int p3), (.int (2 : Int32)), (.ref b1), (.ref b1)])) _
    refine st10 _ ?_
    show Steps p.tables e below (T10.setTop (mkF m 41 #[.val (.int p1), .val (.int p2), .val (.int p3), .val (.int p4), .val (.int p5), .val (.int w5), .val (.int r6), .val (.int c7), .unset, .unset, .unset, .unset, .unset, .unset] [(.ref b1)])) _
    refine XS.dup X10.here hx rfl (hb hby at_41) rfl rfl ?_
    show Steps p.tables e below (T10.setTop (mkF m 42 #[.val (.int p1), .val (.int p2), .val (.int p3), .val (.int p4), .val (.int p5), .val (.int w5), .val (.int r6), .val (.int c7), .unset, .unset, .unset, .unset, .unset, .unset] [(.ref b1), (.ref b1)])) _
    refine XS.iconst X10.here hx rfl (hb hby at_42) ?_
    show Steps p.tables e below (T10.setTop (mkF m 43 #[.val (.int p1), .val (.int p2), .val (.int p3), .val (.int p4), .val (.int p5), .val (.int w5), .val (.int r6), .val (.int c7), .unset, .unset, .unset, .unset, .unset, .unset] [(.int (3 : Int32)), (.ref b1), (.ref b1)])) _
    refine XS.iloadN X10.here hx rfl (hb hby at_43) rfl ?_
    show Steps p.tables e below (T10.setTop (mkF m 44 #[.val (.int p1), .val (.int p2), .val (.int p3), .val (.int p4), .val (.int p5), .val (.int w5), .val (.int r6), .val (.int c7), .unset, .unset, .unset, .unset, .unset, .unset] [(.int p4), (.int (3 : Int32)), (.ref b1), (.ref b1)])) _
    refine st13 _ ?_
    show Steps p.tables e below (T13.setTop (mkF m 45 #[.val (.int p1), .val (.int p2), .val (.int p3), .val (.int p4), .val (.int p5), .val (.int w5), .val (.int r6), .val (.int c7), .unset, .unset, .unset, .unset, .unset, .unset] [(.ref b1)])) _
    refine XS.astore X13.here hx rfl (hb hby at_45) rfl rfl (l' := #[.val (.int p1), .val (.int p2), .val (.int p3), .val (.int p4), .val (.int p5), .val (.int w5), .val (.int r6), .val (.int c7), .val (.ref b1), .unset, .unset, .unset, .unset, .unset]) rfl ?_
    show Steps p.tables e below (T13.setTop (mkF m 47 #[.val (.int p1), .val (.int p2), .val (.int p3), .val (.int p4), .val (.int p5), .val (.int w5), .val (.int r6), .val (.int c7), .val (.ref b1), .unset, .unset, .unset, .unset, .unset] [])) _
    refine XS.iconst X13.here hx rfl (hb hby at_47) ?_
    show Steps p.tables e below (T13.setTop (mkF m 48 #[.val (.int p1), .val (.int p2), .val (.int p3), .val (.int p4), .val (.int p5), .val (.int w5), .val (.int r6), .val (.int c7), .val (.ref b1), .unset, .unset, .unset, .unset, .unset] [(.int (4 : Int32))])) _
    refine st15 _ ?_
    show Steps p.tables e below (T15.setTop (mkF m 50 #[.val (.int p1), .val (.int p2), .val (.int p3), .val (.int p4), .val (.int p5), .val (.int w5), .val (.int r6), .val (.int c7), .val (.ref b1), .unset, .unset, .unset, .unset, .unset] [(.ref b15)])) _
    refine XS.dup X15.here hx rfl (hb hby at_50) rfl rfl ?_
    show Steps p.tables e below (T15.setTop (mkF m 51 #[.val (.int p1), .val (.int p2), .val (.int p3), .val (.int p4), .val (.int p5), .val (.int w5), .val (.int r6), .val (.int c7), .val (.ref b1), .unset, .unset, .unset, .unset, .unset] [(.ref b15), (.ref b15)])) _
    refine XS.iconst X15.here hx rfl (hb hby at_51) ?_
    show Steps p.tables e below (T15.setTop (mkF m 52 #[.val (.int p1), .val (.int p2), .val (.int p3), .val (.int p4), .val (.int p5), .val (.int w5), .val (.int r6), .val (.int c7), .val (.ref b1), .unset, .unset, .unset, .unset, .unset] [(.int (0 : Int32)), (.ref b15), (.ref b15)])) _
    refine XS.iloadN X15.here hx rfl (hb hby at_52) rfl ?_
    show Steps p.tables e below (T15.setTop (mkF m 53 #[.val (.int p1), .val (.int p2), .val (.int p3), .val (.int p4), .val (.int p5), .val (.int w5), .val (.int r6), .val (.int c7), .val (.ref b1), .unset, .unset, .unset, .unset, .unset] [(.int p3), (.int (0 : Int32)), (.ref b15), (.ref b15)])) _
    refine st18 _ ?_
    show Steps p.tables e below (T18.setTop (mkF m 54 #[.val (.int p1), .val (.int p2), .val (.int p3), .val (.int p4), .val (.int p5), .val (.int w5), .val (.int r6), .val (.int c7), .val (.ref b1), .unset, .unset, .unset, .unset, .unset] [(.ref b15)])) _
    refine XS.dup X18.here hx rfl (hb hby at_54) rfl rfl ?_
    show Steps p.tables e below (T18.setTop (mkF m 55 #[.val (.int p1), .val (.int p2), .val (.int p3), .val (.int p4), .val (.int p5), .val (.int w5), .val (.int r6), .val (.int c7), .val (.ref b1), .unset, .unset, .unset, .unset, .unset] [(.ref b15), (.ref b15)])) _
    refine XS.iconst X18.here hx rfl (hb hby at_55) ?_
    show Steps p.tables e below (T18.setTop (mkF m 56 #[.val (.int p1), .val (.int p2), .val (.int p3), .val (.int p4), .val (.int p5), .val (.int w5), .val (.int r6), .val (.int c7), .val (.ref b1), .unset, .unset, .unset, .unset, .unset] [(.int (1 : Int32)), (.ref b15), (.ref b15)])) _
    refine XS.iloadN X18.here hx rfl (hb hby at_56) rfl ?_
    show Steps p.tables e below (T18.setTop (mkF m 57 #[.val (.int p1), .val (.int p2), .val (.int p3), .val (.int p4), .val (.int p5), .val (.int w5), .val (.int r6), .val (.int c7), .val (.ref b1), .unset, .unset, .unset, .unset, .unset] [(.int p4), (.int (1 : Int32)), (.ref b15), (.ref b15)])) _
    refine st21 _ ?_
    show Steps p.tables e below (T21.setTop (mkF m 58 #[.val (.int p1), .val (.int p2), .val (.int p3), .val (.int p4), .val (.int p5), .val (.int w5), .val (.int r6), .val (.int c7), .val (.ref b1), .unset, .unset, .unset, .unset, .unset] [(.ref b15)])) _
    refine XS.dup X21.here hx rfl (hb hby at_58) rfl rfl ?_
    show Steps p.tables e below (T21.setTop (mkF m 59 #[.val (.int p1), .val (.int p2), .val (.int p3), .val (.int p4), .val (.int p5), .val (.int w5), .val (.int r6), .val (.int c7), .val (.ref b1), .unset, .unset, .unset, .unset, .unset] [(.ref b15), (.ref b15)])) _
    refine XS.iconst X21.here hx rfl (hb hby at_59) ?_
    show Steps p.tables e below (T21.setTop (mkF m 60 #[.val (.int p1), .val (.int p2), .val (.int p3), .val (.int p4), .val (.int p5), .val (.int w5), .val (.int r6), .val (.int c7), .val (.ref b1), .unset, .unset, .unset, .unset, .unset] [(.int (2 : Int32)), (.ref b15), (.ref b15)])) _
    refine XS.iloadN X21.here hx rfl (hb hby at_60) rfl ?_
    show Steps p.tables e below (T21.setTop (mkF m 61 #[.val (.int p1), .val (.int p2), .val (.int p3), .val (.int p4), .val (.int p5), .val (.int w5), .val (.int r6), .val (.int c7), .val (.ref b1), .unset, .unset, .unset, .unset, .unset] [(.int p1), (.int (2 : Int32)), (.ref b15), (.ref b15)])) _
    refine st24 _ ?_
    show Steps p.tables e below (T24.setTop (mkF m 62 #[.val (.int p1), .val (.int p2), .val (.int p3), .val (.int p4), .val (.int p5), .val (.int w5), .val (.int r6), .val (.int c7), .val (.ref b1), .unset, .unset, .unset, .unset, .unset] [(.ref b15)])) _
    refine XS.dup X24.here hx rfl (hb hby at_62) rfl rfl ?_
    show Steps p.tables e below (T24.setTop (mkF m 63 #[.val (.int p1), .val (.int p2), .val (.int p3), .val (.int p4), .val (.int p5), .val (.int w5), .val (.int r6), .val (.int c7), .val (.ref b1), .unset, .unset, .unset, .unset, .unset] [(.ref b15), (.ref b15)])) _
    refine XS.iconst X24.here hx rfl (hb hby at_63) ?_
    show Steps p.tables e below (T24.setTop (mkF m 64 #[.val (.int p1), .val (.int p2), .val (.int p3), .val (.int p4), .val (.int p5), .val (.int w5), .val (.int r6), .val (.int c7), .val (.ref b1), .unset, .unset, .unset, .unset, .unset] [(.int (3 : Int32)), (.ref b15), (.ref b15)])) _
    refine XS.iloadN X24.here hx rfl (hb hby at_64) rfl ?_
    show Steps p.tables e below (T24.setTop (mkF m 65 #[.val (.int p1), .val (.int p2), .val (.int p3), .val (.int p4), .val (.int p5), .val (.int w5), .val (.int r6), .val (.int c7), .val (.ref b1), .unset, .unset, .unset, .unset, .unset] [(.int p2), (.int (3 : Int32)), (.ref b15), (.ref b15)])) _
    refine st27 _ ?_
    show Steps p.tables e below (T27.setTop (mkF m 66 #[.val (.int p1), .val (.int p2), .val (.int p3), .val (.int p4), .val (.int p5), .val (.int w5), .val (.int r6), .val (.int c7), .val (.ref b1), .unset, .unset, .unset, .unset, .unset] [(.ref b15)])) _
    refine XS.astore X27.here hx rfl (hb hby at_66) rfl rfl (l' := #[.val (.int p1), .val (.int p2), .val (.int p3), .val (.int p4), .val (.int p5), .val (.int w5), .val (.int r6), .val (.int c7), .val (.ref b1), .val (.ref b15), .unset, .unset, .unset, .unset]) rfl ?_
    show Steps p.tables e below (T27.setTop (mkF m 68 #[.val (.int p1), .val (.int p2), .val (.int p3), .val (.int p4), .val (.int p5), .val (.int w5), .val (.int r6), .val (.int c7), .val (.ref b1), .val (.ref b15), .unset, .unset, .unset, .unset] [])) _
    refine XS.iconst X27.here hx rfl (hb hby at_68) ?_
    show Steps p.tables e below (T27.setTop (mkF m 69 #[.val (.int p1), .val (.int p2), .val (.int p3), .val (.int p4), .val (.int p5), .val (.int w5), .val (.int r6), .val (.int c7), .val (.ref b1), .val (.ref b15), .unset, .unset, .unset, .unset] [(.int (4 : Int32))])) _
    refine st29 _ ?_
    show Steps p.tables e below (T29.setTop (mkF m 71 #[.val (.int p1), .val (.int p2), .val (.int p3), .val (.int p4), .val (.int p5), .val (.int w5), .val (.int r6), .val (.int c7), .val (.ref b1), .val (.ref b15), .unset, .unset, .unset, .unset] [(.ref b29)])) _
    refine XS.dup X29.here hx rfl (hb hby at_71) rfl rfl ?_
    show Steps p.tables e below (T29.setTop (mkF m 72 #[.val (.int p1), .val (.int p2), .val (.int p3), .val (.int p4), .val (.int p5), .val (.int w5), .val (.int r6), .val (.int c7), .val (.ref b1), .val (.ref b15), .unset, .unset, .unset, .unset] [(.ref b29), (.ref b29)])) _
    refine XS.iconst X29.here hx rfl (hb hby at_72) ?_
    show Steps p.tables e below (T29.setTop (mkF m 73 #[.val (.int p1), .val (.int p2), .val (.int p3), .val (.int p4), .val (.int p5), .val (.int w5), .val (.int r6), .val (.int c7), .val (.ref b1), .val (.ref b15), .unset, .unset, .unset, .unset] [(.int (0 : Int32)), (.ref b29), (.ref b29)])) _
    refine XS.iloadN X29.here hx rfl (hb hby at_73) rfl ?_
    show Steps p.tables e below (T29.setTop (mkF m 74 #[.val (.int p1), .val (.int p2), .val (.int p3), .val (.int p4), .val (.int p5), .val (.int w5), .val (.int r6), .val (.int c7), .val (.ref b1), .val (.ref b15), .unset, .unset, .unset, .unset] [(.int p1), (.int (0 : Int32)), (.ref b29), (.ref b29)])) _
    refine XS.iconst X29.here hx rfl (hb hby at_74) ?_
    show Steps p.tables e below (T29.setTop (mkF m 75 #[.val (.int p1), .val (.int p2), .val (.int p3), .val (.int p4), .val (.int p5), .val (.int w5), .val (.int r6), .val (.int c7), .val (.ref b1), .val (.ref b15), .unset, .unset, .unset, .unset] [(.int (-1 : Int32)), (.int p1), (.int (0 : Int32)), (.ref b29), (.ref b29)])) _
    refine XS.ixor X29.here hx rfl (hb hby at_75) rfl ?_
    show Steps p.tables e below (T29.setTop (mkF m 76 #[.val (.int p1), .val (.int p2), .val (.int p3), .val (.int p4), .val (.int p5), .val (.int w5), .val (.int r6), .val (.int c7), .val (.ref b1), .val (.ref b15), .unset, .unset, .unset, .unset] [(.int (p1 ^^^ (-1 : Int32))), (.int (0 : Int32)), (.ref b29), (.ref b29)])) _
    refine st32 _ ?_
    show Steps p.tables e below (T32.setTop (mkF m 77 #[.val (.int p1), .val (.int p2), .val (.int p3), .val (.int p4), .val (.int p5), .val (.int w5), .val (.int r6), .val (.int c7), .val (.ref b1), .val (.ref b15), .unset, .unset, .unset, .unset] [(.ref b29)])) _
    refine XS.dup X32.here hx rfl (hb hby at_77) rfl rfl ?_
    show Steps p.tables e below (T32.setTop (mkF m 78 #[.val (.int p1), .val (.int p2), .val (.int p3), .val (.int p4), .val (.int p5), .val (.int w5), .val (.int r6), .val (.int c7), .val (.ref b1), .val (.ref b15), .unset, .unset, .unset, .unset] [(.ref b29), (.ref b29)])) _
    refine XS.iconst X32.here hx rfl (hb hby at_78) ?_
    show Steps p.tables e below (T32.setTop (mkF m 79 #[.val (.int p1), .val (.int p2), .val (.int p3), .val (.int p4), .val (.int p5), .val (.int w5), .val (.int r6), .val (.int c7), .val (.ref b1), .val (.ref b15), .unset, .unset, .unset, .unset] [(.int (1 : Int32)), (.ref b29), (.ref b29)])) _
    refine XS.iloadN X32.here hx rfl (hb hby at_79) rfl ?_
    show Steps p.tables e below (T32.setTop (mkF m 80 #[.val (.int p1), .val (.int p2), .val (.int p3), .val (.int p4), .val (.int p5), .val (.int w5), .val (.int r6), .val (.int c7), .val (.ref b1), .val (.ref b15), .unset, .unset, .unset, .unset] [(.int p2), (.int (1 : Int32)), (.ref b29), (.ref b29)])) _
    refine XS.iconst X32.here hx rfl (hb hby at_80) ?_
    show Steps p.tables e below (T32.setTop (mkF m 81 #[.val (.int p1), .val (.int p2), .val (.int p3), .val (.int p4), .val (.int p5), .val (.int w5), .val (.int r6), .val (.int c7), .val (.ref b1), .val (.ref b15), .unset, .unset, .unset, .unset] [(.int (-1 : Int32)), (.int p2), (.int (1 : Int32)), (.ref b29), (.ref b29)])) _
    refine XS.ixor X32.here hx rfl (hb hby at_81) rfl ?_
    show Steps p.tables e below (T32.setTop (mkF m 82 #[.val (.int p1), .val (.int p2), .val (.int p3), .val (.int p4), .val (.int p5), .val (.int w5), .val (.int r6), .val (.int c7), .val (.ref b1), .val (.ref b15), .unset, .unset, .unset, .unset] [(.int (p2 ^^^ (-1 : Int32))), (.int (1 : Int32)), (.ref b29), (.ref b29)])) _
    refine st35 _ ?_
    show Steps p.tables e below (T35.setTop (mkF m 83 #[.val (.int p1), .val (.int p2), .val (.int p3), .val (.int p4), .val (.int p5), .val (.int w5), .val (.int r6), .val (.int c7), .val (.ref b1), .val (.ref b15), .unset, .unset, .unset, .unset] [(.ref b29)])) _
    refine XS.dup X35.here hx rfl (hb hby at_83) rfl rfl ?_
    show Steps p.tables e below (T35.setTop (mkF m 84 #[.val (.int p1), .val (.int p2), .val (.int p3), .val (.int p4), .val (.int p5), .val (.int w5), .val (.int r6), .val (.int c7), .val (.ref b1), .val (.ref b15), .unset, .unset, .unset, .unset] [(.ref b29), (.ref b29)])) _
    refine XS.iconst X35.here hx rfl (hb hby at_84) ?_
    show Steps p.tables e below (T35.setTop (mkF m 85 #[.val (.int p1), .val (.int p2), .val (.int p3), .val (.int p4), .val (.int p5), .val (.int w5), .val (.int r6), .val (.int c7), .val (.ref b1), .val (.ref b15), .unset, .unset, .unset, .unset] [(.int (2 : Int32)), (.ref b29), (.ref b29)])) _
    refine XS.iloadN X35.here hx rfl (hb hby at_85) rfl ?_
    show Steps p.tables e below (T35.setTop (mkF m 86 #[.val (.int p1), .val (.int p2), .val (.int p3), .val (.int p4), .val (.int p5), .val (.int w5), .val (.int r6), .val (.int c7), .val (.ref b1), .val (.ref b15), .unset, .unset, .unset, .unset] [(.int p3), (.int (2 : Int32)), (.ref b29), (.ref b29)])) _
    refine XS.iconst X35.here hx rfl (hb hby at_86) ?_
    show Steps p.tables e below (T35.setTop (mkF m 87 #[.val (.int p1), .val (.int p2), .val (.int p3), .val (.int p4), .val (.int p5), .val (.int w5), .val (.int r6), .val (.int c7), .val (.ref b1), .val (.ref b15), .unset, .unset, .unset, .unset] [(.int (-1 : Int32)), (.int p3), (.int (2 : Int32)), (.ref b29), (.ref b29)])) _
    refine XS.ixor X35.here hx rfl (hb hby at_87) rfl ?_
    show Steps p.tables e below (T35.setTop (mkF m 88 #[.val (.int p1), .val (.int p2), .val (.int p3), .val (.int p4), .val (.int p5), .val (.int w5), .val (.int r6), .val (.int c7), .val (.ref b1), .val (.ref b15), .unset, .unset, .unset, .unset] [(.int (p3 ^^^ (-1 : Int32))), (.int (2 : Int32)), (.ref b29), (.ref b29)])) _
    refine st38 _ ?_
    show Steps p.tables e below (T38.setTop (mkF m 89 #[.val (.int p1), .val (.int p2), .val (.int p3), .val (.int p4), .val (.int p5), .val (.int w5), .val (.int r6), .val (.int c7), .val (.ref b1), .val (.ref b15), .unset, .unset, .unset, .unset] [(.ref b29)])) _
    refine XS.dup X38.here hx rfl (hb hby at_89) rfl rfl ?_
    show Steps p.tables e below (T38.setTop (mkF m 90 #[.val (.int p1), .val (.int p2), .val (.int p3), .val (.int p4), .val (.int p5), .val (.int w5), .val (.int r6), .val (.int c7), .val (.ref b1), .val (.ref b15), .unset, .unset, .unset, .unset] [(.ref b29), (.ref b29)])) _
    refine XS.iconst X38.here hx rfl (hb hby at_90) ?_
    show Steps p.tables e below (T38.setTop (mkF m 91 #[.val (.int p1), .val (.int p2), .val (.int p3), .val (.int p4), .val (.int p5), .val (.int w5), .val (.int r6), .val (.int c7), .val (.ref b1), .val (.ref b15), .unset, .unset, .unset, .unset] [(.int (3 : Int32)), (.ref b29), (.ref b29)])) _
    refine XS.iloadN X38.here hx rfl (hb hby at_91) rfl ?_
    show Steps p.tables e below (T38.setTop (mkF m 92 #[.val (.int p1), .val (.int p2), .val (.int p3), .val (.int p4), .val (.int p5), .val (.int w5), .val (.int r6), .val (.int c7), .val (.ref b1), .val (.ref b15), .unset, .unset, .unset, .unset] [(.int p4), (.int (3 : Int32)), (.ref b29), (.ref b29)])) _
    refine XS.iconst X38.here hx rfl (hb hby at_92) ?_
    show Steps p.tables e below (T38.setTop (mkF m 93 #[.val (.int p1), .val (.int p2), .val (.int p3), .val (.int p4), .val (.int p5), .val (.int w5), .val (.int r6), .val (.int c7), .val (.ref b1), .val (.ref b15), .unset, .unset, .unset, .unset] [(.int (-1 : Int32)), (.int p4), (.int (3 : Int32)), (.ref b29), (.ref b29)])) _
    refine XS.ixor X38.here hx rfl (hb hby at_93) rfl ?_
    show Steps p.tables e below (T38.setTop (mkF m 94 #[.val (.int p1), .val (.int p2), .val (.int p3), .val (.int p4), .val (.int p5), .val (.int w5), .val (.int r6), .val (.int c7), .val (.ref b1), .val (.ref b15), .unset, .unset, .unset, .unset] [(.int (p4 ^^^ (-1 : Int32))), (.int (3 : Int32)), (.ref b29), (.ref b29)])) _
    refine st41 _ ?_
    show Steps p.tables e below (T41.setTop (mkF m 95 #[.val (.int p1), .val (.int p2), .val (.int p3), .val (.int p4), .val (.int p5), .val (.int w5), .val (.int r6), .val (.int c7), .val (.ref b1), .val (.ref b15), .unset, .unset, .unset, .unset] [(.ref b29)])) _
    refine XS.astore X41.here hx rfl (hb hby at_95) rfl rfl (l' := #[.val (.int p1), .val (.int p2), .val (.int p3), .val (.int p4), .val (.int p5), .val (.int w5), .val (.int r6), .val (.int c7), .val (.ref b1), .val (.ref b15), .val (.ref b29), .unset, .unset, .unset]) rfl ?_
    show Steps p.tables e below (T41.setTop (mkF m 97 #[.val (.int p1), .val (.int p2), .val (.int p3), .val (.int p4), .val (.int p5), .val (.int w5), .val (.int r6), .val (.int c7), .val (.ref b1), .val (.ref b15), .val (.ref b29), .unset, .unset, .unset] [])) _
    refine XS.iconst X41.here hx rfl (hb hby at_97) ?_
    show Steps p.tables e below (T41.setTop (mkF m 98 #[.val (.int p1), .val (.int p2), .val (.int p3), .val (.int p4), .val (.int p5), .val (.int w5), .val (.int r6), .val (.int c7), .val (.ref b1), .val (.ref b15), .val (.ref b29), .unset, .unset, .unset] [(.int (3 : Int32))])) _
    refine st43 _ ?_
    show Steps p.tables e below (T43.setTop (mkF m 101 #[.val (.int p1), .val (.int p2), .val (.int p3), .val (.int p4), .val (.int p5), .val (.int w5), .val (.int r6), .val (.int c7), .val (.ref b1), .val (.ref b15), .val (.ref b29), .unset, .unset, .unset] [(.ref b43)])) _
    refine XS.dup X43.here hx rfl (hb hby at_101) rfl rfl ?_
    show Steps p.tables e below (T43.setTop (mkF m 102 #[.val (.int p1), .val (.int p2), .val (.int p3), .val (.int p4), .val (.int p5), .val (.int w5), .val (.int r6), .val (.int c7), .val (.ref b1), .val (.ref b15), .val (.ref b29), .unset, .unset, .unset] [(.ref b43), (.ref b43)])) _
    refine XS.iconst X43.here hx rfl (hb hby at_102) ?_
    show Steps p.tables e below (T43.setTop (mkF m 103 #[.val (.int p1), .val (.int p2), .val (.int p3), .val (.int p4), .val (.int p5), .val (.int w5), .val (.int r6), .val (.int c7), .val (.ref b1), .val (.ref b15), .val (.ref b29), .unset, .unset, .unset] [(.int (0 : Int32)), (.ref b43), (.ref b43)])) _
    refine XS.aload X43.here hx rfl (hb hby at_103) rfl rfl ?_
    show Steps p.tables e below (T43.setTop (mkF m 105 #[.val (.int p1), .val (.int p2), .val (.int p3), .val (.int p4), .val (.int p5), .val (.int w5), .val (.int r6), .val (.int c7), .val (.ref b1), .val (.ref b15), .val (.ref b29), .unset, .unset, .unset] [(.ref b1), (.int (0 : Int32)), (.ref b43), (.ref b43)])) _
    refine st47 _ ?_
    show Steps p.tables e below (T47.setTop (mkF m 106 #[.val (.int p1), .val (.int p2), .val (.int p3), .val (.int p4), .val (.int p5), .val (.int w5), .val (.int r6), .val (.int c7), .val (.ref b1), .val (.ref b15), .val (.ref b29), .unset, .unset, .unset] [(.ref b43)])) _
    refine XS.dup X47.here hx rfl (hb hby at_106) rfl rfl ?_
    show Steps p.tables e below (T47.setTop (mkF m 107 #[.val (.int p1), .val (.int p2), .val (.int p3), .val (.int p4), .val (.int p5), .val (.int w5), .val (.int r6), .val (.int c7), .val (.ref b1), .val (.ref b15), .val (.ref b29), .unset, .unset, .unset] [(.ref b43), (.ref b43)])) _
    refine XS.iconst X47.here hx rfl (hb hby at_107) ?_
    show Steps p.tables e below (T47.setTop (mkF m 108 #[.val (.int p1), .val (.int p2), .val (.int p3), .val (.int p4), .val (.int p5), .val (.int w5), .val (.int r6), .val (.int c7), .val (.ref b1), .val (.ref b15), .val (.ref b29), .unset, .unset, .unset] [(.int (1 : Int32)), (.ref b43), (.ref b43)])) _
    refine XS.aload X47.here hx rfl (hb hby at_108) rfl rfl ?_
    show Steps p.tables e below (T47.setTop (mkF m 110 #[.val (.int p1), .val (.int p2), .val (.int p3), .val (.int p4), .val (.int p5), .val (.int w5), .val (.int r6), .val (.int c7), .val (.ref b1), .val (.ref b15), .val (.ref b29), .unset, .unset, .unset] [(.ref b15), (.int (1 : Int32)), (.ref b43), (.ref b43)])) _
    refine st51 _ ?_
    show Steps p.tables e below (T51.setTop (mkF m 111 #[.val (.int p1), .val (.int p2), .val (.int p3), .val (.int p4), .val (.int p5), .val (.int w5), .val (.int r6), .val (.int c7), .val (.ref b1), .val (.ref b15), .val (.ref b29), .unset, .unset, .unset] [(.ref b43)])) _
    refine XS.dup X51.here hx rfl (hb hby at_111) rfl rfl ?_
    show Steps p.tables e below (T51.setTop (mkF m 112 #[.val (.int p1), .val (.int p2), .val (.int p3), .val (.int p4), .val (.int p5), .val (.int w5), .val (.int r6), .val (.int c7), .val (.ref b1), .val (.ref b15), .val (.ref b29), .unset, .unset, .unset] [(.ref b43), (.ref b43)])) _
    refine XS.iconst X51.here hx rfl (hb hby at_112) ?_
    show Steps p.tables e below (T51.setTop (mkF m 113 #[.val (.int p1), .val (.int p2), .val (.int p3), .val (.int p4), .val (.int p5), .val (.int w5), .val (.int r6), .val (.int c7), .val (.ref b1), .val (.ref b15), .val (.ref b29), .unset, .unset, .unset] [(.int (2 : Int32)), (.ref b43), (.ref b43)])) _
    refine XS.aload X51.here hx rfl (hb hby at_113) rfl rfl ?_
    show Steps p.tables e below (T51.setTop (mkF m 115 #[.val (.int p1), .val (.int p2), .val (.int p3), .val (.int p4), .val (.int p5), .val (.int w5), .val (.int r6), .val (.int c7), .val (.ref b1), .val (.ref b15), .val (.ref b29), .unset, .unset, .unset] [(.ref b29), (.int (2 : Int32)), (.ref b43), (.ref b43)])) _
    refine st55 _ ?_
    show Steps p.tables e below (T55.setTop (mkF m 116 #[.val (.int p1), .val (.int p2), .val (.int p3), .val (.int p4), .val (.int p5), .val (.int w5), .val (.int r6), .val (.int c7), .val (.ref b1), .val (.ref b15), .val (.ref b29), .unset, .unset, .unset] [(.ref b43)])) _
    refine XS.astore X55.here hx rfl (hb hby at_116) rfl rfl (l' := #[.val (.int p1), .val (.int p2), .val (.int p3), .val (.int p4), .val (.int p5), .val (.int w5), .val (.int r6), .val (.int c7), .val (.ref b1), .val (.ref b15), .val (.ref b29), .val (.ref b43), .unset, .unset]) rfl ?_
    show Steps p.tables e below (T55.setTop (mkF m 118 #[.val (.int p1), .val (.int p2), .val (.int p3), .val (.int p4), .val (.int p5), .val (.int w5), .val (.int r6), .val (.int c7), .val (.ref b1), .val (.ref b15), .val (.ref b29), .val (.ref b43), .unset, .unset] [])) _
    refine st57 _ ?_
    show Steps p.tables e below (T57.setTop (mkF m 121 #[.val (.int p1), .val (.int p2), .val (.int p3), .val (.int p4), .val (.int p5), .val (.int w5), .val (.int r6), .val (.int c7), .val (.ref b1), .val (.ref b15), .val (.ref b29), .val (.ref b43), .unset, .unset] [(.ref b57)])) _
    refine XS.dup X57.here hx rfl (hb hby at_121) rfl rfl ?_
    show Steps p.tables e below (T57.setTop (mkF m 122 #[.val (.int p1), .val (.int p2), .val (.int p3), .val (.int p4), .val (.int p5), .val (.int w5), .val (.int r6), .val (.int c7), .val (.ref b1), .val (.ref b15), .val (.ref b29), .val (.ref b43), .unset, .unset] [(.ref b57), (.ref b57)])) _
    refine XS.iload X57.here hx rfl (hb hby at_122) rfl ?_
    show Steps p.tables e below (T57.setTop (mkF m 124 #[.val (.int p1), .val (.int p2), .val (.int p3), .val (.int p4), .val (.int p5), .val (.int w5), .val (.int r6), .val (.int c7), .val (.ref b1), .val (.ref b15), .val (.ref b29), .val (.ref b43), .unset, .unset] [(.int w5), (.ref b57), (.ref b57)])) _
    refine st62.trans ?_
    show Steps p.tables e below (T62.setTop (mkF m 127 #[.val (.int p1), .val (.int p2), .val (.int p3), .val (.int p4), .val (.int p5), .val (.int w5), .val (.int r6), .val (.int c7), .val (.ref b1), .val (.ref b15), .val (.ref b29), .val (.ref b43), .unset, .unset] [(.ref b57)])) _
    refine XS.astore X62.here hx rfl (hb hby at_127) rfl rfl (l' := #[.val (.int p1), .val (.int p2), .val (.int p3), .val (.int p4), .val (.int p5), .val (.int w5), .val (.int r6), .val (.int c7), .val (.ref b1), .val (.ref b15), .val (.ref b29), .val (.ref b43), .val (.ref b57), .unset]) rfl ?_
    show Steps p.tables e below (T62.setTop (mkF m 129 #[.val (.int p1), .val (.int p2), .val (.int p3), .val (.int p4), .val (.int p5), .val (.int w5), .val (.int r6), .val (.int c7), .val (.ref b1), .val (.ref b15), .val (.ref b29), .val (.ref b43), .val (.ref b57), .unset] [])) _
    refine XS.aload X62.here hx rfl (hb hby at_129) rfl rfl ?_
    show Steps p.tables e below (T62.setTop (mkF m 131 #[.val (.int p1), .val (.int p2), .val (.int p3), .val (.int p4), .val (.int p5), .val (.int w5), .val (.int r6), .val (.int c7), .val (.ref b1), .val (.ref b15), .val (.ref b29), .val (.ref b43), .val (.ref b57), .unset] [(.ref b57)])) _
    refine XS.aload X62.here hx rfl (hb hby at_131) rfl rfl ?_
    show Steps p.tables e below (T62.setTop (mkF m 133 #[.val (.int p1), .val (.int p2), .val (.int p3), .val (.int p4), .val (.int p5), .val (.int w5), .val (.int r6), .val (.int c7), .val (.ref b1), .val (.ref b15), .val (.ref b29), .val (.ref b43), .val (.ref b57), .unset] [(.ref b1), (.ref b57)])) _
    refine st67.trans ?_
    show Steps p.tables e below (T67.setTop (mkF m 136 #[.val (.int p1), .val (.int p2), .val (.int p3), .val (.int p4), .val (.int p5), .val (.int w5), .val (.int r6), .val (.int c7), .val (.ref b1), .val (.ref b15), .val (.ref b29), .val (.ref b43), .val (.ref b57), .unset] [])) _
    refine XS.aload X67.here hx rfl (hb hby at_136) rfl rfl ?_
    show Steps p.tables e below (T67.setTop (mkF m 138 #[.val (.int p1), .val (.int p2), .val (.int p3), .val (.int p4), .val (.int p5), .val (.int w5), .val (.int r6), .val (.int c7), .val (.ref b1), .val (.ref b15), .val (.ref b29), .val (.ref b43), .val (.ref b57), .unset] [(.ref b57)])) _
    refine XS.aload X67.here hx rfl (hb hby at_138) rfl rfl ?_
    show Steps p.tables e below (T67.setTop (mkF m 140 #[.val (.int p1), .val (.int p2), .val (.int p3), .val (.int p4), .val (.int p5), .val (.int w5), .val (.int r6), .val (.int c7), .val (.ref b1), .val (.ref b15), .val (.ref b29), .val (.ref b43), .val (.ref b57), .unset] [(.ref b15), (.ref b57)])) _
    refine st71.trans ?_
    show Steps p.tables e below (T71.setTop (mkF m 143 #[.val (.int p1), .val (.int p2), .val (.int p3), .val (.int p4), .val (.int p5), .val (.int w5), .val (.int r6), .val (.int c7), .val (.ref b1), .val (.ref b15), .val (.ref b29), .val (.ref b43), .val (.ref b57), .unset] [])) _
    refine XS.aload X71.here hx rfl (hb hby at_143) rfl rfl ?_
    show Steps p.tables e below (T71.setTop (mkF m 145 #[.val (.int p1), .val (.int p2), .val (.int p3), .val (.int p4), .val (.int p5), .val (.int w5), .val (.int r6), .val (.int c7), .val (.ref b1), .val (.ref b15), .val (.ref b29), .val (.ref b43), .val (.ref b57), .unset] [(.ref b57)])) _
    refine XS.aload X71.here hx rfl (hb hby at_145) rfl rfl ?_
    show Steps p.tables e below (T71.setTop (mkF m 147 #[.val (.int p1), .val (.int p2), .val (.int p3), .val (.int p4), .val (.int p5), .val (.int w5), .val (.int r6), .val (.int c7), .val (.ref b1), .val (.ref b15), .val (.ref b29), .val (.ref b43), .val (.ref b57), .unset] [(.ref b29), (.ref b57)])) _
    refine st75.trans ?_
    show Steps p.tables e below (T75.setTop (mkF m 150 #[.val (.int p1), .val (.int p2), .val (.int p3), .val (.int p4), .val (.int p5), .val (.int w5), .val (.int r6), .val (.int c7), .val (.ref b1), .val (.ref b15), .val (.ref b29), .val (.ref b43), .val (.ref b57), .unset] [])) _
    refine XS.aload X75.here hx rfl (hb hby at_150) rfl rfl ?_
    show Steps p.tables e below (T75.setTop (mkF m 152 #[.val (.int p1), .val (.int p2), .val (.int p3), .val (.int p4), .val (.int p5), .val (.int w5), .val (.int r6), .val (.int c7), .val (.ref b1), .val (.ref b15), .val (.ref b29), .val (.ref b43), .val (.ref b57), .unset] [(.ref b43)])) _
    refine XS.iload X75.here hx rfl (hb hby at_152) rfl ?_
    show Steps p.tables e below (T75.setTop (mkF m 154 #[.val (.int p1), .val (.int p2), .val (.int p3), .val (.int p4), .val (.int p5), .val (.int w5), .val (.int r6), .val (.int c7), .val (.ref b1), .val (.ref b15), .val (.ref b29), .val (.ref b43), .val (.ref b57), .unset] [(.int r6), (.ref b43)])) _
    refine X75.aaload hx (j := r6) (v := (.ref x79)) Ar78.1 (State.isArrayOf_alike hZ.alike Ar78.2.1) rfl Ar78.2.2 (inb_of Sz78 (own_r3 hrr)) (Has.at Hs78 (inb_of Sz78 (own_r3 hrr)) q179) (g := (mkF m 154 #[.val (.int p1), .val (.int p2), .val (.int p3), .val (.int p4), .val (.int p5), .val (.int w5), .val (.int r6), .val (.int c7), .val (.ref b1), .val (.ref b15), .val (.ref b29), .val (.ref b43), .val (.ref b57), .unset] [(.int r6), (.ref b43)])) rfl rfl (hb hby at_154) _ ?_
    show Steps p.tables e below (T75.setTop (mkF m 155 #[.val (.int p1), .val (.int p2), .val (.int p3), .val (.int p4), .val (.int p5), .val (.int w5), .val (.int r6), .val (.int c7), .val (.ref b1), .val (.ref b15), .val (.ref b29), .val (.ref b43), .val (.ref b57), .unset] [(.ref x79)])) _
    refine XS.iload X75.here hx rfl (hb hby at_155) rfl ?_
    show Steps p.tables e below (T75.setTop (mkF m 157 #[.val (.int p1), .val (.int p2), .val (.int p3), .val (.int p4), .val (.int p5), .val (.int w5), .val (.int r6), .val (.int c7), .val (.ref b1), .val (.ref b15), .val (.ref b29), .val (.ref b43), .val (.ref b57), .unset] [(.int c7), (.ref x79)])) _
    refine X75.iaload hx (j := c7) (v := (.int (own_val p1 p2 p3 p4 r6 c7))) Ar83.1 (State.isArrayOf_alike hZ.alike Ar83.2.1) Ar83.2.2 (inb_of Sz83 (own_c4 hq hcc)) (Has.at Hs83 (inb_of Sz83 (own_c4 hq hcc)) q279) (g := (mkF m 157 #[.val (.int p1), .val (.int p2), .val (.int p3), .val (.int p4), .val (.int p5), .val (.int w5), .val (.int r6), .val (.int c7), .val (.ref b1), .val (.ref b15), .val (.ref b29), .val (.ref b43), .val (.ref b57), .unset] [(.int c7), (.ref x79)])) rfl rfl (hb hby at_157) _ ?_
    show Steps p.tables e below (T75.setTop (mkF m 158 #[.val (.int p1), .val (.int p2), .val (.int p3), .val (.int p4), .val (.int p5), .val (.int w5), .val (.int r6), .val (.int c7), .val (.ref b1), .val (.ref b15), .val (.ref b29), .val (.ref b43), .val (.ref b57), .unset] [(.int (own_val p1 p2 p3 p4 r6 c7))])) _
    refine XS.istore X75.here hx rfl (hb hby at_158) rfl (l' := #[.val (.int p1), .val (.int p2), .val (.int p3), .val (.int p4), .val (.int p5), .val (.int w5), .val (.int r6), .val (.int c7), .val (.ref b1), .val (.ref b15), .val (.ref b29), .val (.ref b43), .val (.ref b57), .val (.int (own_val p1 p2 p3 p4 r6 c7))]) rfl ?_
    show Steps p.tables e below (T75.setTop (mkF m 160 #[.val (.int p1), .val (.int p2), .val (.int p3), .val (.int p4), .val (.int p5), .val (.int w5), .val (.int r6), .val (.int c7), .val (.ref b1), .val (.ref b15), .val (.ref b29), .val (.ref b43), .val (.ref b57), .val (.int (own_val p1 p2 p3 p4 r6 c7))] [])) _
    refine XS.aload X75.here hx rfl (hb hby at_160) rfl rfl ?_
    show Steps p.tables e below (T75.setTop (mkF m 162 #[.val (.int p1), .val (.int p2), .val (.int p3), .val (.int p4), .val (.int p5), .val (.int w5), .val (.int r6), .val (.int c7), .val (.ref b1), .val (.ref b15), .val (.ref b29), .val (.ref b43), .val (.ref b57), .val (.int (own_val p1 p2 p3 p4 r6 c7))] [(.ref b57)])) _
    refine XS.iload X75.here hx rfl (hb hby at_162) rfl ?_
    show Steps p.tables e below (T75.setTop (mkF m 164 #[.val (.int p1), .val (.int p2), .val (.int p3), .val (.int p4), .val (.int p5), .val (.int w5), .val (.int r6), .val (.int c7), .val (.ref b1), .val (.ref b15), .val (.ref b29), .val (.ref b43), .val (.ref b57), .val (.int (own_val p1 p2 p3 p4 r6 c7))] [(.int r6), (.ref b57)])) _
    refine XS.iload X75.here hx rfl (hb hby at_164) rfl ?_
    show Steps p.tables e below (T75.setTop (mkF m 166 #[.val (.int p1), .val (.int p2), .val (.int p3), .val (.int p4), .val (.int p5), .val (.int w5), .val (.int r6), .val (.int c7), .val (.ref b1), .val (.ref b15), .val (.ref b29), .val (.ref b43), .val (.ref b57), .val (.int (own_val p1 p2 p3 p4 r6 c7))] [(.int c7), (.int r6), (.ref b57)])) _
    refine st84.trans ?_
    show Steps p.tables e below (T84.setTop (mkF m 169 #[.val (.int p1), .val (.int p2), .val (.int p3), .val (.int p4), .val (.int p5), .val (.int w5), .val (.int r6), .val (.int c7), .val (.ref b1), .val (.ref b15), .val (.ref b29), .val (.ref b43), .val (.ref b57), .val (.int (own_val p1 p2 p3 p4 r6 c7))] [(.int (own_val p1 p2 p3 p4 r6 c7))])) _
    refine XS.iload X84.here hx rfl (hb hby at_169) rfl ?_
    show Steps p.tables e below (T84.setTop (mkF m 171 #[.val (.int p1), .val (.int p2), .val (.int p3), .val (.int p4), .val (.int p5), .val (.int w5), .val (.int r6), .val (.int c7), .val (.ref b1), .val (.ref b15), .val (.ref b29), .val (.ref b43), .val (.ref b57), .val (.int (own_val p1 p2 p3 p4 r6 c7))] [(.int (own_val p1 p2 p3 p4 r6 c7)), (.int (own_val p1 p2 p3 p4 r6 c7))])) _
    refine XS.icmpNo X84.here hx rfl (hb hby at_171) rfl (teq (rfl : (own_val p1 p2 p3 p4 r6 c7) = (own_val p1 p2 p3 p4 r6 c7))).2 ?_
    show Steps p.tables e below (T84.setTop (mkF m 174 #[.val (.int p1), .val (.int p2), .val (.int p3), .val (.int p4), .val (.int p5), .val (.int w5), .val (.int r6), .val (.int c7), .val (.ref b1), .val (.ref b15), .val (.ref b29), .val (.ref b43), .val (.ref b57), .val (.int (own_val p1 p2 p3 p4 r6 c7))] [])) _
    refine XS.iconst X84.here hx rfl (hb hby at_174) ?_
    show Steps p.tables e below (T84.setTop (mkF m 175 #[.val (.int p1), .val (.int p2), .val (.int p3), .val (.int p4), .val (.int p5), .val (.int w5), .val (.int r6), .val (.int c7), .val (.ref b1), .val (.ref b15), .val (.ref b29), .val (.ref b43), .val (.ref b57), .val (.int (own_val p1 p2 p3 p4 r6 c7))] [(.int (1 : Int32))])) _
    refine XS.goto X84.here hx rfl (pc0 := 175) (pc' := 179) rfl (hb hby at_175) (by decide) (by decide) ?_
    show Steps p.tables e below (T84.setTop (mkF m 179 #[.val (.int p1), .val (.int p2), .val (.int p3), .val (.int p4), .val (.int p5), .val (.int w5), .val (.int r6), .val (.int c7), .val (.ref b1), .val (.ref b15), .val (.ref b29), .val (.ref b43), .val (.ref b57), .val (.int (own_val p1 p2 p3 p4 r6 c7))] [(.int (1 : Int32))])) _
    exact retN X84 hx (t := .boolean) Bd.returns (by simp) (hb hby at_179) hr
  · show Q_rm0 Z p1 p2 p3 p4 p5 h0 n0 _ T84.heap _
    exact ⟨rfl, N84⟩
set_option maxRecDepth 65536 in
set_option maxHeartbeats 40000000 in
theorem comes_1 {Post : Tables → Env → Array Value → State → Outcome → State → Prop} (hpost : ∀ tb e args s v u, (limb_1_1.after args s (.returned v) u = true ∧ limb_1_2.after args s (.returned v) u = true ∧ True) → FrameEnd s (.returned v) u (Jvm.fieldLocs frame_1_writes args s ++ Jvm.arrayLocs frame_1_arrays args s ++ Jvm.staticLocs frame_1_statics s) 24 256 → Post tb e args s (.returned v) u) :
    ArmFor flags0 classFile x code maxLocals ret World_1 tables_1 room_1 Calls_1 rest_1 Pre_1 Post := by
  intro l hfl _ _ p e ha hc hk s m args below hf hA hF happ hP
  obtain ⟨hcalls, hrest, hpre⟩ := hP
  obtain ⟨-, -, -, hnamed, -, -, -, hat⟩ := (Spec.applies_iff hf).mp happ
  obtain ⟨hg, hn⟩ := and_e (Cond.before_iff.mp (show (Jvm.Cond.and given_1 narrow_1).before args s = true from hpre))
  obtain ⟨gg1, gg2⟩ := and_e hg
  obtain ⟨gg3, gg4⟩ := and_e gg2
  obtain ⟨gg5, gg6⟩ := and_e gg4
  obtain ⟨gg7, gg8⟩ := and_e gg6
  obtain ⟨gg9, gg10⟩ := and_e gg8
  obtain ⟨w0, w1, w2, w3, w4, rfl⟩ : ∃ w0 w1 w2 w3 w4 : Value, args = #[w0, w1, w2, w3, w4] := by
    have hs : args.size = 5 := by simpa [Cond.value, given_1] using gg1
    obtain ⟨L⟩ := args
    match L, hs with
    | [w0, w1, w2, w3, w4], _ => exact ⟨w0, w1, w2, w3, w4, rfl⟩
  have hw := fun d (hd : d ∈ tables_1) => atoms_spec (ws := Jvm.Cond.code x code maxLocals ret :: tables_1) hat d (List.mem_cons_of_mem _ hd)
  have hfit : Fit s := fun {y c} hc i hi => by
    obtain ⟨ha, rfl⟩ := Array.getElem?_eq_some_iff.mp hc
    have q := List.all_eq_true.mp ((Array.all_eq_true_iff_forall_mem.mp hF) _ (Array.getElem_mem ha)) i (List.mem_range.mpr hi)
    simpa [Array.getElem?_eq_getElem hi] using q
  obtain ⟨i0, ei0⟩ := is_v gg3
  obtain rfl : w0 = (.int i0) := Option.some.inj ei0
  obtain ⟨i1, ei1⟩ := is_v gg5
  obtain rfl : w1 = (.int i1) := Option.some.inj ei1
  obtain ⟨i2, ei2⟩ := is_v gg7
  obtain rfl : w2 = (.int i2) := Option.some.inj ei2
  obtain ⟨i3, ei3⟩ := is_v gg9
  obtain rfl : w3 = (.int i3) := Option.some.inj ei3
  obtain ⟨i4, ei4⟩ := is_v gg10
  obtain rfl : w4 = (.int i4) := Option.some.inj ei4
  obtain ⟨n, o, h1, h2, h3, _, L, rfl, ⟨rfl, N⟩, hq⟩ := rm0 l s _ hw tables_1 i0 i1 i2 i3 i4 s.heap s.heap.size (Nat.le_refl _) p e ha hc hk s m _ below hf ((Spec.applies_iff_loose hf).mp happ).1 ⟨rfl, State.Warmed39.refl s, rfl⟩ trivial
  refine ⟨n, _, h1, h2, h3, hpost _ _ _ _ _ _ ⟨Cond.after_iff.mpr rfl, Cond.after_iff.mpr (eq_i res_at (Term.int_eval (1)) rfl), trivial⟩ ⟨hq.1, hq.2.1, (hq.2.2.sift fun y hy => Or.inr (N y hy)).mono (by decide) (by decide)⟩⟩
theorem main_1_1 : Claimed_1_1 := comes_1 fun _ _ _ _ _ _ h hF => ⟨h.1, hF⟩
theorem main_1_2 : Claimed_1_2 := comes_1 fun _ _ _ _ _ _ h hF => ⟨h.2.1, hF⟩
end Jvm.Pilot.@@N@@
namespace Jvm.Pilot.@@N@@
open Jvm Jvm.ClassFile Sem Op Lib Jvm.Free Jvm.Stand Jvm.Pilot.@@N@@.Jvm.D
/-! MADE BY PROGRAM (witnessworld.py) out of the Statement's table words and the real class files: 12 classes; the members and pool entries that the words name. The judged class is class 1, her method 1. -/
namespace start1
open Jvm.ClassFile
def u (s : String) : CpInfo := .utf8 (stringToUtf16 s)
/-- a pool by its gaps: so many unusable entries, then the entry; so many at the end -/
def gap : Nat → List CpInfo → List CpInfo
  | 0, r => r
  | n + 1, r => .unusable :: gap n r
def poolList (es : List (Nat × CpInfo)) (last : Nat) : List CpInfo := es.foldr (fun e r => gap e.1 (e.2 :: r)) (gap last [])
def pool (es : List (Nat × CpInfo)) (last : Nat) : Array CpInfo := ⟨poolList es last⟩
def fileOf (pool : Array CpInfo) (this : Nat) (attrs : Array Attribute := #[]) (ms : Array MethodInfo := #[]) (fl : Nat := 33) (sup : Nat := 0) (ifs : Array Nat := #[]) (fds : Array FieldInfo := #[]) : ClassFile where
  minorVersion := 0
  majorVersion := 65
  constantPool := pool
  accessFlags := fl
  thisClass := this
  superClass := sup
  interfaces := ifs
  fields := fds
  methods := ms
  attributes := attrs
def plain (name : String) (sup : Option ClassId) : Class where
  name := name
  kind := .ordinary
  loader := none
  accessFlags := 33
  super := sup
  interfaces := #[]
  cf := none
  fields := #[]
  methods := #[]
  instanceTypes := #[]
  staticTypes := #[]
  resolved := #[]
  callSites := []
  init := .initialized
  statics := none
  mirror := none

def pool0 : Array CpInfo := pool [(5, u "<init>"), (0, u "()V"), (1, .class_ 10), (1, u "java/lang/Object")] 113

def k0c0 : Code := { maxStack := 0, maxLocals := 1, code := object_method_1_code, exceptionTable := #[], attributes := #[] }
def k0m0 : Method := { name := "<init>", desc := "()V", sig := { parameters := [], returnType := none }, accessFlags := 1, code := some k0c0 }
/-- java/lang/Object -/
def k0 : Class := { plain "java/lang/Object" none with
  accessFlags := 33
  interfaces := #[]
  cf := some (fileOf pool0 8 #[] #[{ accessFlags := 1, nameIndex := 5, descriptorIndex := 6, attributes := #[] }] 33 0 #[] #[])
  fields := #[]
  methods := #[k0m0]
  instanceTypes := #[]
  staticTypes := #[]
  resolved := Array.replicate 124 none
  statics := none }

def pool1 : Array CpInfo := pool [(2, .class_ 4), (1, u "java/lang/Object"), (0, u "<init>"), (0, u "()V"), (0, .class_ 8), (0, u "[I"), (0, .class_ 10), (0, u "com/example/entropic_join/entropicjoin/Rows"), (0, .methodref 9 12), (0, .nameAndType 5 13), (0, u "(I)V"), (0, .methodref 9 15), (0, .nameAndType 16 17), (0, u "add"), (0, u "([I)V"), (0, .methodref 9 19), (0, .nameAndType 20 21), (0, u "get"), (0, u "(II)I"), (0, .class_ 23), (0, u "com/example/entropic_join/entropicjoin/RowsGetPinLaw"), (2, u "law"), (0, u "(IIIII)Z")] 5

def k1m0 : Method := { name := "<init>", desc := "()V", sig := { parameters := [], returnType := none }, accessFlags := 1, code := none }
def k1c1 : Code := { maxStack := 5, maxLocals := 14, code := code, exceptionTable := #[], attributes := #[] }
def k1m1 : Method := { name := "law", desc := "(IIIII)Z", sig := { parameters := [.int, .int, .int, .int, .int], returnType := some .boolean }, accessFlags := 9, code := some k1c1 }
/-- com/example/entropic_join/entropicjoin/RowsGetPinLaw -/
def k1 : Class := { plain "com/example/entropic_join/entropicjoin/RowsGetPinLaw" (some 0) with
  accessFlags := 49
  interfaces := #[]
  cf := some (fileOf pool1 22 #[] #[{ accessFlags := 1, nameIndex := 5, descriptorIndex := 6, attributes := #[] }, { accessFlags := 9, nameIndex := 26, descriptorIndex := 27, attributes := #[] }] 49 2 #[] #[])
  fields := #[]
  methods := #[k1m0, k1m1]
  instanceTypes := #[]
  staticTypes := #[]
  resolved := Array.replicate 33 none
  statics := none }

def pool2 : Array CpInfo := pool [(3, .methodref 4 5), (0, .class_ 6), (0, .nameAndType 7 8), (0, u "com/example/entropic_join/entropicjoin/Rows"), (0, u "<init>"), (0, u "(II)V"), (0, .methodref 10 11), (0, .class_ 12), (0, .nameAndType 7 13), (0, u "java/lang/Object"), (0, u "()V"), (0, .fieldref 4 15), (0, .nameAndType 16 17), (0, u "width"), (0, u "I"), (0, .methodref 19 20), (0, .class_ 21), (0, .nameAndType 22 23), (0, u "java/lang/Math"), (0, u "multiplyExact"), (0, u "(II)I"), (0, .fieldref 4 25), (0, .nameAndType 26 27), (0, u "data"), (0, u "[I"), (0, .fieldref 4 29), (0, .nameAndType 30 17), (0, u "count"), (0, .methodref 4 32), (0, .nameAndType 33 34), (0, u "reserveRow"), (0, u "()I"), (0, .methodref 36 37), (0, .class_ 38), (0, .nameAndType 39 40), (0, u "java/lang/System"), (0, u "arraycopy"), (0, u "(Ljava/lang/Object;ILjava/lang/Object;II)V"), (9, .methodref 4 51), (0, .nameAndType 52 53), (0, u "reserveRows"), (0, u "(I)I"), (5, u "get"), (2, u "add"), (0, u "([I)V"), (51, .integer 2147483639), (3, .long 2147483639), (5, u "MAX_DIGIT_BITS"), (2, u "MAX_LENGTH"), (0, u "(I)V")] 45

def k2c0 : Code := { maxStack := 3, maxLocals := 2, code := prog_57_method_1_code, exceptionTable := #[], attributes := #[] }
def k2m0 : Method := { name := "<init>", desc := "(I)V", sig := { parameters := [.int], returnType := none }, accessFlags := 0, code := some k2c0 }
def k2c1 : Code := { maxStack := 3, maxLocals := 3, code := prog_57_method_2_code, exceptionTable := #[], attributes := #[] }
def k2m1 : Method := { name := "<init>", desc := "(II)V", sig := { parameters := [.int, .int], returnType := none }, accessFlags := 2, code := some k2c1 }
def k2c2 : Code := { maxStack := 3, maxLocals := 3, code := prog_57_method_5_code, exceptionTable := #[], attributes := #[] }
def k2m2 : Method := { name := "get", desc := "(II)I", sig := { parameters := [.int, .int], returnType := some .int }, accessFlags := 0, code := some k2c2 }
def k2c3 : Code := { maxStack := 5, maxLocals := 3, code := prog_57_method_6_code, exceptionTable := #[], attributes := #[] }
def k2m3 : Method := { name := "add", desc := "([I)V", sig := { parameters := [(.array .int)], returnType := none }, accessFlags := 0, code := some k2c3 }
def k2c4 : Code := { maxStack := 2, maxLocals := 1, code := prog_57_method_17_code, exceptionTable := #[], attributes := #[] }
def k2m4 : Method := { name := "reserveRow", desc := "()I", sig := { parameters := [], returnType := some .int }, accessFlags := 2, code := some k2c4 }
def k2c5 : Code := { maxStack := 6, maxLocals := 8, code := prog_57_method_18_code, exceptionTable := #[], attributes := #[] }
def k2m5 : Method := { name := "reserveRows", desc := "(I)I", sig := { parameters := [.int], returnType := some .int }, accessFlags := 2, code := some k2c5 }
/-- com/example/entropic_join/entropicjoin/Rows -/
def k2 : Class := { plain "com/example/entropic_join/entropicjoin/Rows" (some 0) with
  accessFlags := 48
  interfaces := #[]
  cf := some (fileOf pool2 4 #[] #[{ accessFlags := 0, nameIndex := 7, descriptorIndex := 129, attributes := #[] }, { accessFlags := 2, nameIndex := 7, descriptorIndex := 8, attributes := #[] }, { accessFlags := 0, nameIndex := 59, descriptorIndex := 23, attributes := #[] }, { accessFlags := 0, nameIndex := 62, descriptorIndex := 63, attributes := #[] }, { accessFlags := 2, nameIndex := 33, descriptorIndex := 34, attributes := #[] }, { accessFlags := 2, nameIndex := 52, descriptorIndex := 53, attributes := #[] }] 48 10 #[] #[{ accessFlags := 26, nameIndex := 125, descriptorIndex := 17, attributes := #[] }, { accessFlags := 26, nameIndex := 128, descriptorIndex := 17, attributes := #[] }, { accessFlags := 18, nameIndex := 16, descriptorIndex := 17, attributes := #[] }, { accessFlags := 2, nameIndex := 26, descriptorIndex := 27, attributes := #[] }, { accessFlags := 2, nameIndex := 30, descriptorIndex := 17, attributes := #[] }])
  fields := #[{ name := "MAX_DIGIT_BITS", type := .int, accessFlags := 26, slot := 0, constantValue := 0 }, { name := "MAX_LENGTH", type := .int, accessFlags := 26, slot := 1, constantValue := 0 }, { name := "width", type := .int, accessFlags := 18, slot := 0, constantValue := 0 }, { name := "data", type := (.array .int), accessFlags := 2, slot := 1, constantValue := 0 }, { name := "count", type := .int, accessFlags := 2, slot := 2, constantValue := 0 }]
  methods := #[k2m0, k2m1, k2m2, k2m3, k2m4, k2m5]
  instanceTypes := #[.int, (.array .int), .int]
  staticTypes := #[.int, .int]
  resolved := Array.replicate 175 none
  statics := none }

def pool3 : Array CpInfo := pool [(1, .class_ 2), (0, u "java/lang/Math"), (1, .class_ 6), (1, u "java/lang/Object"), (0, u "<init>"), (0, u "()V"), (89, .class_ 100), (1, u "java/lang/Math$RandomNumberGeneratorHolder"), (19, u "multiplyExact"), (51, u "negativeZeroFloatBits"), (0, u "J"), (2, u "negativeZeroDoubleBits"), (68, u "$assertionsDisabled"), (0, u "Z"), (88, u "(II)I"), (2, u "twoToTheDoubleScaleDown"), (0, u "D"), (4, u "twoToTheDoubleScaleUp"), (9, u "E"), (3, u "PI"), (2, u "TAU"), (2, u "DEGREES_TO_RADIANS"), (0, u "RADIANS_TO_DEGREES")] 94

def k3m0 : Method := { name := "<init>", desc := "()V", sig := { parameters := [], returnType := none }, accessFlags := 2, code := none }
def k3c1 : Code := { maxStack := 4, maxLocals := 4, code := jdk_29_method_28_code, exceptionTable := #[], attributes := #[] }
def k3m1 : Method := { name := "multiplyExact", desc := "(II)I", sig := { parameters := [.int, .int], returnType := some .int }, accessFlags := 9, code := some k3c1 }
/-- java/lang/Math -/
def k3 : Class := { plain "java/lang/Math" (some 0) with
  accessFlags := 49
  interfaces := #[]
  cf := some (fileOf pool3 1 #[.nestMembers #[98]] #[{ accessFlags := 2, nameIndex := 7, descriptorIndex := 8, attributes := #[] }, { accessFlags := 9, nameIndex := 120, descriptorIndex := 335, attributes := #[] }] 49 4 #[] #[{ accessFlags := 25, nameIndex := 354, descriptorIndex := 339, attributes := #[] }, { accessFlags := 25, nameIndex := 358, descriptorIndex := 339, attributes := #[] }, { accessFlags := 25, nameIndex := 361, descriptorIndex := 339, attributes := #[] }, { accessFlags := 26, nameIndex := 364, descriptorIndex := 339, attributes := #[] }, { accessFlags := 26, nameIndex := 365, descriptorIndex := 339, attributes := #[] }, { accessFlags := 26, nameIndex := 172, descriptorIndex := 173, attributes := #[] }, { accessFlags := 26, nameIndex := 176, descriptorIndex := 173, attributes := #[] }, { accessFlags := 8, nameIndex := 344, descriptorIndex := 339, attributes := #[] }, { accessFlags := 8, nameIndex := 338, descriptorIndex := 339, attributes := #[] }, { accessFlags := 4120, nameIndex := 245, descriptorIndex := 246, attributes := #[] }])
  fields := #[{ name := "E", type := .double, accessFlags := 25, slot := 0, constantValue := 0 }, { name := "PI", type := .double, accessFlags := 25, slot := 1, constantValue := 0 }, { name := "TAU", type := .double, accessFlags := 25, slot := 2, constantValue := 0 }, { name := "DEGREES_TO_RADIANS", type := .double, accessFlags := 26, slot := 3, constantValue := 0 }, { name := "RADIANS_TO_DEGREES", type := .double, accessFlags := 26, slot := 4, constantValue := 0 }, { name := "negativeZeroFloatBits", type := .long, accessFlags := 26, slot := 5, constantValue := 0 }, { name := "negativeZeroDoubleBits", type := .long, accessFlags := 26, slot := 6, constantValue := 0 }, { name := "twoToTheDoubleScaleUp", type := .double, accessFlags := 8, slot := 7, constantValue := 0 }, { name := "twoToTheDoubleScaleDown", type := .double, accessFlags := 8, slot := 8, constantValue := 0 }, { name := "$assertionsDisabled", type := .boolean, accessFlags := 4120, slot := 9, constantValue := 0 }]
  methods := #[k3m0, k3m1]
  instanceTypes := #[]
  staticTypes := #[.double, .double, .double, .double, .double, .long, .long, .double, .double, .boolean]
  resolved := Array.replicate 460 none
  statics := none }

def pool4 : Array CpInfo := pool [(2, .class_ 4), (1, u "java/lang/Object"), (0, u "<init>"), (0, u "()V"), (1, .class_ 10), (1, u "java/lang/System"), (0, u "allowSecurityManager"), (0, u "I"), (16, u "cons"), (0, u "Ljava/io/Console;"), (77, .class_ 110), (1, u "java/lang/System$CallersHolder"), (43, u "initialErrStream"), (0, u "Ljava/io/PrintStream;"), (19, u "security"), (0, u "Ljava/lang/SecurityManager;"), (31, .class_ 209), (0, u "java/lang/System$1"), (7, u "props"), (0, u "Ljava/util/Properties;"), (2, u "lineSeparator"), (0, u "Ljava/lang/String;"), (96, .class_ 321), (1, u "java/lang/System$LoggerFinder"), (5, .class_ 328), (0, u "java/lang/System$Logger"), (67, u "err"), (2, u "out"), (91, u "notSupportedJnuEncoding"), (15, u "in"), (17, u "initialIn"), (0, u "Ljava/io/InputStream;"), (35, u "bootLayer"), (0, u "Ljava/lang/ModuleLayer;"), (99, .class_ 664), (0, u "java/lang/System$2"), (9, u "NEVER"), (2, u "MAYBE"), (49, u "arraycopy"), (0, u "(Ljava/lang/Object;ILjava/lang/Object;II)V"), (72, .class_ 802), (0, u "java/lang/System$Logger$Level")] 31

def k4m0 : Method := { name := "<init>", desc := "()V", sig := { parameters := [], returnType := none }, accessFlags := 2, code := none }
def k4m1 : Method := { name := "arraycopy", desc := "(Ljava/lang/Object;ILjava/lang/Object;II)V", sig := { parameters := [(.object "java/lang/Object"), .int, (.object "java/lang/Object"), .int, .int], returnType := none }, accessFlags := 265, code := none }
/-- java/lang/System -/
def k4 : Class := { plain "java/lang/System" (some 0) with
  accessFlags := 49
  interfaces := #[]
  cf := some (fileOf pool4 8 #[.nestMembers #[319, 327, 801, 108, 663, 208]] #[{ accessFlags := 2, nameIndex := 5, descriptorIndex := 6, attributes := #[] }, { accessFlags := 265, nameIndex := 727, descriptorIndex := 728, attributes := #[] }] 49 2 #[] #[{ accessFlags := 25, nameIndex := 507, descriptorIndex := 526, attributes := #[] }, { accessFlags := 25, nameIndex := 399, descriptorIndex := 155, attributes := #[] }, { accessFlags := 25, nameIndex := 396, descriptorIndex := 155, attributes := #[] }, { accessFlags := 10, nameIndex := 525, descriptorIndex := 526, attributes := #[] }, { accessFlags := 26, nameIndex := 674, descriptorIndex := 12, attributes := #[] }, { accessFlags := 26, nameIndex := 677, descriptorIndex := 12, attributes := #[] }, { accessFlags := 10, nameIndex := 11, descriptorIndex := 12, attributes := #[] }, { accessFlags := 74, nameIndex := 175, descriptorIndex := 176, attributes := #[] }, { accessFlags := 10, nameIndex := 491, descriptorIndex := 222, attributes := #[] }, { accessFlags := 74, nameIndex := 29, descriptorIndex := 30, attributes := #[] }, { accessFlags := 74, nameIndex := 154, descriptorIndex := 155, attributes := #[] }, { accessFlags := 10, nameIndex := 217, descriptorIndex := 218, attributes := #[] }, { accessFlags := 10, nameIndex := 221, descriptorIndex := 222, attributes := #[] }, { accessFlags := 8, nameIndex := 562, descriptorIndex := 563, attributes := #[] }])
  fields := #[{ name := "in", type := (.object "java/io/InputStream"), accessFlags := 25, slot := 0, constantValue := 0 }, { name := "out", type := (.object "java/io/PrintStream"), accessFlags := 25, slot := 1, constantValue := 0 }, { name := "err", type := (.object "java/io/PrintStream"), accessFlags := 25, slot := 2, constantValue := 0 }, { name := "initialIn", type := (.object "java/io/InputStream"), accessFlags := 10, slot := 3, constantValue := 0 }, { name := "NEVER", type := .int, accessFlags := 26, slot := 4, constantValue := 0 }, { name := "MAYBE", type := .int, accessFlags := 26, slot := 5, constantValue := 0 }, { name := "allowSecurityManager", type := .int, accessFlags := 10, slot := 6, constantValue := 0 }, { name := "security", type := (.object "java/lang/SecurityManager"), accessFlags := 74, slot := 7, constantValue := 0 }, { name := "notSupportedJnuEncoding", type := (.object "java/lang/String"), accessFlags := 10, slot := 8, constantValue := 0 }, { name := "cons", type := (.object "java/io/Console"), accessFlags := 74, slot := 9, constantValue := 0 }, { name := "initialErrStream", type := (.object "java/io/PrintStream"), accessFlags := 74, slot := 10, constantValue := 0 }, { name := "props", type := (.object "java/util/Properties"), accessFlags := 10, slot := 11, constantValue := 0 }, { name := "lineSeparator", type := (.object "java/lang/String"), accessFlags := 10, slot := 12, constantValue := 0 }, { name := "bootLayer", type := (.object "java/lang/ModuleLayer"), accessFlags := 8, slot := 13, constantValue := 0 }]
  methods := #[k4m0, k4m1]
  instanceTypes := #[]
  staticTypes := #[(.object "java/io/InputStream"), (.object "java/io/PrintStream"), (.object "java/io/PrintStream"), (.object "java/io/InputStream"), .int, .int, .int, (.object "java/lang/SecurityManager"), (.object "java/lang/String"), (.object "java/io/Console"), (.object "java/io/PrintStream"), (.object "java/util/Properties"), (.object "java/lang/String"), (.object "java/lang/ModuleLayer")]
  resolved := Array.replicate 834 none
  statics := none }

def pool5 : Array CpInfo := pool [(1, u "java/lang/Cloneable"), (0, .class_ 1), (0, u "java/lang/Object"), (0, .class_ 3)] 3

/-- java/lang/Cloneable -/
def k5 : Class := { plain "java/lang/Cloneable" (some 0) with
  accessFlags := 1537
  interfaces := #[]
  cf := some (fileOf pool5 2 #[] #[] 1537 4 #[] #[])
  fields := #[]
  methods := #[]
  instanceTypes := #[]
  staticTypes := #[]
  resolved := Array.replicate 8 none
  statics := none }

def pool6 : Array CpInfo := pool [(1, u "java/io/Serializable"), (0, .class_ 1), (0, u "java/lang/Object"), (0, .class_ 3)] 3

/-- java/io/Serializable -/
def k6 : Class := { plain "java/io/Serializable" (some 0) with
  accessFlags := 1537
  interfaces := #[]
  cf := some (fileOf pool6 2 #[] #[] 1537 4 #[] #[])
  fields := #[]
  methods := #[]
  instanceTypes := #[]
  staticTypes := #[]
  resolved := Array.replicate 8 none
  statics := none }

/-- the primitive byte -/
def k7 : Class := { plain "byte" none with kind := .primitive 'B', accessFlags := 0x411 }
/-- [B -/
def k8 : Class := { plain "[B" (some 0) with kind := .array 7 .byte, interfaces := #[5, 6], accessFlags := 1041 }

/-- the primitive int -/
def k9 : Class := { plain "int" none with kind := .primitive 'I', accessFlags := 0x411 }
/-- [I -/
def k10 : Class := { plain "[I" (some 0) with kind := .array 9 .int, interfaces := #[5, 6], accessFlags := 1041 }

/-- [L[I; -/
def k11 : Class := { plain "[[I" (some 0) with kind := .array 10 (.array .int), interfaces := #[5, 6], accessFlags := 1041 }

def heap : Heap := #[{ cls := 11, slots := #[.null], vm := .none }]
def classes : Array Class := #[k0, k1, k2, k3, k4, k5, k6, k7, k8, k9, k10, k11]
def interned : List (Array UInt16 × Addr) := []
def slotsUsed : Nat := 1
def theMethod : MethodId := ⟨1, 1⟩
def args0 : Array Value := #[.int 5, .int 7, .int 2, .int 3, .int 9]
def aboutOver (below : List Frame) : State where
  vm := { classes := classes, interned := interned.toArray }
  heap := heap
  slotsUsed := slotsUsed
  threads := #[{ frames := .invoking theMethod args0 :: below }]
def below0 : List Frame := [.native { method := ⟨0, 0⟩, args := #[] }]
def about1 : State := aboutOver below0
def p0 : Program := .bare "" "" ""
def e0 : Env := launch0.env 0 0 0
theorem w_frames : about1.frames = Frame.invoking theMethod args0 :: below0 := rfl
set_option maxRecDepth 65536 in
theorem w_args : argsFit about1.vm theMethod args0 = true := by decide +kernel
set_option maxRecDepth 65536 in
theorem w_heap : heapFits about1 = true := by decide +kernel
set_option maxRecDepth 65536 in
theorem w_runnable : about1.curStatus? = some .runnable := by decide +kernel
set_option maxRecDepth 65536 in
theorem w_alone : about1.alone = true := by decide +kernel
set_option maxRecDepth 65536 in
theorem w_named : about1.methodNamed? x = some theMethod := by decide +kernel
set_option maxRecDepth 65536 in
theorem w_hears : about1.hears theMethod below0 = true := by decide +kernel
set_option maxRecDepth 65536 in
theorem w_ripe : about1.ripe theMethod args0 below0 = true := by decide +kernel
theorem w_running : about1.status = .running := rfl
set_option maxRecDepth 65536 in
theorem w_room : about1.hasRoom e0.platform room_1 = true :=
  launch0.hasRoom_least _ room_1 (by decide +kernel) (by decide +kernel) (by decide +kernel) (by decide +kernel) (by decide +kernel) (by decide +kernel)
theorem allAtoms_all (ts : List Jvm.Cond) (a : Array Jvm.Value) (st : Jvm.State) : (allAtoms ts).before a st = ts.all (fun c => c.before a st) := by
  induction ts with
  | nil => rfl
  | cons c t ih =>
    show (Jvm.Cond.and c (allAtoms t)).before a st = _
    rw [Jvm.Cond.before_and, ih, List.all_cons]
def words1 : List Jvm.Cond := Jvm.Cond.code x code maxLocals ret :: tables_1
/-- a 'code' word, met by the world's own term for the bytes: nothing is compared byte by byte -/
theorem code_word {y : MethodName} {bytes : ByteArray} {mx : Nat} {rt : Option FieldType} {a : Array Value} {s : State} {m : MethodId} {meth : Method} {c : Code} (h1 : s.methodNamed? y = some m) (h2 : s.vm.method? m = some meth) (h3 : meth.code = some c) (h4 : c.code = bytes)
    (h5 : (c.maxLocals == mx && c.exceptionTable.isEmpty && decide (c.maxStack ≤ mostOperands) && decide (meth.sig.returnType = rt) && !meth.locks && decide (parseMethodDescriptor y.desc = some meth.sig)) = true) : (Jvm.Cond.code y bytes mx rt).before a s = true := by
  simp only [Bool.and_eq_true, beq_iff_eq, Bool.not_eq_true', decide_eq_true_eq] at h5
  obtain ⟨⟨⟨⟨⟨g1, g2⟩, g3⟩, g4⟩, g5⟩, g6⟩ := h5
  simp [Cond.before, Cond.holds, Cond.value, h1, h2, h3, h4, g1, g2, g3, g4, g5, g6]
def isCode : Jvm.Cond → Bool
  | .code _ _ _ _ => true
  | _ => false
theorem all_split {L : List Jvm.Cond} {P : Jvm.Cond → Bool} (h1 : L.all (fun c => isCode c || P c) = true) (h2 : ∀ c ∈ L.filter isCode, P c = true) : L.all P = true := by
  refine List.all_eq_true.mpr fun c hc => ?_
  have h := List.all_eq_true.mp h1 c hc
  rcases Bool.eq_false_or_eq_true (isCode c) with hi | hi
  · exact h2 c (List.mem_filter.mpr ⟨hc, hi⟩)
  · simpa [hi] using h
set_option maxRecDepth 65536 in
theorem w_c0 : (Jvm.Cond.code x code maxLocals ret).before args0 about1 = true := code_word (m := ⟨1, 1⟩) (meth := k1m1) (c := k1c1) (by decide +kernel) rfl rfl rfl (by decide +kernel)
set_option maxRecDepth 65536 in
theorem w_c1 : (Jvm.Cond.code ({ cls := "com/example/entropic_join/entropicjoin/Rows", name := "<init>", desc := "(I)V" } : Jvm.MethodName) prog_57_method_1_code (2 : Nat) (Option.none : Option Jvm.ClassFile.FieldType)).before args0 about1 = true := code_word (m := ⟨2, 0⟩) (meth := k2m0) (c := k2c0) (by decide +kernel) rfl rfl rfl (by decide +kernel)
set_option maxRecDepth 65536 in
theorem w_c2 : (Jvm.Cond.code ({ cls := "com/example/entropic_join/entropicjoin/Rows", name := "<init>", desc := "(II)V" } : Jvm.MethodName) prog_57_method_2_code (3 : Nat) (Option.none : Option Jvm.ClassFile.FieldType)).before args0 about1 = true := code_word (m := ⟨2, 1⟩) (meth := k2m1) (c := k2c1) (by decide +kernel) rfl rfl rfl (by decide +kernel)
set_option maxRecDepth 65536 in
theorem w_c3 : (Jvm.Cond.code ({ cls := "java/lang/Object", name := "<init>", desc := "()V" } : Jvm.MethodName) object_method_1_code (1 : Nat) (Option.none : Option Jvm.ClassFile.FieldType)).before args0 about1 = true := code_word (m := ⟨0, 0⟩) (meth := k0m0) (c := k0c0) (by decide +kernel) rfl rfl rfl (by decide +kernel)
set_option maxRecDepth 65536 in
theorem w_c4 : (Jvm.Cond.code ({ cls := "java/lang/Math", name := "multiplyExact", desc := "(II)I" } : Jvm.MethodName) jdk_29_method_28_code (4 : Nat) (Option.some Jvm.ClassFile.FieldType.int)).before args0 about1 = true := code_word (m := ⟨3, 1⟩) (meth := k3m1) (c := k3c1) (by decide +kernel) rfl rfl rfl (by decide +kernel)
set_option maxRecDepth 65536 in
theorem w_c5 : (Jvm.Cond.code ({ cls := "com/example/entropic_join/entropicjoin/Rows", name := "add", desc := "([I)V" } : Jvm.MethodName) prog_57_method_6_code (3 : Nat) (Option.none : Option Jvm.ClassFile.FieldType)).before args0 about1 = true := code_word (m := ⟨2, 3⟩) (meth := k2m3) (c := k2c3) (by decide +kernel) rfl rfl rfl (by decide +kernel)
set_option maxRecDepth 65536 in
theorem w_c6 : (Jvm.Cond.code ({ cls := "com/example/entropic_join/entropicjoin/Rows", name := "reserveRow", desc := "()I" } : Jvm.MethodName) prog_57_method_17_code (1 : Nat) (Option.some Jvm.ClassFile.FieldType.int)).before args0 about1 = true := code_word (m := ⟨2, 4⟩) (meth := k2m4) (c := k2c4) (by decide +kernel) rfl rfl rfl (by decide +kernel)
set_option maxRecDepth 65536 in
theorem w_c7 : (Jvm.Cond.code ({ cls := "com/example/entropic_join/entropicjoin/Rows", name := "reserveRows", desc := "(I)I" } : Jvm.MethodName) prog_57_method_18_code (8 : Nat) (Option.some Jvm.ClassFile.FieldType.int)).before args0 about1 = true := code_word (m := ⟨2, 5⟩) (meth := k2m5) (c := k2c5) (by decide +kernel) rfl rfl rfl (by decide +kernel)
set_option maxRecDepth 65536 in
theorem w_c8 : (Jvm.Cond.code ({ cls := "com/example/entropic_join/entropicjoin/Rows", name := "get", desc := "(II)I" } : Jvm.MethodName) prog_57_method_5_code (3 : Nat) (Option.some Jvm.ClassFile.FieldType.int)).before args0 about1 = true := code_word (m := ⟨2, 2⟩) (meth := k2m2) (c := k2c2) (by decide +kernel) rfl rfl rfl (by decide +kernel)
def codes1 : List Jvm.Cond := [Jvm.Cond.code x code maxLocals ret, Jvm.Cond.code ({ cls := "com/example/entropic_join/entropicjoin/Rows", name := "<init>", desc := "(I)V" } : Jvm.MethodName) prog_57_method_1_code (2 : Nat) (Option.none : Option Jvm.ClassFile.FieldType), Jvm.Cond.code ({ cls := "com/example/entropic_join/entropicjoin/Rows", name := "<init>", desc := "(II)V" } : Jvm.MethodName) prog_57_method_2_code (3 : Nat) (Option.none : Option Jvm.ClassFile.FieldType), Jvm.Cond.code ({ cls := "java/lang/Object", name := "<init>", desc := "()V" } : Jvm.MethodName) object_method_1_code (1 : Nat) (Option.none : Option Jvm.ClassFile.FieldType), Jvm.Cond.code ({ cls := "java/lang/Math", name := "multiplyExact", desc := "(II)I" } : Jvm.MethodName) jdk_29_method_28_code (4 : Nat) (Option.some Jvm.ClassFile.FieldType.int), Jvm.Cond.code ({ cls := "com/example/entropic_join/entropicjoin/Rows", name := "add", desc := "([I)V" } : Jvm.MethodName) prog_57_method_6_code (3 : Nat) (Option.none : Option Jvm.ClassFile.FieldType), Jvm.Cond.code ({ cls := "com/example/entropic_join/entropicjoin/Rows", name := "reserveRow", desc := "()I" } : Jvm.MethodName) prog_57_method_17_code (1 : Nat) (Option.some Jvm.ClassFile.FieldType.int), Jvm.Cond.code ({ cls := "com/example/entropic_join/entropicjoin/Rows", name := "reserveRows", desc := "(I)I" } : Jvm.MethodName) prog_57_method_18_code (8 : Nat) (Option.some Jvm.ClassFile.FieldType.int), Jvm.Cond.code ({ cls := "com/example/entropic_join/entropicjoin/Rows", name := "get", desc := "(II)I" } : Jvm.MethodName) prog_57_method_5_code (3 : Nat) (Option.some Jvm.ClassFile.FieldType.int)]
set_option maxRecDepth 65536 in
theorem codes_eq : words1.filter isCode = codes1 := rfl
theorem w_codes : ∀ c ∈ words1.filter isCode, c.before args0 about1 = true := by
  rw [codes_eq]
  intro c hc
  simp only [codes1, List.mem_cons, List.not_mem_nil, or_false] at hc
  rcases hc with rfl | rfl | rfl | rfl | rfl | rfl | rfl | rfl | rfl
  · exact w_c0
  · exact w_c1
  · exact w_c2
  · exact w_c3
  · exact w_c4
  · exact w_c5
  · exact w_c6
  · exact w_c7
  · exact w_c8
set_option maxRecDepth 65536 in
theorem w_t1 : (words1.take 24).all (fun c => isCode c || c.before args0 about1) = true := by decide +kernel
set_option maxRecDepth 65536 in
theorem w_t2 : ((words1.drop 24).take 24).all (fun c => isCode c || c.before args0 about1) = true := by decide +kernel
set_option maxRecDepth 65536 in
theorem w_t3 : ((words1.drop 24).drop 24).all (fun c => isCode c || c.before args0 about1) = true := by decide +kernel
theorem w_tables : (allAtoms (Jvm.Cond.code x code maxLocals ret :: tables_1)).before args0 about1 = true := by
  rw [allAtoms_all]
  show words1.all (fun c => c.before args0 about1) = true
  refine all_split ?_ w_codes
  rw [← List.take_append_drop 24 words1, List.all_append, w_t1, ← List.take_append_drop 24 (words1.drop 24), List.all_append, w_t2, w_t3]
  rfl
set_option maxRecDepth 65536 in
theorem w_case : (Jvm.Cond.and given_1 narrow_1).before args0 about1 = true := by decide +kernel
theorem w_applies : (headSpec (Jvm.Cond.code x code maxLocals ret :: tables_1) room_1).applies x e0.platform about1 = true :=
  (Spec.applies_iff w_frames).mpr ⟨w_running, w_runnable, w_alone, w_named, w_hears, w_ripe, w_room, w_tables⟩
theorem atStart : AtStart classFile x code maxLocals ret World_1 tables_1 room_1 Calls_1 rest_1 Pre_1 launch0 p0 e0 about1 theMethod args0 below0 :=
  ⟨lists_1, trivial, launch0.admits_env _ _ _, launch0.least_env, fairChoices_fair.cas, fairChoices_fair.clock, w_frames, w_args, w_heap, w_applies, trivial, trivial, w_case⟩
end start1
theorem witness_1 : WitnessClaimed_1 := ⟨start1.p0, start1.e0, start1.about1, start1.theMethod, start1.args0, start1.below0, start1.atStart⟩
end Jvm.Pilot.@@N@@
