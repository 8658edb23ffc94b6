import JvmDerived
import JvmDerived.Pilot.@@N@@Statement
import JvmDerived.Pilot.@@N@@Code
set_option linter.unusedVariables false
set_option linter.unusedSimpArgs false

namespace Jvm.RoadKit
open Sem ClassFile Op Lib Jvm.Stand Jvm.Free Jvm.LawKit
section New
variable {p : Program} {l : Launch} {e : Env} {R : Room} {s : State} {m : MethodId} {args : Array Value} {below : List Frame} {meth : Method} {c : Code} {T : State} {locs : List Loc} {cells slots : Nat}
theorem retI (X : Stand p l e R s m args below meth c T locs cells slots) (hx : p.tables.exec = Jvm.exec) {pc : Nat} {Ls : Array Slot} {z : Int32} {rest : List Value} (hret : meth.sig.returnType = some .int) (hd : decode c.code pc = .ok (.ireturn, 1)) {fs : List Frame}
    (hl : ∀ (f : JFrame) (acts : List Action), f.method = m → f.locked = none → f.entered = [] → (doReturn e (T.setTop f) acts (some (.int z))).1 = T.setFrames fs) : Steps p.tables e below (T.setTop (mkF m pc Ls (.int z :: rest))) (T.setFrames fs) := by
  exact retOut X hx hret rfl (Or.inl ⟨rfl, Or.inl rfl, _, rfl⟩) hd hl
end New
end Jvm.RoadKit
namespace Jvm.Pilot.@@N@@
open Jvm Jvm.ClassFile Sem Op Lib Jvm.Free Jvm.Stand Jvm.LawKit Jvm.RoadKit Bundle Jvm.Pilot.@@N@@.Jvm.D
theorem own_selP {s : State} {args a1 a2 : Array Value} {y : MethodName} {n : Nat} (wi : (Jvm.Cond.instantiable y.cls n).before a1 s = true) (wp : (Jvm.Cond.privateMethod y).before a2 s = true) (wm : (Jvm.Cond.instanceMethod y).before args s = true) (hy : y.cls ≠ "java/lang/invoke/MethodHandle" ∧ y.cls ≠ "java/lang/invoke/VarHandle") : (Jvm.Cond.selects y.cls y y).before args s = true := by
  obtain ⟨c, k, h1, h2, -, h4, -⟩ := Cond.instantiable_spec wi
  exact selects_self_of_private h1 h2 ((Bool.or_eq_false_iff.mp h4).1) (Cond.privateMethod_at wp) wm hy
theorem own_named {s : State} {args : Array Value} {y : MethodName} {bytes : ByteArray} {mx : Nat} {rt : Option FieldType} (h : (Jvm.Cond.code y bytes mx rt).before args s = true) : ∃ m meth, s.methodNamed? y = some m ∧ s.vm.method? m = some meth ∧ parseMethodDescriptor y.desc = some meth.sig := by
  cases hn : s.methodNamed? y with
  | none => simp [Cond.before, Cond.holds, Cond.value, hn] at h
  | some m =>
    obtain ⟨meth, c, h1, -, -, -, -, -, -, h2⟩ := Cond.code_spec hn h
    exact ⟨m, meth, rfl, h1, h2⟩
theorem own_same {Z s : State} {a0 args : Array Value} {ref owner name desc : String} (hZ : Z.Warmed39 s.vm) (hmh : ref ≠ "java/lang/invoke/MethodHandle" ∧ ref ≠ "java/lang/invoke/VarHandle") (w : (Jvm.Cond.sameMethod ref owner name desc).before a0 Z = true) : (Jvm.Cond.sameMethod ref owner name desc).before args s = true := by
  have q := Cond.sameMethod_setVm (args := a0) hZ.alike hmh w
  simp only [Cond.before, Cond.holds, Cond.value] at q ⊢
  exact q
theorem own_nsroot {Z : State} {a0 : Array Value} {O K : String} {n : Nat} (w : (Jvm.Cond.noSuperclass O).before a0 Z = true) (wk : (Jvm.Cond.instantiable K n).before a0 Z = true) (hn : O ≠ K) : NS Z O K := by
  obtain ⟨c, k, h1, h2, h3, -, -⟩ := Cond.noSuperclass_spec w
  obtain ⟨t, k', g1, -⟩ := Cond.instantiable_spec wk
  have ne := ids_ne h1 g1 hn
  refine ⟨c, t, h1, g1, fun fuel => ?_⟩
  cases fuel with
  | zero => rfl
  | succ f => simp [Vm.isSubclassAux, ne, h2, h3]
theorem own_nsno {Z : State} {a0 : Array Value} {C S K : String} {j : Nat} (w : (Jvm.Cond.superclass C S).before a0 Z = true) (wk : (Jvm.Cond.instantiable K j).before a0 Z = true) (n : NS Z C K) (hn : C ≠ K) : ∃ c t, Z.vm.findClass C = some c ∧ Z.vm.findClass K = some t ∧ Z.vm.assignable c t = false := by
  obtain ⟨c, t, h0, g0, n3⟩ := n
  obtain ⟨p, k, kp, h1, h2, h3, h4, h5, -, h7⟩ := Cond.superclass_spec h0 w
  obtain ⟨t', k', g1, g2, g5, g7, -⟩ := Cond.instantiable_spec wk
  cases g0.symm.trans g1
  have ne := ids_ne h0 g0 hn
  have gi := (Bool.or_eq_false_iff.mp g7).1
  refine ⟨c, t, h0, g0, ?_⟩
  show Z.vm.assignableAux (255 + 1) c t = false
  simp [Vm.assignableAux, ne, h2, g2, h5, g5, gi, Vm.isSubclass, n3]
theorem own_mir {Z s : State} {args : Array Value} {C : String} {a : Addr} (hZ : Z.Warmed39 s.vm) (M : Mir Z C a) : (Term.mirror C).eval args s none [] s = some (.ref a) := by
  obtain ⟨c, k, h1, h2, h3, -⟩ := M
  obtain ⟨k', q1, q2⟩ := hZ.alike.2.2 _ _ h2
  have q3 : k'.mirror = some a := by rw [q2]; exact h3
  have q4 : s.vm.findClass C = some c := by rw [hZ.alike.findClass]; exact h1
  simp [Term.eval, q4, q1, q3]
theorem own_mvNest {Z s : State} {a0 args : Array Value} {own host : String} {index : Nat} {y : MethodName} (hZ : Z.Warmed39 s.vm) (w : (Jvm.Cond.methodLinkNest own index y host).before a0 Z = true) : (Jvm.Cond.methodLinkNest own index y host).before args s = true := (Cond.methodLinkNest_wide hZ w :)
def own_Ars (Z : State) (h : Heap) (a : Addr) (ty : FieldType) (n : Int32) : Prop := ∃ c : Cell, Arr Z h a c ty ∧ c.slots.size = n.toNatClampNeg ∧ ¬ n < 0
theorem own_Ars.lt {Z : State} {h : Heap} {a : Addr} {ty : FieldType} {n : Int32} (F : own_Ars Z h a ty n) : a < h.size := by obtain ⟨c, A, -⟩ := F; exact A.lt
theorem own_Ars.of {Z : State} {h : Heap} {a : Addr} {k : ClassId} {ty : FieldType} {n : Int32} {vs : List Value} {d : Value} (F : Arv Z h a k ty n vs d) : own_Ars Z h a ty n := by obtain ⟨c, A, -, S, N, -⟩ := F; exact ⟨c, A, S, N⟩
theorem own_Ars.ext {Z : State} {h h' : Heap} {a : Addr} {ty : FieldType} {n : Int32} (F : own_Ars Z h a ty n) (E : Ext h h') : own_Ars Z h' a ty n := by obtain ⟨c, A, r⟩ := F; exact ⟨c, A.ext E, r⟩
theorem own_arr {Z : State} {c c' : Cell} {ty : FieldType} (h : Z.isArrayOf c ty ∧ c.vm ≠ .unknown) (e1 : c'.cls = c.cls) (e2 : c'.vm = c.vm) : Z.isArrayOf c' ty ∧ c'.vm ≠ .unknown := by
  obtain ⟨⟨h1, h2⟩, h3⟩ := h
  exact ⟨⟨by rw [e2]; exact h1, by rw [e1]; exact h2⟩, by rw [e2]; exact h3⟩
theorem own_Ars.wr {Z : State} {h h' : Heap} {a b : Addr} {sl : Nat} {v : Value} {ty : FieldType} {n : Int32} (F : own_Ars Z h a ty n) (W : Wr h h' b sl v) : own_Ars Z h' a ty n := by
  obtain ⟨c, A, S, N⟩ := F
  obtain ⟨c', e1, e2, e3, e4, -⟩ := wr_at W A.1
  exact ⟨c', ⟨e1, own_arr A.2 e2 e3⟩, by rw [e4]; exact S, N⟩
theorem own_Ars.keep {Z : State} {h h' : Heap} {a : Addr} {ws : List Addr} {ty : FieldType} {n : Int32} (F : own_Ars Z h a ty n) (K : Keep h h' ws) : own_Ars Z h' a ty n := by
  obtain ⟨c, A, S, N⟩ := F
  obtain ⟨c', e1, e2, e3, e4⟩ := K.2.2 _ _ A.1
  exact ⟨c', ⟨e1, own_arr A.2 e2 e3⟩, by rw [e4]; exact S, N⟩
theorem own_nz {m k : Int32} (h : ¬ ((m &&& k) = (0 : Int32))) : ¬ (m = (0 : Int32)) := fun e => h (by rw [e]; exact Int32.zero_and)
theorem own_z {p : Int32} (h1 : ((p &&& (15 : Int32)) &&& (1 : Int32)) = (0 : Int32)) (h2 : ((p &&& (15 : Int32)) &&& (2 : Int32)) = (0 : Int32)) (h4 : ((p &&& (15 : Int32)) &&& (4 : Int32)) = (0 : Int32)) (h8 : ((p &&& (15 : Int32)) &&& (8 : Int32)) = (0 : Int32)) : (p &&& (15 : Int32)) = (0 : Int32) := by
  have e : ∀ q : BitVec 32, q &&& 15#32 = (((q &&& 15#32) &&& 1#32) ||| ((q &&& 15#32) &&& 2#32)) ||| (((q &&& 15#32) &&& 4#32) ||| ((q &&& 15#32) &&& 8#32)) := fun q => by
    have h : (15#32) = (15#32 &&& 1#32 ||| 15#32 &&& 2#32) ||| (15#32 &&& 4#32 ||| 15#32 &&& 8#32) := by decide
    conv => lhs; rw [h]
    rw [BitVec.and_or_distrib_left, BitVec.and_or_distrib_left, BitVec.and_or_distrib_left, BitVec.and_assoc, BitVec.and_assoc, BitVec.and_assoc, BitVec.and_assoc]
  have e1 := congrArg Int32.toBitVec h1
  have e2 := congrArg Int32.toBitVec h2
  have e4 := congrArg Int32.toBitVec h4
  have e8 := congrArg Int32.toBitVec h8
  simp only [Int32.toBitVec_and] at e1 e2 e4 e8
  apply Int32.toBitVec_inj.mp
  rw [Int32.toBitVec_and]
  have := e p.toBitVec
  have k : (15 : Int32).toBitVec = 15#32 := rfl
  have k1 : (1 : Int32).toBitVec = 1#32 := rfl
  have k2 : (2 : Int32).toBitVec = 2#32 := rfl
  have k4 : (4 : Int32).toBitVec = 4#32 := rfl
  have k8 : (8 : Int32).toBitVec = 8#32 := rfl
  rw [k, k1] at e1; rw [k, k2] at e2; rw [k, k4] at e4; rw [k, k8] at e8
  rw [k, this, e1, e2, e4, e8]; rfl
theorem d5_0 : decode jdk_71_method_1_code 0 = .ok (.aload_n 0, 1) := by decide +kernel
theorem d5_1 : decode jdk_71_method_1_code 1 = .ok (.invokespecial 1, 3) := by decide +kernel
theorem d5_4 : decode jdk_71_method_1_code 4 = .ok (.return_, 1) := by decide +kernel
theorem pn_java_util_AbstractMap : plainName "java/util/AbstractMap" = true := by first | (simp [plainName, overriddenIn]; done) | decide +kernel
theorem ef_rm_AbstractMap (m : MethodId) (x0 : Addr) : entryFrame m #[(.ref x0)] 1 = mkF m 0 #[.val (.ref x0)] [] := by first | (simp [entryFrame, mkF, argsToLocals, Value.category]; done) | rfl
def Q_rm_AbstractMap (Z : State) (a1 : Addr) (h0 : Heap) (n0 : Nat) (v : Option Value) (h : Heap) (L : List Loc) : Prop := v = none ∧ Fr n0 L ∧ h = h0
set_option maxRecDepth 65536 in
set_option maxHeartbeats 40000000 in
theorem rm_AbstractMap (l : Launch) (Z : State) (a0 : Array Value) (hw : ∀ d ∈ tables_1, d.before a0 Z = true) (ws : List Jvm.Cond) (a1 : Addr) (h0 : Heap) (n0 : Nat) (Z0 : n0 ≤ h0.size) :
    MetFree l (⟨"java/util/AbstractMap", "<init>", "()V"⟩ : MethodName) (head1 (Jvm.Cond.code (⟨"java/util/AbstractMap", "<init>", "()V"⟩ : MethodName) jdk_71_method_1_code 1 none :: ws) ({ frames := 1, cells := 0, slots := 0, locals := 12 } : Room)) (fun a U => a = #[(.ref a1)] ∧ Z.Warmed39 U.vm ∧ U.heap = h0) (fun _ _ _ _ _ => True) (fun _ U o U' => ∃ v L, o = .returned v ∧ Q_rm_AbstractMap Z a1 h0 n0 v U'.heap L ∧ FrameEnd U o U' L ({ frames := 1, cells := 0, slots := 0, locals := 12 } : Room).cells ({ frames := 1, cells := 0, slots := 0, locals := 12 } : Room).slots) := by
  refine MetFree.of_bodySF (plainFor_of_name pn_java_util_AbstractMap) hisR ?_
  intro p e s m args below meth c s₁ Bd hml0 hP hK
  obtain ⟨rfl, hZ, hh⟩ := hP
  have hx := Bd.exec
  have hby := Bd.bytes
  have hml : c.maxLocals = 1 := hml0
  have hown : s.vm.findClass "java/util/AbstractMap" = some m.cls := findClass_of_methodNamed Bd.named
  have hnm := (name_of_methodNamed Bd.named Bd.method).1
  have X0 : Stand p l e ({ frames := 1, cells := 0, slots := 0, locals := 12 } : Room) s m #[(.ref a1)] below meth c s₁ [] 0 0 := Stand.of_body Bd
  have e0 : s₁.heap = h0 := by rw [← hh, Bd.state]; rfl
  have N0 := Fr.nil n0
  have pre0 : ∀ t, Steps p.tables e below (s₁.setTop (mkF m 0 #[.val (.ref a1)] [])) t → Steps p.tables e below (s₁.setTop (entryFrame m #[(.ref a1)] 1)) t := fun t k => castTop (ef_rm_AbstractMap m a1) k
  obtain ⟨T1, X1, e1, st1⟩ := initO X0 hx hZ hown (hw _ (List.mem_of_getElem? (i := 31) rfl)) (hw _ (List.mem_of_getElem? (i := 10) rfl)) (hw _ (List.mem_of_getElem? (i := 11) rfl)) e0 (g := (mkF m 1 #[.val (.ref a1)] [(.ref a1)])) rfl (by rw [hml]; rfl) rfl (hb hby d5_1) (by decide) (W := 0) (by show 2 * 0 + _ ≤ _; exact Nat.le_of_eq rfl) (by decide)
  obtain ⟨fs, hr, hrun, hended, hW, hsame⟩ := X1.leave (v := none) (fun _ => rfl)
  refine ⟨_, _, pre0 _ ?_, hrun, hended, _, _, rfl, ?_, ⟨_, rfl⟩, hW, hsame.mono (by decide) (by decide)⟩
  · show Steps p.tables e below (s₁.setTop (mkF m 0 #[.val (.ref a1)] [])) _
    refine XS.aloadN X0.here hx rfl (hb hby d5_0) rfl rfl ?_
    show Steps p.tables e below (s₁.setTop (mkF m 1 #[.val (.ref a1)] [(.ref a1)])) _
    refine st1 _ ?_
    show Steps p.tables e below (T1.setTop (mkF m 4 #[.val (.ref a1)] [])) _
    exact X1.returnOut hx Bd.returns (hb hby d5_4) hr
  · show Q_rm_AbstractMap Z a1 h0 n0 _ T1.heap _
    rw [e1]
    exact ⟨rfl, N0, rfl⟩
theorem d8_0 : decode jdk_22_method_1_code 0 = .ok (.aload_n 0, 1) := by decide +kernel
theorem d8_1 : decode jdk_22_method_1_code 1 = .ok (.invokespecial 1, 3) := by decide +kernel
theorem d8_4 : decode jdk_22_method_1_code 4 = .ok (.return_, 1) := by decide +kernel
theorem pn_java_util_AbstractCollection : plainName "java/util/AbstractCollection" = true := by first | (simp [plainName, overriddenIn]; done) | decide +kernel
theorem ef_rm_AbstractCollection (m : MethodId) (x0 : Addr) : entryFrame m #[(.ref x0)] 1 = mkF m 0 #[.val (.ref x0)] [] := by first | (simp [entryFrame, mkF, argsToLocals, Value.category]; done) | rfl
def Q_rm_AbstractCollection (Z : State) (a1 : Addr) (h0 : Heap) (n0 : Nat) (v : Option Value) (h : Heap) (L : List Loc) : Prop := v = none ∧ Fr n0 L ∧ h = h0
set_option maxRecDepth 65536 in
set_option maxHeartbeats 40000000 in
theorem rm_AbstractCollection (l : Launch) (Z : State) (a0 : Array Value) (hw : ∀ d ∈ tables_1, d.before a0 Z = true) (ws : List Jvm.Cond) (a1 : Addr) (h0 : Heap) (n0 : Nat) (Z0 : n0 ≤ h0.size) :
    MetFree l (⟨"java/util/AbstractCollection", "<init>", "()V"⟩ : MethodName) (head1 (Jvm.Cond.code (⟨"java/util/AbstractCollection", "<init>", "()V"⟩ : MethodName) jdk_22_method_1_code 1 none :: ws) ({ frames := 1, cells := 0, slots := 0, locals := 12 } : Room)) (fun a U => a = #[(.ref a1)] ∧ Z.Warmed39 U.vm ∧ U.heap = h0) (fun _ _ _ _ _ => True) (fun _ U o U' => ∃ v L, o = .returned v ∧ Q_rm_AbstractCollection Z a1 h0 n0 v U'.heap L ∧ FrameEnd U o U' L ({ frames := 1, cells := 0, slots := 0, locals := 12 } : Room).cells ({ frames := 1, cells := 0, slots := 0, locals := 12 } : Room).slots) := by
  refine MetFree.of_bodySF (plainFor_of_name pn_java_util_AbstractCollection) hisR ?_
  intro p e s m args below meth c s₁ Bd hml0 hP hK
  obtain ⟨rfl, hZ, hh⟩ := hP
  have hx := Bd.exec
  have hby := Bd.bytes
  have hml : c.maxLocals = 1 := hml0
  have hown : s.vm.findClass "java/util/AbstractCollection" = some m.cls := findClass_of_methodNamed Bd.named
  have hnm := (name_of_methodNamed Bd.named Bd.method).1
  have X0 : Stand p l e ({ frames := 1, cells := 0, slots := 0, locals := 12 } : Room) s m #[(.ref a1)] below meth c s₁ [] 0 0 := Stand.of_body Bd
  have e0 : s₁.heap = h0 := by rw [← hh, Bd.state]; rfl
  have N0 := Fr.nil n0
  have pre0 : ∀ t, Steps p.tables e below (s₁.setTop (mkF m 0 #[.val (.ref a1)] [])) t → Steps p.tables e below (s₁.setTop (entryFrame m #[(.ref a1)] 1)) t := fun t k => castTop (ef_rm_AbstractCollection m a1) k
  obtain ⟨T1, X1, e1, st1⟩ := initO X0 hx hZ hown (hw _ (List.mem_of_getElem? (i := 55) rfl)) (hw _ (List.mem_of_getElem? (i := 10) rfl)) (hw _ (List.mem_of_getElem? (i := 11) rfl)) e0 (g := (mkF m 1 #[.val (.ref a1)] [(.ref a1)])) rfl (by rw [hml]; rfl) rfl (hb hby d8_1) (by decide) (W := 0) (by show 2 * 0 + _ ≤ _; exact Nat.le_of_eq rfl) (by decide)
  obtain ⟨fs, hr, hrun, hended, hW, hsame⟩ := X1.leave (v := none) (fun _ => rfl)
  refine ⟨_, _, pre0 _ ?_, hrun, hended, _, _, rfl, ?_, ⟨_, rfl⟩, hW, hsame.mono (by decide) (by decide)⟩
  · show Steps p.tables e below (s₁.setTop (mkF m 0 #[.val (.ref a1)] [])) _
    refine XS.aloadN X0.here hx rfl (hb hby d8_0) rfl rfl ?_
    show Steps p.tables e below (s₁.setTop (mkF m 1 #[.val (.ref a1)] [(.ref a1)])) _
    refine st1 _ ?_
    show Steps p.tables e below (T1.setTop (mkF m 4 #[.val (.ref a1)] [])) _
    exact X1.returnOut hx Bd.returns (hb hby d8_4) hr
  · show Q_rm_AbstractCollection Z a1 h0 n0 _ T1.heap _
    rw [e1]
    exact ⟨rfl, N0, rfl⟩
theorem d13_0 : decode prog_15_method_1_code 0 = .ok (.aload_n 0, 1) := by decide +kernel
theorem d13_1 : decode prog_15_method_1_code 1 = .ok (.invokespecial 1, 3) := by decide +kernel
theorem d13_4 : decode prog_15_method_1_code 4 = .ok (.return_, 1) := by decide +kernel
theorem pn_com_example_concordia_concordia_expr_CellArray : plainName "com/example/concordia/concordia/expr/CellArray" = true := by first | (simp [plainName, overriddenIn]; done) | decide +kernel
theorem ef_rm_CellArray (m : MethodId) (x0 : Addr) : entryFrame m #[(.ref x0)] 1 = mkF m 0 #[.val (.ref x0)] [] := by first | (simp [entryFrame, mkF, argsToLocals, Value.category]; done) | rfl
def Q_rm_CellArray (Z : State) (a1 : Addr) (h0 : Heap) (n0 : Nat) (v : Option Value) (h : Heap) (L : List Loc) : Prop := v = none ∧ Fr n0 L ∧ h = h0
set_option maxRecDepth 65536 in
set_option maxHeartbeats 40000000 in
theorem rm_CellArray (l : Launch) (Z : State) (a0 : Array Value) (hw : ∀ d ∈ tables_1, d.before a0 Z = true) (ws : List Jvm.Cond) (a1 : Addr) (h0 : Heap) (n0 : Nat) (Z0 : n0 ≤ h0.size) :
    MetFree l (⟨"com/example/concordia/concordia/expr/CellArray", "<init>", "()V"⟩ : MethodName) (head1 (Jvm.Cond.code (⟨"com/example/concordia/concordia/expr/CellArray", "<init>", "()V"⟩ : MethodName) prog_15_method_1_code 1 none :: ws) ({ frames := 1, cells := 0, slots := 0, locals := 12 } : Room)) (fun a U => a = #[(.ref a1)] ∧ Z.Warmed39 U.vm ∧ U.heap = h0) (fun _ _ _ _ _ => True) (fun _ U o U' => ∃ v L, o = .returned v ∧ Q_rm_CellArray Z a1 h0 n0 v U'.heap L ∧ FrameEnd U o U' L ({ frames := 1, cells := 0, slots := 0, locals := 12 } : Room).cells ({ frames := 1, cells := 0, slots := 0, locals := 12 } : Room).slots) := by
  refine MetFree.of_bodySF (plainFor_of_name pn_com_example_concordia_concordia_expr_CellArray) hisR ?_
  intro p e s m args below meth c s₁ Bd hml0 hP hK
  obtain ⟨rfl, hZ, hh⟩ := hP
  have hx := Bd.exec
  have hby := Bd.bytes
  have hml : c.maxLocals = 1 := hml0
  have hown : s.vm.findClass "com/example/concordia/concordia/expr/CellArray" = some m.cls := findClass_of_methodNamed Bd.named
  have hnm := (name_of_methodNamed Bd.named Bd.method).1
  have X0 : Stand p l e ({ frames := 1, cells := 0, slots := 0, locals := 12 } : Room) s m #[(.ref a1)] below meth c s₁ [] 0 0 := Stand.of_body Bd
  have e0 : s₁.heap = h0 := by rw [← hh, Bd.state]; rfl
  have N0 := Fr.nil n0
  have pre0 : ∀ t, Steps p.tables e below (s₁.setTop (mkF m 0 #[.val (.ref a1)] [])) t → Steps p.tables e below (s₁.setTop (entryFrame m #[(.ref a1)] 1)) t := fun t k => castTop (ef_rm_CellArray m a1) k
  obtain ⟨T1, X1, e1, st1⟩ := initO X0 hx hZ hown (hw _ (List.mem_of_getElem? (i := 96) rfl)) (hw _ (List.mem_of_getElem? (i := 10) rfl)) (hw _ (List.mem_of_getElem? (i := 11) rfl)) e0 (g := (mkF m 1 #[.val (.ref a1)] [(.ref a1)])) rfl (by rw [hml]; rfl) rfl (hb hby d13_1) (by decide) (W := 0) (by show 2 * 0 + _ ≤ _; exact Nat.le_of_eq rfl) (by decide)
  obtain ⟨fs, hr, hrun, hended, hW, hsame⟩ := X1.leave (v := none) (fun _ => rfl)
  refine ⟨_, _, pre0 _ ?_, hrun, hended, _, _, rfl, ?_, ⟨_, rfl⟩, hW, hsame.mono (by decide) (by decide)⟩
  · show Steps p.tables e below (s₁.setTop (mkF m 0 #[.val (.ref a1)] [])) _
    refine XS.aloadN X0.here hx rfl (hb hby d13_0) rfl rfl ?_
    show Steps p.tables e below (s₁.setTop (mkF m 1 #[.val (.ref a1)] [(.ref a1)])) _
    refine st1 _ ?_
    show Steps p.tables e below (T1.setTop (mkF m 4 #[.val (.ref a1)] [])) _
    exact X1.returnOut hx Bd.returns (hb hby d13_4) hr
  · show Q_rm_CellArray Z a1 h0 n0 _ T1.heap _
    rw [e1]
    exact ⟨rfl, N0, rfl⟩
theorem d15_0 : decode prog_26_method_1_code 0 = .ok (.aload_n 0, 1) := by decide +kernel
theorem d15_1 : decode prog_26_method_1_code 1 = .ok (.invokespecial 7, 3) := by decide +kernel
theorem d15_4 : decode prog_26_method_1_code 4 = .ok (.return_, 1) := by decide +kernel
theorem pn_com_example_concordia_concordia_index_Code : plainName "com/example/concordia/concordia/index/Code" = true := by first | (simp [plainName, overriddenIn]; done) | decide +kernel
theorem ef_rm_Code (m : MethodId) (x0 : Addr) : entryFrame m #[(.ref x0)] 1 = mkF m 0 #[.val (.ref x0)] [] := by first | (simp [entryFrame, mkF, argsToLocals, Value.category]; done) | rfl
def Q_rm_Code (Z : State) (a1 : Addr) (h0 : Heap) (n0 : Nat) (v : Option Value) (h : Heap) (L : List Loc) : Prop := v = none ∧ Fr n0 L ∧ h = h0
set_option maxRecDepth 65536 in
set_option maxHeartbeats 40000000 in
theorem rm_Code (l : Launch) (Z : State) (a0 : Array Value) (hw : ∀ d ∈ tables_1, d.before a0 Z = true) (ws : List Jvm.Cond) (a1 : Addr) (h0 : Heap) (n0 : Nat) (Z0 : n0 ≤ h0.size) :
    MetFree l (⟨"com/example/concordia/concordia/index/Code", "<init>", "()V"⟩ : MethodName) (head1 (Jvm.Cond.code (⟨"com/example/concordia/concordia/index/Code", "<init>", "()V"⟩ : MethodName) prog_26_method_1_code 1 none :: ws) ({ frames := 1, cells := 0, slots := 0, locals := 12 } : Room)) (fun a U => a = #[(.ref a1)] ∧ Z.Warmed39 U.vm ∧ U.heap = h0) (fun _ _ _ _ _ => True) (fun _ U o U' => ∃ v L, o = .returned v ∧ Q_rm_Code Z a1 h0 n0 v U'.heap L ∧ FrameEnd U o U' L ({ frames := 1, cells := 0, slots := 0, locals := 12 } : Room).cells ({ frames := 1, cells := 0, slots := 0, locals := 12 } : Room).slots) := by
  refine MetFree.of_bodySF (plainFor_of_name pn_com_example_concordia_concordia_index_Code) hisR ?_
  intro p e s m args below meth c s₁ Bd hml0 hP hK
  obtain ⟨rfl, hZ, hh⟩ := hP
  have hx := Bd.exec
  have hby := Bd.bytes
  have hml : c.maxLocals = 1 := hml0
  have hown : s.vm.findClass "com/example/concordia/concordia/index/Code" = some m.cls := findClass_of_methodNamed Bd.named
  have hnm := (name_of_methodNamed Bd.named Bd.method).1
  have X0 : Stand p l e ({ frames := 1, cells := 0, slots := 0, locals := 12 } : Room) s m #[(.ref a1)] below meth c s₁ [] 0 0 := Stand.of_body Bd
  have e0 : s₁.heap = h0 := by rw [← hh, Bd.state]; rfl
  have N0 := Fr.nil n0
  have pre0 : ∀ t, Steps p.tables e below (s₁.setTop (mkF m 0 #[.val (.ref a1)] [])) t → Steps p.tables e below (s₁.setTop (entryFrame m #[(.ref a1)] 1)) t := fun t k => castTop (ef_rm_Code m a1) k
  obtain ⟨T1, X1, e1, st1⟩ := initO X0 hx hZ hown (hw _ (List.mem_of_getElem? (i := 115) rfl)) (hw _ (List.mem_of_getElem? (i := 10) rfl)) (hw _ (List.mem_of_getElem? (i := 11) rfl)) e0 (g := (mkF m 1 #[.val (.ref a1)] [(.ref a1)])) rfl (by rw [hml]; rfl) rfl (hb hby d15_1) (by decide) (W := 0) (by show 2 * 0 + _ ≤ _; exact Nat.le_of_eq rfl) (by decide)
  obtain ⟨fs, hr, hrun, hended, hW, hsame⟩ := X1.leave (v := none) (fun _ => rfl)
  refine ⟨_, _, pre0 _ ?_, hrun, hended, _, _, rfl, ?_, ⟨_, rfl⟩, hW, hsame.mono (by decide) (by decide)⟩
  · show Steps p.tables e below (s₁.setTop (mkF m 0 #[.val (.ref a1)] [])) _
    refine XS.aloadN X0.here hx rfl (hb hby d15_0) rfl rfl ?_
    show Steps p.tables e below (s₁.setTop (mkF m 1 #[.val (.ref a1)] [(.ref a1)])) _
    refine st1 _ ?_
    show Steps p.tables e below (T1.setTop (mkF m 4 #[.val (.ref a1)] [])) _
    exact X1.returnOut hx Bd.returns (hb hby d15_4) hr
  · show Q_rm_Code Z a1 h0 n0 _ T1.heap _
    rw [e1]
    exact ⟨rfl, N0, rfl⟩
theorem d7_0 : decode jdk_39_method_1_code 0 = .ok (.aload_n 0, 1) := by decide +kernel
theorem d7_1 : decode jdk_39_method_1_code 1 = .ok (.invokespecial 1, 3) := by decide +kernel
theorem pd__40_41V : parseMethodDescriptor "()V" = some ⟨[], none⟩ := by decide +kernel
theorem d7_4 : decode jdk_39_method_1_code 4 = .ok (.aload_n 0, 1) := by decide +kernel
theorem d7_5 : decode jdk_39_method_1_code 5 = .ok (.iconst 0, 1) := by decide +kernel
theorem d7_6 : decode jdk_39_method_1_code 6 = .ok (.putfield 7, 3) := by decide +kernel
theorem d7_9 : decode jdk_39_method_1_code 9 = .ok (.return_, 1) := by decide +kernel
theorem pn_java_util_AbstractList : plainName "java/util/AbstractList" = true := by first | (simp [plainName, overriddenIn]; done) | decide +kernel
theorem ef_rm_ABL (m : MethodId) (x0 : Addr) : entryFrame m #[(.ref x0)] 1 = mkF m 0 #[.val (.ref x0)] [] := by first | (simp [entryFrame, mkF, argsToLocals, Value.category]; done) | rfl
def Q_rm_ABL (Z : State) (a1 : Addr) (v1 : Value) (v2 : Value) (h0 : Heap) (n0 : Nat) (v : Option Value) (h : Heap) (L : List Loc) : Prop := v = none ∧ Fr n0 L ∧ Keep h0 h [a1] ∧ (Fld Z h a1 "java/util/ArrayList" "elementData" "[Ljava/lang/Object;" v2)
set_option maxRecDepth 65536 in
set_option maxHeartbeats 40000000 in
theorem rm_ABL (l : Launch) (Z : State) (a0 : Array Value) (hw : ∀ d ∈ tables_1, d.before a0 Z = true) (ws : List Jvm.Cond) (a1 : Addr) (v1 : Value) (v2 : Value) (h0 : Heap) (n0 : Nat) (Z0 : n0 ≤ h0.size) (pr0 : Exa Z h0 a1 "java/util/ArrayList") (pr1 : Fld Z h0 a1 "java/util/AbstractList" "modCount" "I" v1) (pr2 : Fld Z h0 a1 "java/util/ArrayList" "elementData" "[Ljava/lang/Object;" v2) (pr3 : n0 ≤ a1) :
    MetFree l (⟨"java/util/AbstractList", "<init>", "()V"⟩ : MethodName) (head1 (Jvm.Cond.code (⟨"java/util/AbstractList", "<init>", "()V"⟩ : MethodName) jdk_39_method_1_code 1 none :: ws) ({ frames := 2, cells := 0, slots := 0, locals := 24 } : Room)) (fun a U => a = #[(.ref a1)] ∧ Z.Warmed39 U.vm ∧ U.heap = h0) (fun _ _ _ _ _ => True) (fun _ U o U' => ∃ v L, o = .returned v ∧ Q_rm_ABL Z a1 v1 v2 h0 n0 v U'.heap L ∧ FrameEnd U o U' L ({ frames := 2, cells := 0, slots := 0, locals := 24 } : Room).cells ({ frames := 2, cells := 0, slots := 0, locals := 24 } : Room).slots) := by
  refine MetFree.of_bodySF (plainFor_of_name pn_java_util_AbstractList) hisR ?_
  intro p e s m args below meth c s₁ Bd hml0 hP hK
  obtain ⟨rfl, hZ, hh⟩ := hP
  have hx := Bd.exec
  have hby := Bd.bytes
  have hml : c.maxLocals = 1 := hml0
  have hown : s.vm.findClass "java/util/AbstractList" = some m.cls := findClass_of_methodNamed Bd.named
  have hnm := (name_of_methodNamed Bd.named Bd.method).1
  have X0 : Stand p l e ({ frames := 2, cells := 0, slots := 0, locals := 24 } : Room) s m #[(.ref a1)] below meth c s₁ [] 0 0 := Stand.of_body Bd
  have e0 : s₁.heap = h0 := by rw [← hh, Bd.state]; rfl
  have N0 := Fr.nil n0
  have pre0 : ∀ t, Steps p.tables e below (s₁.setTop (mkF m 0 #[.val (.ref a1)] [])) t → Steps p.tables e below (s₁.setTop (entryFrame m #[(.ref a1)] 1)) t := fun t k => castTop (ef_rm_ABL m a1) k
  obtain ⟨_, _, ⟨T1, L1, k1, n1⟩, -, X1, ⟨Lc1, hQ1, l1, y1, z1⟩, st1⟩ := X0.specialBack hx (y := (⟨"java/util/AbstractCollection", "<init>", "()V"⟩ : MethodName)) rfl hown (mvT hZ (hw _ (List.mem_of_getElem? (i := 49) rfl))) (mvT hZ (hw _ (List.mem_of_getElem? (i := 50) rfl))) (mvT hZ (hw _ (List.mem_of_getElem? (i := 54) rfl))) (by decide) (backOf (W := 0) (rm_AbstractCollection l Z a0 hw [] a1 h0 n0 Z0) hZ (hw _ (List.mem_of_getElem? (i := 54) rfl)) (hw _ (List.mem_of_getElem? (i := 53) rfl)) (by decide) (by decide)) (g := (mkF m 1 #[.val (.ref a1)] [(.ref a1)])) rfl (by rw [hml]; rfl) (Steps.refl _) (a := a1) (argsL := []) (rest := []) (lenOf pd__40_41V rfl) rfl (by show 2 * 0 + _ ≤ _; exact Nat.le_of_eq rfl) (hb hby d7_1) (fun _ _ => ⟨rfl, e0, (by decide : 0 + 0 ≤ _), (by decide : 0 + 0 ≤ _)⟩)
  dsimp only [Pt.U, Pt.locs, Pt.cells, Pt.slots] at X1 l1 y1 z1 st1 hQ1
  subst l1 y1 z1
  obtain ⟨rfl, Nq1, e1⟩ := hQ1
  have N1 := Fr.app N0 Nq1
  obtain ⟨T2, h2, X2, e2, W2, st2⟩ := putF X1 hx hZ hown (host := "") (Or.inl (hw _ (List.mem_of_getElem? (i := 56) rfl))) Via.refl e1 pr1 pr0 (Or.inl (hw _ (List.mem_of_getElem? (i := 57) rfl))) (hw _ (List.mem_of_getElem? (i := 38) rfl)) (ty := .int) (by decide) rfl rfl (g := (mkF m 6 #[.val (.ref a1)] [(.int (0 : Int32)), (.ref a1)])) rfl rfl (hb hby d7_6)
  have N2 := Fr.snoc X2 N1 pr3
  have f2 : Fld Z h2 a1 "java/util/AbstractList" "modCount" "I" (.int (0 : Int32)) := pr1.same W2
  have K3 : Keep h0 h2 [a1] := (Keep.refl h0 [a1]).wr W2 (Or.inl (List.mem_of_getElem? (i := 0) rfl))
  have f4 : Fld Z h2 a1 "java/util/ArrayList" "elementData" "[Ljava/lang/Object;" v2 := (pr2.other W2 (Or.inr (slot_ne (Or.inl (hw _ (List.mem_of_getElem? (i := 60) rfl))) (Or.inl (hw _ (List.mem_of_getElem? (i := 57) rfl))) (by decide) (t := (.array (.object "java/lang/Object"))) (t' := .int) (by decide) (by decide))))
  have f4 : Fld Z h2 a1 "java/util/ArrayList" "elementData" "[Ljava/lang/Object;" v2 := (pr2.other W2 (Or.inr (slot_ne (Or.inl (hw _ (List.mem_of_getElem? (i := 60) rfl))) (Or.inl (hw _ (List.mem_of_getElem? (i := 57) rfl))) (by decide) (t := (.array (.object "java/lang/Object"))) (t' := .int) (by decide) (by decide))))
  obtain ⟨fs, hr, hrun, hended, hW, hsame⟩ := X2.leave (v := none) (fun _ => rfl)
  refine ⟨_, _, pre0 _ ?_, hrun, hended, _, _, rfl, ?_, ⟨_, rfl⟩, hW, hsame.mono (by decide) (by decide)⟩
  · show Steps p.tables e below (s₁.setTop (mkF m 0 #[.val (.ref a1)] [])) _
    refine XS.aloadN X0.here hx rfl (hb hby d7_0) rfl rfl ?_
    show Steps p.tables e below (s₁.setTop (mkF m 1 #[.val (.ref a1)] [(.ref a1)])) _
    refine st1.trans ?_
    show Steps p.tables e below (T1.setTop (mkF m 4 #[.val (.ref a1)] [])) _
    refine XS.aloadN X1.here hx rfl (hb hby d7_4) rfl rfl ?_
    show Steps p.tables e below (T1.setTop (mkF m 5 #[.val (.ref a1)] [(.ref a1)])) _
    refine XS.iconst X1.here hx rfl (hb hby d7_5) ?_
    show Steps p.tables e below (T1.setTop (mkF m 6 #[.val (.ref a1)] [(.int (0 : Int32)), (.ref a1)])) _
    refine st2 _ ?_
    show Steps p.tables e below (T2.setTop (mkF m 9 #[.val (.ref a1)] [])) _
    exact X2.returnOut hx Bd.returns (hb hby d7_9) hr
  · show Q_rm_ABL Z a1 v1 v2 h0 n0 _ T2.heap _
    rw [e2]
    exact ⟨rfl, N2, K3, f4⟩
theorem d6_0 : decode jdk_38_method_2_code 0 = .ok (.aload_n 0, 1) := by decide +kernel
theorem d6_1 : decode jdk_38_method_2_code 1 = .ok (.invokespecial 1, 3) := by decide +kernel
theorem d6_4 : decode jdk_38_method_2_code 4 = .ok (.aload_n 0, 1) := by decide +kernel
theorem d6_5 : decode jdk_38_method_2_code 5 = .ok (.getstatic 39, 3) := by decide +kernel
theorem d6_8 : decode jdk_38_method_2_code 8 = .ok (.putfield 9, 3) := by decide +kernel
theorem d6_11 : decode jdk_38_method_2_code 11 = .ok (.return_, 1) := by decide +kernel
theorem pn_java_util_ArrayList : plainName "java/util/ArrayList" = true := by first | (simp [plainName, overriddenIn]; done) | decide +kernel
theorem ef_rm_AL (m : MethodId) (x0 : Addr) : entryFrame m #[(.ref x0)] 1 = mkF m 0 #[.val (.ref x0)] [] := by first | (simp [entryFrame, mkF, argsToLocals, Value.category]; done) | rfl
def Q_rm_AL (Z : State) (a1 : Addr) (v1 : Value) (v2 : Value) (wD : Addr) (h0 : Heap) (n0 : Nat) (v : Option Value) (h : Heap) (L : List Loc) : Prop := v = none ∧ Fr n0 L ∧ Keep h0 h [a1]
set_option maxRecDepth 65536 in
set_option maxHeartbeats 40000000 in
theorem rm_AL (l : Launch) (Z : State) (a0 : Array Value) (hw : ∀ d ∈ tables_1, d.before a0 Z = true) (ws : List Jvm.Cond) (a1 : Addr) (v1 : Value) (v2 : Value) (wD : Addr) (h0 : Heap) (n0 : Nat) (Z0 : n0 ≤ h0.size) (pr0 : Exa Z h0 a1 "java/util/ArrayList") (pr1 : Fld Z h0 a1 "java/util/AbstractList" "modCount" "I" v1) (pr2 : Fld Z h0 a1 "java/util/ArrayList" "elementData" "[Ljava/lang/Object;" v2) (pr3 : n0 ≤ a1) (pr4 : Sta Z Z.heap "java/util/ArrayList" "DEFAULTCAPACITY_EMPTY_ELEMENTDATA" "[Ljava/lang/Object;" (.ref wD)) (pr5 : Old Z n0 h0) :
    MetFree l (⟨"java/util/ArrayList", "<init>", "()V"⟩ : MethodName) (head1 (Jvm.Cond.code (⟨"java/util/ArrayList", "<init>", "()V"⟩ : MethodName) jdk_38_method_2_code 1 none :: ws) ({ frames := 3, cells := 0, slots := 0, locals := 36 } : Room)) (fun a U => a = #[(.ref a1)] ∧ Z.Warmed39 U.vm ∧ U.heap = h0) (fun _ _ _ _ _ => True) (fun _ U o U' => ∃ v L, o = .returned v ∧ Q_rm_AL Z a1 v1 v2 wD h0 n0 v U'.heap L ∧ FrameEnd U o U' L ({ frames := 3, cells := 0, slots := 0, locals := 36 } : Room).cells ({ frames := 3, cells := 0, slots := 0, locals := 36 } : Room).slots) := by
  refine MetFree.of_bodySF (plainFor_of_name pn_java_util_ArrayList) hisR ?_
  intro p e s m args below meth c s₁ Bd hml0 hP hK
  obtain ⟨rfl, hZ, hh⟩ := hP
  have hx := Bd.exec
  have hby := Bd.bytes
  have hml : c.maxLocals = 1 := hml0
  have hown : s.vm.findClass "java/util/ArrayList" = some m.cls := findClass_of_methodNamed Bd.named
  have hnm := (name_of_methodNamed Bd.named Bd.method).1
  have X0 : Stand p l e ({ frames := 3, cells := 0, slots := 0, locals := 36 } : Room) s m #[(.ref a1)] below meth c s₁ [] 0 0 := Stand.of_body Bd
  have e0 : s₁.heap = h0 := by rw [← hh, Bd.state]; rfl
  have N0 := Fr.nil n0
  have pre0 : ∀ t, Steps p.tables e below (s₁.setTop (mkF m 0 #[.val (.ref a1)] [])) t → Steps p.tables e below (s₁.setTop (entryFrame m #[(.ref a1)] 1)) t := fun t k => castTop (ef_rm_AL m a1) k
  obtain ⟨_, _, ⟨T1, L1, k1, n1⟩, -, X1, ⟨Lc1, hQ1, l1, y1, z1⟩, st1⟩ := X0.specialBack hx (y := (⟨"java/util/AbstractList", "<init>", "()V"⟩ : MethodName)) rfl hown (mvT hZ (hw _ (List.mem_of_getElem? (i := 43) rfl))) (mvT hZ (hw _ (List.mem_of_getElem? (i := 44) rfl))) (mvT hZ (hw _ (List.mem_of_getElem? (i := 48) rfl))) (by decide) (backOf (W := 0) (rm_ABL l Z a0 hw [] a1 v1 v2 h0 n0 Z0 pr0 pr1 pr2 pr3) hZ (hw _ (List.mem_of_getElem? (i := 48) rfl)) (hw _ (List.mem_of_getElem? (i := 47) rfl)) (by decide) (by decide)) (g := (mkF m 1 #[.val (.ref a1)] [(.ref a1)])) rfl (by rw [hml]; rfl) (Steps.refl _) (a := a1) (argsL := []) (rest := []) (lenOf pd__40_41V rfl) rfl (by show 2 * 0 + _ ≤ _; exact Nat.le_of_eq rfl) (hb hby d6_1) (fun _ _ => ⟨rfl, e0, (by decide : 0 + 0 ≤ _), (by decide : 0 + 0 ≤ _)⟩)
  dsimp only [Pt.U, Pt.locs, Pt.cells, Pt.slots] at X1 l1 y1 z1 st1 hQ1
  subst l1 y1 z1
  obtain ⟨rfl, Nq1, Kc1, p1_0⟩ := hQ1
  have K2 : Keep h0 T1.heap [a1] := (Keep.refl h0 [a1]).trans Kc1 (allS (Or.inl (List.mem_of_getElem? (i := 0) rfl)) all0)
  have N1 := Fr.app N0 Nq1
  have f3 : Old Z n0 T1.heap := (pr5.keep Kc1 (allS pr3 all0))
  obtain ⟨T4, X4, e4, st4⟩ := getS2 X1 hx hZ hown (host := "") (Or.inl (hw _ (List.mem_of_getElem? (i := 58) rfl))) Via.refl rfl (pr4.ext f3.2) (g := (mkF m 5 #[.val (.ref a1)] [(.ref a1)])) rfl (hb hby d6_5)
  have f5 : Exa Z T1.heap a1 "java/util/ArrayList" := (pr0.keep Kc1)
  obtain ⟨T6, h6, X6, e6, W6, st6⟩ := putF X4 hx hZ hown (host := "") (Or.inl (hw _ (List.mem_of_getElem? (i := 59) rfl))) Via.refl e4 p1_0 f5 (Or.inl (hw _ (List.mem_of_getElem? (i := 60) rfl))) (hw _ (List.mem_of_getElem? (i := 38) rfl)) (ty := (.array (.object "java/lang/Object"))) (by decide) rfl rfl (g := (mkF m 8 #[.val (.ref a1)] [(.ref wD), (.ref a1)])) rfl rfl (hb hby d6_8)
  have N6 := Fr.snoc X6 N1 pr3
  have f6 : Fld Z h6 a1 "java/util/ArrayList" "elementData" "[Ljava/lang/Object;" (.ref wD) := p1_0.same W6
  have K7 : Keep h0 h6 [a1] := K2.wr W6 (Or.inl (List.mem_of_getElem? (i := 0) rfl))
  obtain ⟨fs, hr, hrun, hended, hW, hsame⟩ := X6.leave (v := none) (fun _ => rfl)
  refine ⟨_, _, pre0 _ ?_, hrun, hended, _, _, rfl, ?_, ⟨_, rfl⟩, hW, hsame.mono (by decide) (by decide)⟩
  · show Steps p.tables e below (s₁.setTop (mkF m 0 #[.val (.ref a1)] [])) _
    refine XS.aloadN X0.here hx rfl (hb hby d6_0) rfl rfl ?_
    show Steps p.tables e below (s₁.setTop (mkF m 1 #[.val (.ref a1)] [(.ref a1)])) _
    refine st1.trans ?_
    show Steps p.tables e below (T1.setTop (mkF m 4 #[.val (.ref a1)] [])) _
    refine XS.aloadN X1.here hx rfl (hb hby d6_4) rfl rfl ?_
    show Steps p.tables e below (T1.setTop (mkF m 5 #[.val (.ref a1)] [(.ref a1)])) _
    refine st4 _ ?_
    show Steps p.tables e below (T4.setTop (mkF m 8 #[.val (.ref a1)] [(.ref wD), (.ref a1)])) _
    refine st6 _ ?_
    show Steps p.tables e below (T6.setTop (mkF m 11 #[.val (.ref a1)] [])) _
    exact X6.returnOut hx Bd.returns (hb hby d6_11) hr
  · show Q_rm_AL Z a1 v1 v2 wD h0 n0 _ T6.heap _
    rw [e6]
    exact ⟨rfl, N6, K7⟩
theorem d4_0 : decode jdk_69_method_7_code 0 = .ok (.aload_n 0, 1) := by decide +kernel
theorem d4_1 : decode jdk_69_method_7_code 1 = .ok (.invokespecial 43, 3) := by decide +kernel
theorem d4_4 : decode jdk_69_method_7_code 4 = .ok (.aload_n 0, 1) := by decide +kernel
theorem d4_5 : decode jdk_69_method_7_code 5 = .ok (.ldc 92, 2) := by decide +kernel
theorem d4_7 : decode jdk_69_method_7_code 7 = .ok (.putfield 81, 3) := by decide +kernel
theorem d4_10 : decode jdk_69_method_7_code 10 = .ok (.return_, 1) := by decide +kernel
theorem pn_java_util_HashMap : plainName "java/util/HashMap" = true := by first | (simp [plainName, overriddenIn]; done) | decide +kernel
theorem ef_rm_HM (m : MethodId) (x0 : Addr) : entryFrame m #[(.ref x0)] 1 = mkF m 0 #[.val (.ref x0)] [] := by first | (simp [entryFrame, mkF, argsToLocals, Value.category]; done) | rfl
def Q_rm_HM (Z : State) (a1 : Addr) (v1 : Value) (h0 : Heap) (n0 : Nat) (v : Option Value) (h : Heap) (L : List Loc) : Prop := v = none ∧ Fr n0 L ∧ Keep h0 h [a1]
set_option maxRecDepth 65536 in
set_option maxHeartbeats 40000000 in
theorem rm_HM (l : Launch) (Z : State) (a0 : Array Value) (hw : ∀ d ∈ tables_1, d.before a0 Z = true) (ws : List Jvm.Cond) (a1 : Addr) (v1 : Value) (h0 : Heap) (n0 : Nat) (Z0 : n0 ≤ h0.size) (pr0 : Exa Z h0 a1 "java/util/HashMap") (pr1 : Fld Z h0 a1 "java/util/HashMap" "loadFactor" "F" v1) (pr2 : n0 ≤ a1) :
    MetFree l (⟨"java/util/HashMap", "<init>", "()V"⟩ : MethodName) (head1 (Jvm.Cond.code (⟨"java/util/HashMap", "<init>", "()V"⟩ : MethodName) jdk_69_method_7_code 1 none :: ws) ({ frames := 2, cells := 0, slots := 0, locals := 24 } : Room)) (fun a U => a = #[(.ref a1)] ∧ Z.Warmed39 U.vm ∧ U.heap = h0) (fun _ _ _ _ _ => True) (fun _ U o U' => ∃ v L, o = .returned v ∧ Q_rm_HM Z a1 v1 h0 n0 v U'.heap L ∧ FrameEnd U o U' L ({ frames := 2, cells := 0, slots := 0, locals := 24 } : Room).cells ({ frames := 2, cells := 0, slots := 0, locals := 24 } : Room).slots) := by
  refine MetFree.of_bodySF (plainFor_of_name pn_java_util_HashMap) hisR ?_
  intro p e s m args below meth c s₁ Bd hml0 hP hK
  obtain ⟨rfl, hZ, hh⟩ := hP
  have hx := Bd.exec
  have hby := Bd.bytes
  have hml : c.maxLocals = 1 := hml0
  have hown : s.vm.findClass "java/util/HashMap" = some m.cls := findClass_of_methodNamed Bd.named
  have hnm := (name_of_methodNamed Bd.named Bd.method).1
  have X0 : Stand p l e ({ frames := 2, cells := 0, slots := 0, locals := 24 } : Room) s m #[(.ref a1)] below meth c s₁ [] 0 0 := Stand.of_body Bd
  have e0 : s₁.heap = h0 := by rw [← hh, Bd.state]; rfl
  have N0 := Fr.nil n0
  have pre0 : ∀ t, Steps p.tables e below (s₁.setTop (mkF m 0 #[.val (.ref a1)] [])) t → Steps p.tables e below (s₁.setTop (entryFrame m #[(.ref a1)] 1)) t := fun t k => castTop (ef_rm_HM m a1) k
  obtain ⟨_, _, ⟨T1, L1, k1, n1⟩, -, X1, ⟨Lc1, hQ1, l1, y1, z1⟩, st1⟩ := X0.specialBack hx (y := (⟨"java/util/AbstractMap", "<init>", "()V"⟩ : MethodName)) rfl hown (mvT hZ (hw _ (List.mem_of_getElem? (i := 25) rfl))) (mvT hZ (hw _ (List.mem_of_getElem? (i := 26) rfl))) (mvT hZ (hw _ (List.mem_of_getElem? (i := 30) rfl))) (by decide) (backOf (W := 0) (rm_AbstractMap l Z a0 hw [] a1 h0 n0 Z0) hZ (hw _ (List.mem_of_getElem? (i := 30) rfl)) (hw _ (List.mem_of_getElem? (i := 29) rfl)) (by decide) (by decide)) (g := (mkF m 1 #[.val (.ref a1)] [(.ref a1)])) rfl (by rw [hml]; rfl) (Steps.refl _) (a := a1) (argsL := []) (rest := []) (lenOf pd__40_41V rfl) rfl (by show 2 * 0 + _ ≤ _; exact Nat.le_of_eq rfl) (hb hby d4_1) (fun _ _ => ⟨rfl, e0, (by decide : 0 + 0 ≤ _), (by decide : 0 + 0 ≤ _)⟩)
  dsimp only [Pt.U, Pt.locs, Pt.cells, Pt.slots] at X1 l1 y1 z1 st1 hQ1
  subst l1 y1 z1
  obtain ⟨rfl, Nq1, e1⟩ := hQ1
  have N1 := Fr.app N0 Nq1
  obtain ⟨T2, h2, X2, e2, W2, st2⟩ := putF X1 hx hZ hown (host := "") (Or.inl (hw _ (List.mem_of_getElem? (i := 33) rfl))) Via.refl e1 pr1 pr0 (Or.inr ⟨(hw _ (List.mem_of_getElem? (i := 34) rfl)), rfl, hnm⟩) (hw _ (List.mem_of_getElem? (i := 20) rfl)) (ty := .float) (by decide) rfl rfl (g := (mkF m 7 #[.val (.ref a1)] [(.float (1061158912 : UInt32)), (.ref a1)])) rfl rfl (hb hby d4_7)
  have N2 := Fr.snoc X2 N1 pr2
  have f2 : Fld Z h2 a1 "java/util/HashMap" "loadFactor" "F" (.float (1061158912 : UInt32)) := pr1.same W2
  have K3 : Keep h0 h2 [a1] := (Keep.refl h0 [a1]).wr W2 (Or.inl (List.mem_of_getElem? (i := 0) rfl))
  obtain ⟨fs, hr, hrun, hended, hW, hsame⟩ := X2.leave (v := none) (fun _ => rfl)
  refine ⟨_, _, pre0 _ ?_, hrun, hended, _, _, rfl, ?_, ⟨_, rfl⟩, hW, hsame.mono (by decide) (by decide)⟩
  · show Steps p.tables e below (s₁.setTop (mkF m 0 #[.val (.ref a1)] [])) _
    refine XS.aloadN X0.here hx rfl (hb hby d4_0) rfl rfl ?_
    show Steps p.tables e below (s₁.setTop (mkF m 1 #[.val (.ref a1)] [(.ref a1)])) _
    refine st1.trans ?_
    show Steps p.tables e below (T1.setTop (mkF m 4 #[.val (.ref a1)] [])) _
    refine XS.aloadN X1.here hx rfl (hb hby d4_4) rfl rfl ?_
    show Steps p.tables e below (T1.setTop (mkF m 5 #[.val (.ref a1)] [(.ref a1)])) _
    refine X1.ldcFloatC hx hown (mvT hZ (hw _ (List.mem_of_getElem? (i := 32) rfl))) (g := (mkF m 5 #[.val (.ref a1)] [(.ref a1)])) rfl (hb hby d4_5) _ ?_
    show Steps p.tables e below (T1.setTop (mkF m 7 #[.val (.ref a1)] [(.float (1061158912 : UInt32)), (.ref a1)])) _
    refine st2 _ ?_
    show Steps p.tables e below (T2.setTop (mkF m 10 #[.val (.ref a1)] [])) _
    exact X2.returnOut hx Bd.returns (hb hby d4_10) hr
  · show Q_rm_HM Z a1 v1 h0 n0 _ T2.heap _
    rw [e2]
    exact ⟨rfl, N2, K3⟩
theorem d9_0 : decode prog_22_method_1_code 0 = .ok (.aload_n 0, 1) := by decide +kernel
theorem d9_1 : decode prog_22_method_1_code 1 = .ok (.invokespecial 1, 3) := by decide +kernel
theorem d9_4 : decode prog_22_method_1_code 4 = .ok (.aload_n 0, 1) := by decide +kernel
theorem d9_5 : decode prog_22_method_1_code 5 = .ok (.bipush 16, 2) := by decide +kernel
theorem d9_7 : decode prog_22_method_1_code 7 = .ok (.newarray .int, 2) := by decide +kernel
theorem d9_9 : decode prog_22_method_1_code 9 = .ok (.putfield 7, 3) := by decide +kernel
theorem d9_12 : decode prog_22_method_1_code 12 = .ok (.return_, 1) := by decide +kernel
theorem pn_com_example_concordia_concordia_expr_IntList : plainName "com/example/concordia/concordia/expr/IntList" = true := by first | (simp [plainName, overriddenIn]; done) | decide +kernel
theorem ef_rm_IL (m : MethodId) (x0 : Addr) : entryFrame m #[(.ref x0)] 1 = mkF m 0 #[.val (.ref x0)] [] := by first | (simp [entryFrame, mkF, argsToLocals, Value.category]; done) | rfl
def Q_rm_IL (Z : State) (a1 : Addr) (v1 : Value) (h0 : Heap) (n0 : Nat) (v : Option Value) (h : Heap) (L : List Loc) : Prop := v = none ∧ Fr n0 L ∧ Keep h0 h [a1] ∧ (Fld Z h a1 "com/example/concordia/concordia/expr/IntList" "size" "I" (.int (0 : Int32)))
set_option maxRecDepth 65536 in
set_option maxHeartbeats 40000000 in
theorem rm_IL (l : Launch) (Z : State) (a0 : Array Value) (hw : ∀ d ∈ tables_1, d.before a0 Z = true) (ws : List Jvm.Cond) (a1 : Addr) (v1 : Value) (h0 : Heap) (n0 : Nat) (Z0 : n0 ≤ h0.size) (pr0 : Exa Z h0 a1 "com/example/concordia/concordia/expr/IntList") (pr1 : Fld Z h0 a1 "com/example/concordia/concordia/expr/IntList" "values" "[I" v1) (pr2 : Fld Z h0 a1 "com/example/concordia/concordia/expr/IntList" "size" "I" (.int (0 : Int32))) (pr3 : n0 ≤ a1) :
    MetFree l (⟨"com/example/concordia/concordia/expr/IntList", "<init>", "()V"⟩ : MethodName) (head1 (Jvm.Cond.code (⟨"com/example/concordia/concordia/expr/IntList", "<init>", "()V"⟩ : MethodName) prog_22_method_1_code 1 none :: ws) ({ frames := 1, cells := 1, slots := 16, locals := 12 } : Room)) (fun a U => a = #[(.ref a1)] ∧ Z.Warmed39 U.vm ∧ U.heap = h0) (fun _ _ _ _ _ => True) (fun _ U o U' => ∃ v L, o = .returned v ∧ Q_rm_IL Z a1 v1 h0 n0 v U'.heap L ∧ FrameEnd U o U' L ({ frames := 1, cells := 1, slots := 16, locals := 12 } : Room).cells ({ frames := 1, cells := 1, slots := 16, locals := 12 } : Room).slots) := by
  refine MetFree.of_bodySF (plainFor_of_name pn_com_example_concordia_concordia_expr_IntList) hisR ?_
  intro p e s m args below meth c s₁ Bd hml0 hP hK
  obtain ⟨rfl, hZ, hh⟩ := hP
  have hx := Bd.exec
  have hby := Bd.bytes
  have hml : c.maxLocals = 1 := hml0
  have hown : s.vm.findClass "com/example/concordia/concordia/expr/IntList" = some m.cls := findClass_of_methodNamed Bd.named
  have hnm := (name_of_methodNamed Bd.named Bd.method).1
  have X0 : Stand p l e ({ frames := 1, cells := 1, slots := 16, locals := 12 } : Room) s m #[(.ref a1)] below meth c s₁ [] 0 0 := Stand.of_body Bd
  have e0 : s₁.heap = h0 := by rw [← hh, Bd.state]; rfl
  have N0 := Fr.nil n0
  have pre0 : ∀ t, Steps p.tables e below (s₁.setTop (mkF m 0 #[.val (.ref a1)] [])) t → Steps p.tables e below (s₁.setTop (entryFrame m #[(.ref a1)] 1)) t := fun t k => castTop (ef_rm_IL m a1) k
  obtain ⟨T1, X1, e1, st1⟩ := initO X0 hx hZ hown (hw _ (List.mem_of_getElem? (i := 69) rfl)) (hw _ (List.mem_of_getElem? (i := 10) rfl)) (hw _ (List.mem_of_getElem? (i := 11) rfl)) e0 (g := (mkF m 1 #[.val (.ref a1)] [(.ref a1)])) rfl (by rw [hml]; rfl) rfl (hb hby d9_1) (by decide) (W := 0) (by show 2 * 0 + _ ≤ _; exact Nat.le_of_eq rfl) (by decide)
  obtain ⟨T2, h2, k2, X2, e2, E2, A2, st2⟩ := newP X1 hx hZ (hw _ (List.mem_of_getElem? (i := 70) rfl)) e1 (g := (mkF m 7 #[.val (.ref a1)] [(.int (16 : Int32)), (.ref a1)])) rfl (hb hby d9_7) rfl (by decide) (cap := 16) (by decide) (by decide) (by decide) (by decide)
  obtain ⟨b2, g2⟩ : ∃ z, z = h0.size := ⟨_, rfl⟩
  rw [← g2] at A2 st2
  have gnb2 : n0 ≤ b2 := Nat.le_trans (Nat.le_trans Z0 (Keep.refl h0 [a1]).1) (Nat.le_of_eq g2.symm)
  have gzb2 : h0.size ≤ b2 := Nat.le_trans (Keep.refl h0 [a1]).1 (Nat.le_of_eq g2.symm)
  have K3 : Keep h0 h2 [a1] := (Keep.refl h0 [a1]).ext E2
  have f2 : Arv Z h2 b2 k2 .int (16 : Int32) [(.int (0 : Int32)), (.int (0 : Int32)), (.int (0 : Int32)), (.int (0 : Int32)), (.int (0 : Int32)), (.int (0 : Int32)), (.int (0 : Int32)), (.int (0 : Int32)), (.int (0 : Int32)), (.int (0 : Int32)), (.int (0 : Int32)), (.int (0 : Int32)), (.int (0 : Int32)), (.int (0 : Int32)), (.int (0 : Int32)), (.int (0 : Int32))] (.int (0 : Int32)) := (Arv.new A2 (by decide)).pad (pad_rep [] (.int (0 : Int32)) 16)
  have f4 : Fld Z h2 a1 "com/example/concordia/concordia/expr/IntList" "values" "[I" v1 := (pr1.ext E2)
  have f5 : Exa Z h2 a1 "com/example/concordia/concordia/expr/IntList" := (pr0.ext E2)
  obtain ⟨T6, h6, X6, e6, W6, st6⟩ := putF X2 hx hZ hown (host := "") (Or.inl (hw _ (List.mem_of_getElem? (i := 71) rfl))) Via.refl e2 f4 f5 (Or.inl (hw _ (List.mem_of_getElem? (i := 72) rfl))) (hw _ (List.mem_of_getElem? (i := 64) rfl)) (ty := (.array .int)) (by decide) rfl rfl (g := (mkF m 9 #[.val (.ref a1)] [(.ref b2), (.ref a1)])) rfl rfl (hb hby d9_9)
  have N6 := Fr.snoc X6 N0 pr3
  have f6 : Fld Z h6 a1 "com/example/concordia/concordia/expr/IntList" "values" "[I" (.ref b2) := f4.same W6
  have K7 : Keep h0 h6 [a1] := K3.wr W6 (Or.inl (List.mem_of_getElem? (i := 0) rfl))
  have f8 : Fld Z h6 a1 "com/example/concordia/concordia/expr/IntList" "size" "I" (.int (0 : Int32)) := ((pr2.ext E2).other W6 (Or.inr (slot_ne (Or.inl (hw _ (List.mem_of_getElem? (i := 212) rfl))) (Or.inl (hw _ (List.mem_of_getElem? (i := 72) rfl))) (by decide) (t := .int) (t' := (.array .int)) (by decide) (by decide))))
  have f8 : Fld Z h6 a1 "com/example/concordia/concordia/expr/IntList" "size" "I" (.int (0 : Int32)) := ((pr2.ext E2).other W6 (Or.inr (slot_ne (Or.inl (hw _ (List.mem_of_getElem? (i := 212) rfl))) (Or.inl (hw _ (List.mem_of_getElem? (i := 72) rfl))) (by decide) (t := .int) (t' := (.array .int)) (by decide) (by decide))))
  obtain ⟨fs, hr, hrun, hended, hW, hsame⟩ := X6.leave (v := none) (fun _ => rfl)
  refine ⟨_, _, pre0 _ ?_, hrun, hended, _, _, rfl, ?_, ⟨_, rfl⟩, hW, hsame.mono (by decide) (by decide)⟩
  · show Steps p.tables e below (s₁.setTop (mkF m 0 #[.val (.ref a1)] [])) _
    refine XS.aloadN X0.here hx rfl (hb hby d9_0) rfl rfl ?_
    show Steps p.tables e below (s₁.setTop (mkF m 1 #[.val (.ref a1)] [(.ref a1)])) _
    refine st1 _ ?_
    show Steps p.tables e below (T1.setTop (mkF m 4 #[.val (.ref a1)] [])) _
    refine XS.aloadN X1.here hx rfl (hb hby d9_4) rfl rfl ?_
    show Steps p.tables e below (T1.setTop (mkF m 5 #[.val (.ref a1)] [(.ref a1)])) _
    refine XS.bipush X1.here hx rfl (hb hby d9_5) ?_
    show Steps p.tables e below (T1.setTop (mkF m 7 #[.val (.ref a1)] [(.int (16 : Int32)), (.ref a1)])) _
    refine st2 _ ?_
    show Steps p.tables e below (T2.setTop (mkF m 9 #[.val (.ref a1)] [(.ref b2), (.ref a1)])) _
    refine st6 _ ?_
    show Steps p.tables e below (T6.setTop (mkF m 12 #[.val (.ref a1)] [])) _
    exact X6.returnOut hx Bd.returns (hb hby d9_12) hr
  · show Q_rm_IL Z a1 v1 h0 n0 _ T6.heap _
    rw [e6]
    exact ⟨rfl, N6, K7, f8⟩
theorem d3_0 : decode prog_23_method_1_code 0 = .ok (.aload_n 0, 1) := by decide +kernel
theorem d3_1 : decode prog_23_method_1_code 1 = .ok (.invokespecial 1, 3) := by decide +kernel
theorem d3_4 : decode prog_23_method_1_code 4 = .ok (.aload_n 0, 1) := by decide +kernel
theorem d3_5 : decode prog_23_method_1_code 5 = .ok (.new 7, 3) := by decide +kernel
theorem d3_8 : decode prog_23_method_1_code 8 = .ok (.dup, 1) := by decide +kernel
theorem d3_9 : decode prog_23_method_1_code 9 = .ok (.invokespecial 9, 3) := by decide +kernel
theorem d3_12 : decode prog_23_method_1_code 12 = .ok (.putfield 10, 3) := by decide +kernel
theorem d3_15 : decode prog_23_method_1_code 15 = .ok (.aload_n 0, 1) := by decide +kernel
theorem d3_16 : decode prog_23_method_1_code 16 = .ok (.new 16, 3) := by decide +kernel
theorem d3_19 : decode prog_23_method_1_code 19 = .ok (.dup, 1) := by decide +kernel
theorem d3_20 : decode prog_23_method_1_code 20 = .ok (.invokespecial 18, 3) := by decide +kernel
theorem d3_23 : decode prog_23_method_1_code 23 = .ok (.putfield 19, 3) := by decide +kernel
theorem d3_26 : decode prog_23_method_1_code 26 = .ok (.aload_n 0, 1) := by decide +kernel
theorem d3_27 : decode prog_23_method_1_code 27 = .ok (.new 23, 3) := by decide +kernel
theorem d3_30 : decode prog_23_method_1_code 30 = .ok (.dup, 1) := by decide +kernel
theorem d3_31 : decode prog_23_method_1_code 31 = .ok (.invokespecial 25, 3) := by decide +kernel
theorem d3_34 : decode prog_23_method_1_code 34 = .ok (.putfield 26, 3) := by decide +kernel
theorem d3_37 : decode prog_23_method_1_code 37 = .ok (.return_, 1) := by decide +kernel
theorem pn_com_example_concordia_concordia_expr_SymbolTable : plainName "com/example/concordia/concordia/expr/SymbolTable" = true := by first | (simp [plainName, overriddenIn]; done) | decide +kernel
theorem ef_rm_SY (m : MethodId) (x0 : Addr) : entryFrame m #[(.ref x0)] 1 = mkF m 0 #[.val (.ref x0)] [] := by first | (simp [entryFrame, mkF, argsToLocals, Value.category]; done) | rfl
def Q_rm_SY (Z : State) (a1 : Addr) (v1 : Value) (v2 : Value) (v3 : Value) (wD : Addr) (h0 : Heap) (n0 : Nat) (v : Option Value) (h : Heap) (L : List Loc) : Prop := v = none ∧ Fr n0 L ∧ Keep h0 h [a1]
set_option maxRecDepth 65536 in
set_option maxHeartbeats 40000000 in
theorem rm_SY (l : Launch) (Z : State) (a0 : Array Value) (hw : ∀ d ∈ tables_1, d.before a0 Z = true) (ws : List Jvm.Cond) (a1 : Addr) (v1 : Value) (v2 : Value) (v3 : Value) (wD : Addr) (h0 : Heap) (n0 : Nat) (Z0 : n0 ≤ h0.size) (pr0 : Exa Z h0 a1 "com/example/concordia/concordia/expr/SymbolTable") (pr1 : Fld Z h0 a1 "com/example/concordia/concordia/expr/SymbolTable" "numbers" "Ljava/util/Map;" v1) (pr2 : Fld Z h0 a1 "com/example/concordia/concordia/expr/SymbolTable" "names" "Ljava/util/List;" v2) (pr3 : Fld Z h0 a1 "com/example/concordia/concordia/expr/SymbolTable" "arities" "Lcom/example/concordia/concordia/expr/IntList;" v3) (pr4 : n0 ≤ a1) (pr5 : Sta Z Z.heap "java/util/ArrayList" "DEFAULTCAPACITY_EMPTY_ELEMENTDATA" "[Ljava/lang/Object;" (.ref wD)) (pr6 : Old Z n0 h0) :
    MetFree l (⟨"com/example/concordia/concordia/expr/SymbolTable", "<init>", "()V"⟩ : MethodName) (head1 (Jvm.Cond.code (⟨"com/example/concordia/concordia/expr/SymbolTable", "<init>", "()V"⟩ : MethodName) prog_23_method_1_code 1 none :: ws) ({ frames := 4, cells := 4, slots := 29, locals := 50 } : Room)) (fun a U => a = #[(.ref a1)] ∧ Z.Warmed39 U.vm ∧ U.heap = h0) (fun _ _ _ _ _ => True) (fun _ U o U' => ∃ v L, o = .returned v ∧ Q_rm_SY Z a1 v1 v2 v3 wD h0 n0 v U'.heap L ∧ FrameEnd U o U' L ({ frames := 4, cells := 4, slots := 29, locals := 50 } : Room).cells ({ frames := 4, cells := 4, slots := 29, locals := 50 } : Room).slots) := by
  refine MetFree.of_bodySF (plainFor_of_name pn_com_example_concordia_concordia_expr_SymbolTable) hisR ?_
  intro p e s m args below meth c s₁ Bd hml0 hP hK
  obtain ⟨rfl, hZ, hh⟩ := hP
  have hx := Bd.exec
  have hby := Bd.bytes
  have hml : c.maxLocals = 1 := hml0
  have hown : s.vm.findClass "com/example/concordia/concordia/expr/SymbolTable" = some m.cls := findClass_of_methodNamed Bd.named
  have hnm := (name_of_methodNamed Bd.named Bd.method).1
  have X0 : Stand p l e ({ frames := 4, cells := 4, slots := 29, locals := 50 } : Room) s m #[(.ref a1)] below meth c s₁ [] 0 0 := Stand.of_body Bd
  have e0 : s₁.heap = h0 := by rw [← hh, Bd.state]; rfl
  have N0 := Fr.nil n0
  have pre0 : ∀ t, Steps p.tables e below (s₁.setTop (mkF m 0 #[.val (.ref a1)] [])) t → Steps p.tables e below (s₁.setTop (entryFrame m #[(.ref a1)] 1)) t := fun t k => castTop (ef_rm_SY m a1) k
  obtain ⟨T1, X1, e1, st1⟩ := initO X0 hx hZ hown (hw _ (List.mem_of_getElem? (i := 18) rfl)) (hw _ (List.mem_of_getElem? (i := 10) rfl)) (hw _ (List.mem_of_getElem? (i := 11) rfl)) e0 (g := (mkF m 1 #[.val (.ref a1)] [(.ref a1)])) rfl (by rw [hml]; rfl) rfl (hb hby d3_1) (by decide) (W := 0) (by show 2 * 0 + _ ≤ _; exact Nat.le_of_eq rfl) (by decide)
  obtain ⟨T2, h2, X2, e2, E2, A2, D2, -, st2⟩ := newO X1 hx hZ hown (hw _ (List.mem_of_getElem? (i := 19) rfl)) (hw _ (List.mem_of_getElem? (i := 20) rfl)) (hw _ (List.mem_of_getElem? (i := 21) rfl)) e1 (g := (mkF m 5 #[.val (.ref a1)] [(.ref a1)])) rfl (hb hby d3_5) (by decide) (by decide)
  obtain ⟨b2, g2⟩ : ∃ z, z = h0.size := ⟨_, rfl⟩
  rw [← g2] at A2 D2 st2
  have gnb2 : n0 ≤ b2 := Nat.le_trans (Nat.le_trans Z0 (Keep.refl h0 [a1]).1) (Nat.le_of_eq g2.symm)
  have gzb2 : h0.size ≤ b2 := Nat.le_trans (Keep.refl h0 [a1]).1 (Nat.le_of_eq g2.symm)
  have K3 : Keep h0 h2 [a1] := (Keep.refl h0 [a1]).ext E2
  have f4 : Fld Z h2 b2 "java/util/HashMap" "loadFactor" "F" (defaultValue .float) := D2 (Or.inr (hw _ (List.mem_of_getElem? (i := 34) rfl))) (ty := .float) (by decide)
  obtain ⟨_, _, ⟨T5, L5, k5, n5⟩, -, X5, ⟨Lc5, hQ5, l5, y5, z5⟩, st5⟩ := X2.specialBack hx (y := (⟨"java/util/HashMap", "<init>", "()V"⟩ : MethodName)) rfl hown (mvT hZ (hw _ (List.mem_of_getElem? (i := 22) rfl))) (mvT hZ (hw _ (List.mem_of_getElem? (i := 23) rfl))) (mvT hZ (hw _ (List.mem_of_getElem? (i := 24) rfl))) (by decide) (backOf (W := 2) (rm_HM l Z a0 hw [] b2 (defaultValue .float) h2 n0 (Nat.le_trans Z0 K3.1) A2 f4 gnb2) hZ (hw _ (List.mem_of_getElem? (i := 24) rfl)) (hw _ (List.mem_of_getElem? (i := 21) rfl)) (by decide) (by decide)) (g := (mkF m 9 #[.val (.ref a1)] [(.ref b2), (.ref b2), (.ref a1)])) rfl (by rw [hml]; rfl) (Steps.refl _) (a := b2) (argsL := []) (rest := [(.ref b2), (.ref a1)]) (lenOf pd__40_41V rfl) rfl (by show 2 * 0 + _ ≤ _; exact Nat.le_of_eq rfl) (hb hby d3_9) (fun _ _ => ⟨rfl, e2, (by decide : 1 + 0 ≤ _), (by decide : 8 + 0 ≤ _)⟩)
  dsimp only [Pt.U, Pt.locs, Pt.cells, Pt.slots] at X5 l5 y5 z5 st5 hQ5
  subst l5 y5 z5
  obtain ⟨rfl, Nq5, Kc5⟩ := hQ5
  have K6 : Keep h0 T5.heap [a1] := K3.trans Kc5 (allS (Or.inr gzb2) all0)
  have N5 := Fr.app N0 Nq5
  have f7 : Fld Z T5.heap a1 "com/example/concordia/concordia/expr/SymbolTable" "numbers" "Ljava/util/Map;" v1 := ((pr1.ext E2).keep Kc5 (ninS (Nat.ne_of_lt (Nat.lt_of_lt_of_le pr0.lt (Nat.le_of_eq g2.symm))) nin0))
  have f8 : Exa Z T5.heap a1 "com/example/concordia/concordia/expr/SymbolTable" := ((pr0.ext E2).keep Kc5)
  obtain ⟨T9, h9, X9, e9, W9, st9⟩ := putF X5 hx hZ hown (host := "") (Or.inl (hw _ (List.mem_of_getElem? (i := 35) rfl))) Via.refl rfl f7 f8 (Or.inr ⟨(hw _ (List.mem_of_getElem? (i := 36) rfl)), rfl, hnm⟩) (hw _ (List.mem_of_getElem? (i := 13) rfl)) (ty := (.object "java/util/Map")) (by decide) rfl rfl (g := (mkF m 12 #[.val (.ref a1)] [(.ref b2), (.ref a1)])) rfl rfl (hb hby d3_12)
  have N9 := Fr.snoc X9 N5 pr4
  have f9 : Fld Z h9 a1 "com/example/concordia/concordia/expr/SymbolTable" "numbers" "Ljava/util/Map;" (.ref b2) := f7.same W9
  have K10 : Keep h0 h9 [a1] := K6.wr W9 (Or.inl (List.mem_of_getElem? (i := 0) rfl))
  obtain ⟨T11, h11, X11, e11, E11, A11, D11, -, st11⟩ := newO X9 hx hZ hown (hw _ (List.mem_of_getElem? (i := 37) rfl)) (hw _ (List.mem_of_getElem? (i := 38) rfl)) (hw _ (List.mem_of_getElem? (i := 39) rfl)) e9 (g := (mkF m 16 #[.val (.ref a1)] [(.ref a1)])) rfl (hb hby d3_16) (by decide) (by decide)
  obtain ⟨b11, g11⟩ : ∃ z, z = h9.size := ⟨_, rfl⟩
  rw [← g11] at A11 D11 st11
  have gnb11 : n0 ≤ b11 := Nat.le_trans (Nat.le_trans Z0 K10.1) (Nat.le_of_eq g11.symm)
  have gzb11 : h0.size ≤ b11 := Nat.le_trans K10.1 (Nat.le_of_eq g11.symm)
  have K12 : Keep h0 h11 [a1] := K10.ext E11
  have f13 : Fld Z h11 b11 "java/util/AbstractList" "modCount" "I" (.int (0 : Int32)) := D11 (Or.inl (hw _ (List.mem_of_getElem? (i := 57) rfl))) (ty := .int) (by decide)
  have f14 : Fld Z h11 b11 "java/util/ArrayList" "elementData" "[Ljava/lang/Object;" .null := D11 (Or.inl (hw _ (List.mem_of_getElem? (i := 60) rfl))) (ty := (.array (.object "java/lang/Object"))) (by decide)
  have f15 : Old Z n0 h11 := ((((pr6.ext E2).keep Kc5 (allS gnb2 all0)).wr W9 pr4).ext E11)
  obtain ⟨_, _, ⟨T16, L16, k16, n16⟩, -, X16, ⟨Lc16, hQ16, l16, y16, z16⟩, st16⟩ := X11.specialBack hx (y := (⟨"java/util/ArrayList", "<init>", "()V"⟩ : MethodName)) rfl hown (mvT hZ (hw _ (List.mem_of_getElem? (i := 40) rfl))) (mvT hZ (hw _ (List.mem_of_getElem? (i := 41) rfl))) (mvT hZ (hw _ (List.mem_of_getElem? (i := 42) rfl))) (by decide) (backOf (W := 2) (rm_AL l Z a0 hw [] b11 (.int (0 : Int32)) .null wD h11 n0 (Nat.le_trans Z0 K12.1) A11 f13 f14 gnb11 pr5 f15) hZ (hw _ (List.mem_of_getElem? (i := 42) rfl)) (hw _ (List.mem_of_getElem? (i := 39) rfl)) (by decide) (by decide)) (g := (mkF m 20 #[.val (.ref a1)] [(.ref b11), (.ref b11), (.ref a1)])) rfl (by rw [hml]; rfl) (Steps.refl _) (a := b11) (argsL := []) (rest := [(.ref b11), (.ref a1)]) (lenOf pd__40_41V rfl) rfl (by show 2 * 0 + _ ≤ _; exact Nat.le_of_eq rfl) (hb hby d3_20) (fun _ _ => ⟨rfl, e11, (by decide : 2 + 0 ≤ _), (by decide : 11 + 0 ≤ _)⟩)
  dsimp only [Pt.U, Pt.locs, Pt.cells, Pt.slots] at X16 l16 y16 z16 st16 hQ16
  subst l16 y16 z16
  obtain ⟨rfl, Nq16, Kc16⟩ := hQ16
  have K17 : Keep h0 T16.heap [a1] := K12.trans Kc16 (allS (Or.inr gzb11) all0)
  have N16 := Fr.app N9 Nq16
  have f18 : Fld Z T16.heap a1 "com/example/concordia/concordia/expr/SymbolTable" "names" "Ljava/util/List;" v2 := (((((pr2.ext E2).keep Kc5 (ninS (Nat.ne_of_lt (Nat.lt_of_lt_of_le pr0.lt (Nat.le_of_eq g2.symm))) nin0)).other W9 (Or.inr (slot_ne (Or.inr (hw _ (List.mem_of_getElem? (i := 62) rfl))) (Or.inr (hw _ (List.mem_of_getElem? (i := 36) rfl))) (by decide) (t := (.object "java/util/List")) (t' := (.object "java/util/Map")) (by decide) (by decide)))).ext E11).keep Kc16 (ninS (Nat.ne_of_lt (Nat.lt_of_lt_of_le (f8.wr W9).lt (Nat.le_of_eq g11.symm))) nin0))
  have f19 : Exa Z T16.heap a1 "com/example/concordia/concordia/expr/SymbolTable" := (((f8.wr W9).ext E11).keep Kc16)
  obtain ⟨T20, h20, X20, e20, W20, st20⟩ := putF X16 hx hZ hown (host := "") (Or.inl (hw _ (List.mem_of_getElem? (i := 61) rfl))) Via.refl rfl f18 f19 (Or.inr ⟨(hw _ (List.mem_of_getElem? (i := 62) rfl)), rfl, hnm⟩) (hw _ (List.mem_of_getElem? (i := 13) rfl)) (ty := (.object "java/util/List")) (by decide) rfl rfl (g := (mkF m 23 #[.val (.ref a1)] [(.ref b11), (.ref a1)])) rfl rfl (hb hby d3_23)
  have N20 := Fr.snoc X20 N16 pr4
  have f20 : Fld Z h20 a1 "com/example/concordia/concordia/expr/SymbolTable" "names" "Ljava/util/List;" (.ref b11) := f18.same W20
  have K21 : Keep h0 h20 [a1] := K17.wr W20 (Or.inl (List.mem_of_getElem? (i := 0) rfl))
  obtain ⟨T22, h22, X22, e22, E22, A22, D22, -, st22⟩ := newO X20 hx hZ hown (hw _ (List.mem_of_getElem? (i := 63) rfl)) (hw _ (List.mem_of_getElem? (i := 64) rfl)) (hw _ (List.mem_of_getElem? (i := 65) rfl)) e20 (g := (mkF m 27 #[.val (.ref a1)] [(.ref a1)])) rfl (hb hby d3_27) (by decide) (by decide)
  obtain ⟨b22, g22⟩ : ∃ z, z = h20.size := ⟨_, rfl⟩
  rw [← g22] at A22 D22 st22
  have gnb22 : n0 ≤ b22 := Nat.le_trans (Nat.le_trans Z0 K21.1) (Nat.le_of_eq g22.symm)
  have gzb22 : h0.size ≤ b22 := Nat.le_trans K21.1 (Nat.le_of_eq g22.symm)
  have K23 : Keep h0 h22 [a1] := K21.ext E22
  have f24 : Fld Z h22 b22 "com/example/concordia/concordia/expr/IntList" "values" "[I" .null := D22 (Or.inl (hw _ (List.mem_of_getElem? (i := 72) rfl))) (ty := (.array .int)) (by decide)
  have f25 : Fld Z h22 b22 "com/example/concordia/concordia/expr/IntList" "size" "I" (.int (0 : Int32)) := D22 (Or.inl (hw _ (List.mem_of_getElem? (i := 212) rfl))) (ty := .int) (by decide)
  obtain ⟨_, _, ⟨T26, L26, k26, n26⟩, -, X26, ⟨Lc26, hQ26, l26, y26, z26⟩, st26⟩ := X22.specialBack hx (y := (⟨"com/example/concordia/concordia/expr/IntList", "<init>", "()V"⟩ : MethodName)) rfl hown (mvT hZ (hw _ (List.mem_of_getElem? (i := 66) rfl))) (mvT hZ (hw _ (List.mem_of_getElem? (i := 67) rfl))) (mvT hZ (hw _ (List.mem_of_getElem? (i := 68) rfl))) (by decide) (backOf (W := 2) (rm_IL l Z a0 hw [] b22 .null h22 n0 (Nat.le_trans Z0 K23.1) A22 f24 f25 gnb22) hZ (hw _ (List.mem_of_getElem? (i := 68) rfl)) (hw _ (List.mem_of_getElem? (i := 65) rfl)) (by decide) (by decide)) (g := (mkF m 31 #[.val (.ref a1)] [(.ref b22), (.ref b22), (.ref a1)])) rfl (by rw [hml]; rfl) (Steps.refl _) (a := b22) (argsL := []) (rest := [(.ref b22), (.ref a1)]) (lenOf pd__40_41V rfl) rfl (by show 2 * 0 + _ ≤ _; exact Nat.le_of_eq rfl) (hb hby d3_31) (fun _ _ => ⟨rfl, e22, (by decide : 3 + 1 ≤ _), (by decide : 13 + 16 ≤ _)⟩)
  dsimp only [Pt.U, Pt.locs, Pt.cells, Pt.slots] at X26 l26 y26 z26 st26 hQ26
  subst l26 y26 z26
  obtain ⟨rfl, Nq26, Kc26, p26_0⟩ := hQ26
  have K27 : Keep h0 T26.heap [a1] := K23.trans Kc26 (allS (Or.inr gzb22) all0)
  have N26 := Fr.app N20 Nq26
  have f28 : Fld Z T26.heap a1 "com/example/concordia/concordia/expr/SymbolTable" "arities" "Lcom/example/concordia/concordia/expr/IntList;" v3 := ((((((((pr3.ext E2).keep Kc5 (ninS (Nat.ne_of_lt (Nat.lt_of_lt_of_le pr0.lt (Nat.le_of_eq g2.symm))) nin0)).other W9 (Or.inr (slot_ne (Or.inr (hw _ (List.mem_of_getElem? (i := 74) rfl))) (Or.inr (hw _ (List.mem_of_getElem? (i := 36) rfl))) (by decide) (t := (.object "com/example/concordia/concordia/expr/IntList")) (t' := (.object "java/util/Map")) (by decide) (by decide)))).ext E11).keep Kc16 (ninS (Nat.ne_of_lt (Nat.lt_of_lt_of_le (f8.wr W9).lt (Nat.le_of_eq g11.symm))) nin0)).other W20 (Or.inr (slot_ne (Or.inr (hw _ (List.mem_of_getElem? (i := 74) rfl))) (Or.inr (hw _ (List.mem_of_getElem? (i := 62) rfl))) (by decide) (t := (.object "com/example/concordia/concordia/expr/IntList")) (t' := (.object "java/util/List")) (by decide) (by decide)))).ext E22).keep Kc26 (ninS (Nat.ne_of_lt (Nat.lt_of_lt_of_le (f19.wr W20).lt (Nat.le_of_eq g22.symm))) nin0))
  have f29 : Exa Z T26.heap a1 "com/example/concordia/concordia/expr/SymbolTable" := (((f19.wr W20).ext E22).keep Kc26)
  obtain ⟨T30, h30, X30, e30, W30, st30⟩ := putF X26 hx hZ hown (host := "") (Or.inl (hw _ (List.mem_of_getElem? (i := 73) rfl))) Via.refl rfl f28 f29 (Or.inr ⟨(hw _ (List.mem_of_getElem? (i := 74) rfl)), rfl, hnm⟩) (hw _ (List.mem_of_getElem? (i := 13) rfl)) (ty := (.object "com/example/concordia/concordia/expr/IntList")) (by decide) rfl rfl (g := (mkF m 34 #[.val (.ref a1)] [(.ref b22), (.ref a1)])) rfl rfl (hb hby d3_34)
  have N30 := Fr.snoc X30 N26 pr4
  have f30 : Fld Z h30 a1 "com/example/concordia/concordia/expr/SymbolTable" "arities" "Lcom/example/concordia/concordia/expr/IntList;" (.ref b22) := f28.same W30
  have K31 : Keep h0 h30 [a1] := K27.wr W30 (Or.inl (List.mem_of_getElem? (i := 0) rfl))
  obtain ⟨fs, hr, hrun, hended, hW, hsame⟩ := X30.leave (v := none) (fun _ => rfl)
  refine ⟨_, _, pre0 _ ?_, hrun, hended, _, _, rfl, ?_, ⟨_, rfl⟩, hW, hsame.mono (by decide) (by decide)⟩
  · show Steps p.tables e below (s₁.setTop (mkF m 0 #[.val (.ref a1)] [])) _
    refine XS.aloadN X0.here hx rfl (hb hby d3_0) rfl rfl ?_
    show Steps p.tables e below (s₁.setTop (mkF m 1 #[.val (.ref a1)] [(.ref a1)])) _
    refine st1 _ ?_
    show Steps p.tables e below (T1.setTop (mkF m 4 #[.val (.ref a1)] [])) _
    refine XS.aloadN X1.here hx rfl (hb hby d3_4) rfl rfl ?_
    show Steps p.tables e below (T1.setTop (mkF m 5 #[.val (.ref a1)] [(.ref a1)])) _
    refine st2 _ ?_
    show Steps p.tables e below (T2.setTop (mkF m 8 #[.val (.ref a1)] [(.ref b2), (.ref a1)])) _
    refine XS.dup X2.here hx rfl (hb hby d3_8) rfl rfl ?_
    show Steps p.tables e below (T2.setTop (mkF m 9 #[.val (.ref a1)] [(.ref b2), (.ref b2), (.ref a1)])) _
    refine st5.trans ?_
    show Steps p.tables e below (T5.setTop (mkF m 12 #[.val (.ref a1)] [(.ref b2), (.ref a1)])) _
    refine st9 _ ?_
    show Steps p.tables e below (T9.setTop (mkF m 15 #[.val (.ref a1)] [])) _
    refine XS.aloadN X9.here hx rfl (hb hby d3_15) rfl rfl ?_
    show Steps p.tables e below (T9.setTop (mkF m 16 #[.val (.ref a1)] [(.ref a1)])) _
    refine st11 _ ?_
    show Steps p.tables e below (T11.setTop (mkF m 19 #[.val (.ref a1)] [(.ref b11), (.ref a1)])) _
    refine XS.dup X11.here hx rfl (hb hby d3_19) rfl rfl ?_
    show Steps p.tables e below (T11.setTop (mkF m 20 #[.val (.ref a1)] [(.ref b11), (.ref b11), (.ref a1)])) _
    refine st16.trans ?_
    show Steps p.tables e below (T16.setTop (mkF m 23 #[.val (.ref a1)] [(.ref b11), (.ref a1)])) _
    refine st20 _ ?_
    show Steps p.tables e below (T20.setTop (mkF m 26 #[.val (.ref a1)] [])) _
    refine XS.aloadN X20.here hx rfl (hb hby d3_26) rfl rfl ?_
    show Steps p.tables e below (T20.setTop (mkF m 27 #[.val (.ref a1)] [(.ref a1)])) _
    refine st22 _ ?_
    show Steps p.tables e below (T22.setTop (mkF m 30 #[.val (.ref a1)] [(.ref b22), (.ref a1)])) _
    refine XS.dup X22.here hx rfl (hb hby d3_30) rfl rfl ?_
    show Steps p.tables e below (T22.setTop (mkF m 31 #[.val (.ref a1)] [(.ref b22), (.ref b22), (.ref a1)])) _
    refine st26.trans ?_
    show Steps p.tables e below (T26.setTop (mkF m 34 #[.val (.ref a1)] [(.ref b22), (.ref a1)])) _
    refine st30 _ ?_
    show Steps p.tables e below (T30.setTop (mkF m 37 #[.val (.ref a1)] [])) _
    exact X30.returnOut hx Bd.returns (hb hby d3_37) hr
  · show Q_rm_SY Z a1 v1 v2 v3 wD h0 n0 _ T30.heap _
    rw [e30]
    exact ⟨rfl, N30, K31⟩
theorem d11_0 : decode prog_15_method_13_code 0 = .ok (.iload_n 0, 1) := by decide +kernel
theorem d11_1 : decode prog_15_method_13_code 1 = .ok (.i2l, 1) := by decide +kernel
theorem d11_2 : decode prog_15_method_13_code 2 = .ok (.lconst 1, 1) := by decide +kernel
theorem d11_3 : decode prog_15_method_13_code 3 = .ok (.ladd, 1) := by decide +kernel
theorem d11_4 : decode prog_15_method_13_code 4 = .ok (.ldc2_w 37, 3) := by decide +kernel
theorem d11_7 : decode prog_15_method_13_code 7 = .ok (.ldiv, 1) := by decide +kernel
theorem d11_8 : decode prog_15_method_13_code 8 = .ok (.l2i, 1) := by decide +kernel
theorem d11_9 : decode prog_15_method_13_code 9 = .ok (.ireturn, 1) := by decide +kernel
theorem ef_rm_half (m : MethodId) (x0 : Int32) : entryFrame m #[(.int x0)] 1 = mkF m 0 #[.val (.int x0)] [] := by first | (simp [entryFrame, mkF, argsToLocals, Value.category]; done) | rfl
def Q_rm_half (Z : State)  (h0 : Heap) (n0 : Nat) (v : Option Value) (h : Heap) (L : List Loc) : Prop := v = some (.int (512 : Int32)) ∧ Fr n0 L ∧ h = h0
set_option maxRecDepth 65536 in
set_option maxHeartbeats 40000000 in
theorem rm_half (l : Launch) (Z : State) (a0 : Array Value) (hw : ∀ d ∈ tables_1, d.before a0 Z = true) (ws : List Jvm.Cond)  (h0 : Heap) (n0 : Nat) (Z0 : n0 ≤ h0.size) :
    MetFree l (⟨"com/example/concordia/concordia/expr/CellArray", "halfBytes", "(I)I"⟩ : MethodName) (head1 (Jvm.Cond.code (⟨"com/example/concordia/concordia/expr/CellArray", "halfBytes", "(I)I"⟩ : MethodName) prog_15_method_13_code 1 (some .int) :: ws) ({ frames := 0, cells := 0, slots := 0, locals := 0 } : Room)) (fun a U => a = #[(.int (1024 : Int32))] ∧ Z.Warmed39 U.vm ∧ U.heap = h0) (fun _ _ _ _ _ => True) (fun _ U o U' => ∃ v L, o = .returned v ∧ Q_rm_half Z  h0 n0 v U'.heap L ∧ FrameEnd U o U' L ({ frames := 0, cells := 0, slots := 0, locals := 0 } : Room).cells ({ frames := 0, cells := 0, slots := 0, locals := 0 } : Room).slots) := by
  refine MetFree.of_bodySF (plainFor_of_name pn_com_example_concordia_concordia_expr_CellArray) hisR ?_
  intro p e s m args below meth c s₁ Bd hml0 hP hK
  obtain ⟨rfl, hZ, hh⟩ := hP
  have hx := Bd.exec
  have hby := Bd.bytes
  have hml : c.maxLocals = 1 := hml0
  have hown : s.vm.findClass "com/example/concordia/concordia/expr/CellArray" = some m.cls := findClass_of_methodNamed Bd.named
  have hnm := (name_of_methodNamed Bd.named Bd.method).1
  have X0 : Stand p l e ({ frames := 0, cells := 0, slots := 0, locals := 0 } : Room) s m #[(.int (1024 : Int32))] below meth c s₁ [] 0 0 := Stand.of_body Bd
  have e0 : s₁.heap = h0 := by rw [← hh, Bd.state]; rfl
  have N0 := Fr.nil n0
  have pre0 : ∀ t, Steps p.tables e below (s₁.setTop (mkF m 0 #[.val (.int (1024 : Int32))] [])) t → Steps p.tables e below (s₁.setTop (entryFrame m #[(.int (1024 : Int32))] 1)) t := fun t k => castTop (ef_rm_half m (1024 : Int32)) k
  obtain ⟨fs, hr, hrun, hended, hW, hsame⟩ := X0.leave (v := some (.int (512 : Int32))) (fun h => by rw [Bd.returns] at h; cases h)
  refine ⟨_, _, pre0 _ ?_, hrun, hended, _, _, rfl, ?_, ⟨_, rfl⟩, hW, hsame.mono (by decide) (by decide)⟩
  · show Steps p.tables e below (s₁.setTop (mkF m 0 #[.val (.int (1024 : Int32))] [])) _
    refine XS.iloadN X0.here hx rfl (hb hby d11_0) rfl ?_
    show Steps p.tables e below (s₁.setTop (mkF m 1 #[.val (.int (1024 : Int32))] [(.int (1024 : Int32))])) _
    refine XS.i2l X0.here hx rfl (hb hby d11_1) rfl ?_
    show Steps p.tables e below (s₁.setTop (mkF m 2 #[.val (.int (1024 : Int32))] [(.long (1024 : Int64))])) _
    refine XS.lconst X0.here hx rfl (hb hby d11_2) ?_
    show Steps p.tables e below (s₁.setTop (mkF m 3 #[.val (.int (1024 : Int32))] [(.long (1 : Int64)), (.long (1024 : Int64))])) _
    refine XS.ladd X0.here hx rfl (hb hby d11_3) rfl ?_
    show Steps p.tables e below (s₁.setTop (mkF m 4 #[.val (.int (1024 : Int32))] [(.long (1025 : Int64))])) _
    refine X0.ldc2Long hx hown (mvT hZ (hw _ (List.mem_of_getElem? (i := 87) rfl))) (g := (mkF m 4 #[.val (.int (1024 : Int32))] [(.long (1025 : Int64))])) rfl (hb hby d11_4) _ ?_
    show Steps p.tables e below (s₁.setTop (mkF m 7 #[.val (.int (1024 : Int32))] [(.long (2 : Int64)), (.long (1025 : Int64))])) _
    refine XS.ldiv X0.here hx rfl (hb hby d11_7) rfl (by decide : ¬ ((2 : Int64) = (0 : Int64))) ?_
    show Steps p.tables e below (s₁.setTop (mkF m 8 #[.val (.int (1024 : Int32))] [(.long (512 : Int64))])) _
    refine XS.l2i X0.here hx rfl (hb hby d11_8) rfl ?_
    show Steps p.tables e below (s₁.setTop (mkF m 9 #[.val (.int (1024 : Int32))] [(.int (512 : Int32))])) _
    exact retI X0 hx Bd.returns (hb hby d11_9) hr
  · show Q_rm_half Z  h0 n0 _ s₁.heap _
    rw [e0]
    exact ⟨rfl, N0, rfl⟩
theorem d12_0 : decode prog_17_method_1_code 0 = .ok (.aload_n 0, 1) := by decide +kernel
theorem d12_1 : decode prog_17_method_1_code 1 = .ok (.invokespecial 3, 3) := by decide +kernel
theorem d12_4 : decode prog_17_method_1_code 4 = .ok (.aload_n 0, 1) := by decide +kernel
theorem d12_5 : decode prog_17_method_1_code 5 = .ok (.sipush 256, 3) := by decide +kernel
theorem d12_8 : decode prog_17_method_1_code 8 = .ok (.newarray .byte, 2) := by decide +kernel
theorem d12_10 : decode prog_17_method_1_code 10 = .ok (.putfield 11, 3) := by decide +kernel
theorem d12_13 : decode prog_17_method_1_code 13 = .ok (.aload_n 0, 1) := by decide +kernel
theorem d12_14 : decode prog_17_method_1_code 14 = .ok (.aload_n 1, 1) := by decide +kernel
theorem d12_15 : decode prog_17_method_1_code 15 = .ok (.putfield 15, 3) := by decide +kernel
theorem d12_18 : decode prog_17_method_1_code 18 = .ok (.aload_n 0, 1) := by decide +kernel
theorem d12_19 : decode prog_17_method_1_code 19 = .ok (.aload_n 2, 1) := by decide +kernel
theorem d12_20 : decode prog_17_method_1_code 20 = .ok (.putfield 18, 3) := by decide +kernel
theorem d12_23 : decode prog_17_method_1_code 23 = .ok (.aload_n 0, 1) := by decide +kernel
theorem d12_24 : decode prog_17_method_1_code 24 = .ok (.iload_n 3, 1) := by decide +kernel
theorem d12_25 : decode prog_17_method_1_code 25 = .ok (.putfield 22, 3) := by decide +kernel
theorem d12_28 : decode prog_17_method_1_code 28 = .ok (.iconst 0, 1) := by decide +kernel
theorem d12_29 : decode prog_17_method_1_code 29 = .ok (.istore 4, 2) := by decide +kernel
theorem d12_31 : decode prog_17_method_1_code 31 = .ok (.iload 4, 2) := by decide +kernel
theorem d12_33 : decode prog_17_method_1_code 33 = .ok (.iload_n 3, 1) := by decide +kernel
theorem d12_34 : decode prog_17_method_1_code 34 = .ok (.if_icmp .ge 37, 3) := by decide +kernel
theorem d12_71 : decode prog_17_method_1_code 71 = .ok (.return_, 1) := by decide +kernel
theorem pn_com_example_concordia_concordia_expr_CellArray_Codes : plainName "com/example/concordia/concordia/expr/CellArray$Codes" = true := by first | (simp [plainName, overriddenIn]; done) | decide +kernel
theorem ef_rm_CO (m : MethodId) (x0 : Addr) (x1 : Addr) (x2 : Addr) (x3 : Int32) : entryFrame m #[(.ref x0), (.ref x1), (.ref x2), (.int x3)] 5 = mkF m 0 #[.val (.ref x0), .val (.ref x1), .val (.ref x2), .val (.int x3), .unset] [] := by first | (simp [entryFrame, mkF, argsToLocals, Value.category]; done) | rfl
def Q_rm_CO (Z : State) (a1 : Addr) (a2 : Addr) (a3 : Addr) (v1 : Value) (v2 : Value) (v3 : Value) (v4 : Value) (h0 : Heap) (n0 : Nat) (v : Option Value) (h : Heap) (L : List Loc) : Prop := v = none ∧ Fr n0 L ∧ Keep h0 h [a1]
set_option maxRecDepth 65536 in
set_option maxHeartbeats 40000000 in
theorem rm_CO (l : Launch) (Z : State) (a0 : Array Value) (hw : ∀ d ∈ tables_1, d.before a0 Z = true) (ws : List Jvm.Cond) (a1 : Addr) (a2 : Addr) (a3 : Addr) (v1 : Value) (v2 : Value) (v3 : Value) (v4 : Value) (h0 : Heap) (n0 : Nat) (Z0 : n0 ≤ h0.size) (pr0 : Exa Z h0 a1 "com/example/concordia/concordia/expr/CellArray$Codes") (pr1 : Fld Z h0 a1 "com/example/concordia/concordia/expr/CellArray$Codes" "smallCodes" "[B" v1) (pr2 : Fld Z h0 a1 "com/example/concordia/concordia/expr/CellArray$Codes" "codes" "[B" v2) (pr3 : Fld Z h0 a1 "com/example/concordia/concordia/expr/CellArray$Codes" "cells" "[I" v3) (pr4 : Fld Z h0 a1 "com/example/concordia/concordia/expr/CellArray$Codes" "count" "I" v4) (pr5 : n0 ≤ a1) :
    MetFree l (⟨"com/example/concordia/concordia/expr/CellArray$Codes", "<init>", "([B[II)V"⟩ : MethodName) (head1 (Jvm.Cond.code (⟨"com/example/concordia/concordia/expr/CellArray$Codes", "<init>", "([B[II)V"⟩ : MethodName) prog_17_method_1_code 5 none :: ws) ({ frames := 2, cells := 1, slots := 256, locals := 24 } : Room)) (fun a U => a = #[(.ref a1), (.ref a2), (.ref a3), (.int (0 : Int32))] ∧ Z.Warmed39 U.vm ∧ U.heap = h0) (fun _ _ _ _ _ => True) (fun _ U o U' => ∃ v L, o = .returned v ∧ Q_rm_CO Z a1 a2 a3 v1 v2 v3 v4 h0 n0 v U'.heap L ∧ FrameEnd U o U' L ({ frames := 2, cells := 1, slots := 256, locals := 24 } : Room).cells ({ frames := 2, cells := 1, slots := 256, locals := 24 } : Room).slots) := by
  refine MetFree.of_bodySF (plainFor_of_name pn_com_example_concordia_concordia_expr_CellArray_Codes) hisR ?_
  intro p e s m args below meth c s₁ Bd hml0 hP hK
  obtain ⟨rfl, hZ, hh⟩ := hP
  have hx := Bd.exec
  have hby := Bd.bytes
  have hml : c.maxLocals = 5 := hml0
  have hown : s.vm.findClass "com/example/concordia/concordia/expr/CellArray$Codes" = some m.cls := findClass_of_methodNamed Bd.named
  have hnm := (name_of_methodNamed Bd.named Bd.method).1
  have X0 : Stand p l e ({ frames := 2, cells := 1, slots := 256, locals := 24 } : Room) s m #[(.ref a1), (.ref a2), (.ref a3), (.int (0 : Int32))] below meth c s₁ [] 0 0 := Stand.of_body Bd
  have e0 : s₁.heap = h0 := by rw [← hh, Bd.state]; rfl
  have N0 := Fr.nil n0
  have pre0 : ∀ t, Steps p.tables e below (s₁.setTop (mkF m 0 #[.val (.ref a1), .val (.ref a2), .val (.ref a3), .val (.int (0 : Int32)), .unset] [])) t → Steps p.tables e below (s₁.setTop (entryFrame m #[(.ref a1), (.ref a2), (.ref a3), (.int (0 : Int32))] 5)) t := fun t k => castTop (ef_rm_CO m a1 a2 a3 (0 : Int32)) k
  obtain ⟨_, _, ⟨T1, L1, k1, n1⟩, -, X1, ⟨Lc1, hQ1, l1, y1, z1⟩, st1⟩ := X0.specialBack hx (y := (⟨"com/example/concordia/concordia/expr/CellArray", "<init>", "()V"⟩ : MethodName)) rfl hown (mvT hZ (hw _ (List.mem_of_getElem? (i := 92) rfl))) (mvT hZ (hw _ (List.mem_of_getElem? (i := 93) rfl))) (mvT hZ (hw _ (List.mem_of_getElem? (i := 95) rfl))) (by decide) (backOf (W := 0) (rm_CellArray l Z a0 hw [] a1 h0 n0 Z0) hZ (hw _ (List.mem_of_getElem? (i := 95) rfl)) (hw _ (List.mem_of_getElem? (i := 79) rfl)) (by decide) (by decide)) (g := (mkF m 1 #[.val (.ref a1), .val (.ref a2), .val (.ref a3), .val (.int (0 : Int32)), .unset] [(.ref a1)])) rfl (by rw [hml]; rfl) (Steps.refl _) (a := a1) (argsL := []) (rest := []) (lenOf pd__40_41V rfl) rfl (by show 2 * 0 + _ ≤ _; exact Nat.le_of_eq rfl) (hb hby d12_1) (fun _ _ => ⟨rfl, e0, (by decide : 0 + 0 ≤ _), (by decide : 0 + 0 ≤ _)⟩)
  dsimp only [Pt.U, Pt.locs, Pt.cells, Pt.slots] at X1 l1 y1 z1 st1 hQ1
  subst l1 y1 z1
  obtain ⟨rfl, Nq1, e1⟩ := hQ1
  have N1 := Fr.app N0 Nq1
  obtain ⟨T2, h2, k2, X2, e2, E2, A2, st2⟩ := newP X1 hx hZ (hw _ (List.mem_of_getElem? (i := 88) rfl)) e1 (g := (mkF m 8 #[.val (.ref a1), .val (.ref a2), .val (.ref a3), .val (.int (0 : Int32)), .unset] [(.int (256 : Int32)), (.ref a1)])) rfl (hb hby d12_8) rfl (by decide) (cap := 256) (by decide) (by decide) (by decide) (by decide)
  obtain ⟨b2, g2⟩ : ∃ z, z = h0.size := ⟨_, rfl⟩
  rw [← g2] at A2 st2
  have gnb2 : n0 ≤ b2 := Nat.le_trans (Nat.le_trans Z0 (Keep.refl h0 [a1]).1) (Nat.le_of_eq g2.symm)
  have gzb2 : h0.size ≤ b2 := Nat.le_trans (Keep.refl h0 [a1]).1 (Nat.le_of_eq g2.symm)
  have K3 : Keep h0 h2 [a1] := (Keep.refl h0 [a1]).ext E2
  have f2 : own_Ars Z h2 b2 .byte (256 : Int32) := own_Ars.of (Arv.new A2 (by decide))
  have f4 : Fld Z h2 a1 "com/example/concordia/concordia/expr/CellArray$Codes" "smallCodes" "[B" v1 := (pr1.ext E2)
  have f5 : Exa Z h2 a1 "com/example/concordia/concordia/expr/CellArray$Codes" := (pr0.ext E2)
  obtain ⟨T6, h6, X6, e6, W6, st6⟩ := putF X2 hx hZ hown (host := "") (Or.inl (hw _ (List.mem_of_getElem? (i := 97) rfl))) Via.refl e2 f4 f5 (Or.inr ⟨(hw _ (List.mem_of_getElem? (i := 98) rfl)), rfl, hnm⟩) (hw _ (List.mem_of_getElem? (i := 82) rfl)) (ty := (.array .byte)) (by decide) rfl rfl (g := (mkF m 10 #[.val (.ref a1), .val (.ref a2), .val (.ref a3), .val (.int (0 : Int32)), .unset] [(.ref b2), (.ref a1)])) rfl rfl (hb hby d12_10)
  have N6 := Fr.snoc X6 N1 pr5
  have f6 : Fld Z h6 a1 "com/example/concordia/concordia/expr/CellArray$Codes" "smallCodes" "[B" (.ref b2) := f4.same W6
  have K7 : Keep h0 h6 [a1] := K3.wr W6 (Or.inl (List.mem_of_getElem? (i := 0) rfl))
  have f8 : Fld Z h6 a1 "com/example/concordia/concordia/expr/CellArray$Codes" "codes" "[B" v2 := ((pr2.ext E2).other W6 (Or.inr (slot_ne (Or.inr (hw _ (List.mem_of_getElem? (i := 100) rfl))) (Or.inr (hw _ (List.mem_of_getElem? (i := 98) rfl))) (by decide) (t := (.array .byte)) (t' := (.array .byte)) (by decide) (by decide))))
  have f9 : Exa Z h6 a1 "com/example/concordia/concordia/expr/CellArray$Codes" := (f5.wr W6)
  obtain ⟨T10, h10, X10, e10, W10, st10⟩ := putF X6 hx hZ hown (host := "") (Or.inl (hw _ (List.mem_of_getElem? (i := 99) rfl))) Via.refl e6 f8 f9 (Or.inr ⟨(hw _ (List.mem_of_getElem? (i := 100) rfl)), rfl, hnm⟩) (hw _ (List.mem_of_getElem? (i := 82) rfl)) (ty := (.array .byte)) (by decide) rfl rfl (g := (mkF m 15 #[.val (.ref a1), .val (.ref a2), .val (.ref a3), .val (.int (0 : Int32)), .unset] [(.ref a2), (.ref a1)])) rfl rfl (hb hby d12_15)
  have N10 := Fr.snoc X10 N6 pr5
  have f10 : Fld Z h10 a1 "com/example/concordia/concordia/expr/CellArray$Codes" "codes" "[B" (.ref a2) := f8.same W10
  have K11 : Keep h0 h10 [a1] := K7.wr W10 (Or.inl (List.mem_of_getElem? (i := 0) rfl))
  have f12 : Fld Z h10 a1 "com/example/concordia/concordia/expr/CellArray$Codes" "cells" "[I" v3 := (((pr3.ext E2).other W6 (Or.inr (slot_ne (Or.inr (hw _ (List.mem_of_getElem? (i := 102) rfl))) (Or.inr (hw _ (List.mem_of_getElem? (i := 98) rfl))) (by decide) (t := (.array .int)) (t' := (.array .byte)) (by decide) (by decide)))).other W10 (Or.inr (slot_ne (Or.inr (hw _ (List.mem_of_getElem? (i := 102) rfl))) (Or.inr (hw _ (List.mem_of_getElem? (i := 100) rfl))) (by decide) (t := (.array .int)) (t' := (.array .byte)) (by decide) (by decide))))
  have f13 : Exa Z h10 a1 "com/example/concordia/concordia/expr/CellArray$Codes" := (f9.wr W10)
  obtain ⟨T14, h14, X14, e14, W14, st14⟩ := putF X10 hx hZ hown (host := "") (Or.inl (hw _ (List.mem_of_getElem? (i := 101) rfl))) Via.refl e10 f12 f13 (Or.inr ⟨(hw _ (List.mem_of_getElem? (i := 102) rfl)), rfl, hnm⟩) (hw _ (List.mem_of_getElem? (i := 82) rfl)) (ty := (.array .int)) (by decide) rfl rfl (g := (mkF m 20 #[.val (.ref a1), .val (.ref a2), .val (.ref a3), .val (.int (0 : Int32)), .unset] [(.ref a3), (.ref a1)])) rfl rfl (hb hby d12_20)
  have N14 := Fr.snoc X14 N10 pr5
  have f14 : Fld Z h14 a1 "com/example/concordia/concordia/expr/CellArray$Codes" "cells" "[I" (.ref a3) := f12.same W14
  have K15 : Keep h0 h14 [a1] := K11.wr W14 (Or.inl (List.mem_of_getElem? (i := 0) rfl))
  have f16 : Fld Z h14 a1 "com/example/concordia/concordia/expr/CellArray$Codes" "count" "I" v4 := ((((pr4.ext E2).other W6 (Or.inr (slot_ne (Or.inl (hw _ (List.mem_of_getElem? (i := 104) rfl))) (Or.inr (hw _ (List.mem_of_getElem? (i := 98) rfl))) (by decide) (t := .int) (t' := (.array .byte)) (by decide) (by decide)))).other W10 (Or.inr (slot_ne (Or.inl (hw _ (List.mem_of_getElem? (i := 104) rfl))) (Or.inr (hw _ (List.mem_of_getElem? (i := 100) rfl))) (by decide) (t := .int) (t' := (.array .byte)) (by decide) (by decide)))).other W14 (Or.inr (slot_ne (Or.inl (hw _ (List.mem_of_getElem? (i := 104) rfl))) (Or.inr (hw _ (List.mem_of_getElem? (i := 102) rfl))) (by decide) (t := .int) (t' := (.array .int)) (by decide) (by decide))))
  have f17 : Exa Z h14 a1 "com/example/concordia/concordia/expr/CellArray$Codes" := (f13.wr W14)
  obtain ⟨T18, h18, X18, e18, W18, st18⟩ := putF X14 hx hZ hown (host := "") (Or.inl (hw _ (List.mem_of_getElem? (i := 103) rfl))) Via.refl e14 f16 f17 (Or.inl (hw _ (List.mem_of_getElem? (i := 104) rfl))) (hw _ (List.mem_of_getElem? (i := 82) rfl)) (ty := .int) (by decide) rfl rfl (g := (mkF m 25 #[.val (.ref a1), .val (.ref a2), .val (.ref a3), .val (.int (0 : Int32)), .unset] [(.int (0 : Int32)), (.ref a1)])) rfl rfl (hb hby d12_25)
  have N18 := Fr.snoc X18 N14 pr5
  have f18 : Fld Z h18 a1 "com/example/concordia/concordia/expr/CellArray$Codes" "count" "I" (.int (0 : Int32)) := f16.same W18
  have K19 : Keep h0 h18 [a1] := K15.wr W18 (Or.inl (List.mem_of_getElem? (i := 0) rfl))
  obtain ⟨fs, hr, hrun, hended, hW, hsame⟩ := X18.leave (v := none) (fun _ => rfl)
  refine ⟨_, _, pre0 _ ?_, hrun, hended, _, _, rfl, ?_, ⟨_, rfl⟩, hW, hsame.mono (by decide) (by decide)⟩
  · show Steps p.tables e below (s₁.setTop (mkF m 0 #[.val (.ref a1), .val (.ref a2), .val (.ref a3), .val (.int (0 : Int32)), .unset] [])) _
    refine XS.aloadN X0.here hx rfl (hb hby d12_0) rfl rfl ?_
    show Steps p.tables e below (s₁.setTop (mkF m 1 #[.val (.ref a1), .val (.ref a2), .val (.ref a3), .val (.int (0 : Int32)), .unset] [(.ref a1)])) _
    refine st1.trans ?_
    show Steps p.tables e below (T1.setTop (mkF m 4 #[.val (.ref a1), .val (.ref a2), .val (.ref a3), .val (.int (0 : Int32)), .unset] [])) _
    refine XS.aloadN X1.here hx rfl (hb hby d12_4) rfl rfl ?_
    show Steps p.tables e below (T1.setTop (mkF m 5 #[.val (.ref a1), .val (.ref a2), .val (.ref a3), .val (.int (0 : Int32)), .unset] [(.ref a1)])) _
    refine XS.sipush X1.here hx rfl (hb hby d12_5) ?_
    show Steps p.tables e below (T1.setTop (mkF m 8 #[.val (.ref a1), .val (.ref a2), .val (.ref a3), .val (.int (0 : Int32)), .unset] [(.int (256 : Int32)), (.ref a1)])) _
    refine st2 _ ?_
    show Steps p.tables e below (T2.setTop (mkF m 10 #[.val (.ref a1), .val (.ref a2), .val (.ref a3), .val (.int (0 : Int32)), .unset] [(.ref b2), (.ref a1)])) _
    refine st6 _ ?_
    show Steps p.tables e below (T6.setTop (mkF m 13 #[.val (.ref a1), .val (.ref a2), .val (.ref a3), .val (.int (0 : Int32)), .unset] [])) _
    refine XS.aloadN X6.here hx rfl (hb hby d12_13) rfl rfl ?_
    show Steps p.tables e below (T6.setTop (mkF m 14 #[.val (.ref a1), .val (.ref a2), .val (.ref a3), .val (.int (0 : Int32)), .unset] [(.ref a1)])) _
    refine XS.aloadN X6.here hx rfl (hb hby d12_14) rfl rfl ?_
    show Steps p.tables e below (T6.setTop (mkF m 15 #[.val (.ref a1), .val (.ref a2), .val (.ref a3), .val (.int (0 : Int32)), .unset] [(.ref a2), (.ref a1)])) _
    refine st10 _ ?_
    show Steps p.tables e below (T10.setTop (mkF m 18 #[.val (.ref a1), .val (.ref a2), .val (.ref a3), .val (.int (0 : Int32)), .unset] [])) _
    refine XS.aloadN X10.here hx rfl (hb hby d12_18) rfl rfl ?_
    show Steps p.tables e below (T10.setTop (mkF m 19 #[.val (.ref a1), .val (.ref a2), .val (.ref a3), .val (.int (0 : Int32)), .unset] [(.ref a1)])) _
    refine XS.aloadN X10.here hx rfl (hb hby d12_19) rfl rfl ?_
    show Steps p.tables e below (T10.setTop (mkF m 20 #[.val (.ref a1), .val (.ref a2), .val (.ref a3), .val (.int (0 : Int32)), .unset] [(.ref a3), (.ref a1)])) _
    refine st14 _ ?_
    show Steps p.tables e below (T14.setTop (mkF m 23 #[.val (.ref a1), .val (.ref a2), .val (.ref a3), .val (.int (0 : Int32)), .unset] [])) _
    refine XS.aloadN X14.here hx rfl (hb hby d12_23) rfl rfl ?_
    show Steps p.tables e below (T14.setTop (mkF m 24 #[.val (.ref a1), .val (.ref a2), .val (.ref a3), .val (.int (0 : Int32)), .unset] [(.ref a1)])) _
    refine XS.iloadN X14.here hx rfl (hb hby d12_24) rfl ?_
    show Steps p.tables e below (T14.setTop (mkF m 25 #[.val (.ref a1), .val (.ref a2), .val (.ref a3), .val (.int (0 : Int32)), .unset] [(.int (0 : Int32)), (.ref a1)])) _
    refine st18 _ ?_
    show Steps p.tables e below (T18.setTop (mkF m 28 #[.val (.ref a1), .val (.ref a2), .val (.ref a3), .val (.int (0 : Int32)), .unset] [])) _
    refine XS.iconst X18.here hx rfl (hb hby d12_28) ?_
    show Steps p.tables e below (T18.setTop (mkF m 29 #[.val (.ref a1), .val (.ref a2), .val (.ref a3), .val (.int (0 : Int32)), .unset] [(.int (0 : Int32))])) _
    refine XS.istore X18.here hx rfl (hb hby d12_29) rfl (l' := #[.val (.ref a1), .val (.ref a2), .val (.ref a3), .val (.int (0 : Int32)), .val (.int (0 : Int32))]) rfl ?_
    show Steps p.tables e below (T18.setTop (mkF m 31 #[.val (.ref a1), .val (.ref a2), .val (.ref a3), .val (.int (0 : Int32)), .val (.int (0 : Int32))] [])) _
    refine XS.iload X18.here hx rfl (hb hby d12_31) rfl ?_
    show Steps p.tables e below (T18.setTop (mkF m 33 #[.val (.ref a1), .val (.ref a2), .val (.ref a3), .val (.int (0 : Int32)), .val (.int (0 : Int32))] [(.int (0 : Int32))])) _
    refine XS.iloadN X18.here hx rfl (hb hby d12_33) rfl ?_
    show Steps p.tables e below (T18.setTop (mkF m 34 #[.val (.ref a1), .val (.ref a2), .val (.ref a3), .val (.int (0 : Int32)), .val (.int (0 : Int32))] [(.int (0 : Int32)), (.int (0 : Int32))])) _
    refine XS.icmpYes X18.here hx rfl (pc0 := 34) (pc' := 71) rfl (hb hby d12_34) rfl (flt (by decide : ¬ ((0 : Int32) < (0 : Int32)))).2.1 (by decide) (by decide) ?_
    show Steps p.tables e below (T18.setTop (mkF m 71 #[.val (.ref a1), .val (.ref a2), .val (.ref a3), .val (.int (0 : Int32)), .val (.int (0 : Int32))] [])) _
    exact X18.returnOut hx Bd.returns (hb hby d12_71) hr
  · show Q_rm_CO Z a1 a2 a3 v1 v2 v3 v4 h0 n0 _ T18.heap _
    rw [e18]
    exact ⟨rfl, N18, K19⟩
theorem d10_0 : decode prog_15_method_2_code 0 = .ok (.new 7, 3) := by decide +kernel
theorem d10_3 : decode prog_15_method_2_code 3 = .ok (.dup, 1) := by decide +kernel
theorem d10_4 : decode prog_15_method_2_code 4 = .ok (.iload_n 0, 1) := by decide +kernel
theorem d10_5 : decode prog_15_method_2_code 5 = .ok (.invokestatic 9, 3) := by decide +kernel
theorem pd__40I_41I : parseMethodDescriptor "(I)I" = some ⟨[.int], some .int⟩ := by decide +kernel
theorem d10_8 : decode prog_15_method_2_code 8 = .ok (.newarray .byte, 2) := by decide +kernel
theorem d10_10 : decode prog_15_method_2_code 10 = .ok (.bipush 16, 2) := by decide +kernel
theorem d10_12 : decode prog_15_method_2_code 12 = .ok (.newarray .int, 2) := by decide +kernel
theorem d10_14 : decode prog_15_method_2_code 14 = .ok (.iconst 0, 1) := by decide +kernel
theorem d10_15 : decode prog_15_method_2_code 15 = .ok (.invokespecial 15, 3) := by decide +kernel
theorem pd__40_91B_91II_41V : parseMethodDescriptor "([B[II)V" = some ⟨[(.array .byte), (.array .int), .int], none⟩ := by decide +kernel
theorem d10_18 : decode prog_15_method_2_code 18 = .ok (.areturn, 1) := by decide +kernel
theorem ef_rm_nar (m : MethodId) (x0 : Int32) : entryFrame m #[(.int x0)] 1 = mkF m 0 #[.val (.int x0)] [] := by first | (simp [entryFrame, mkF, argsToLocals, Value.category]; done) | rfl
def Q_rm_nar (Z : State)  (h0 : Heap) (n0 : Nat) (v : Option Value) (h : Heap) (L : List Loc) : Prop := ∃ r : Addr, v = some (.ref r) ∧ Fr n0 L ∧ Keep h0 h [] ∧ (h0.size ≤ r)
set_option maxRecDepth 65536 in
set_option maxHeartbeats 40000000 in
theorem rm_nar (l : Launch) (Z : State) (a0 : Array Value) (hw : ∀ d ∈ tables_1, d.before a0 Z = true) (ws : List Jvm.Cond)  (h0 : Heap) (n0 : Nat) (Z0 : n0 ≤ h0.size) :
    MetFree l (⟨"com/example/concordia/concordia/expr/CellArray", "narrowest", "(I)Lcom/example/concordia/concordia/expr/CellArray;"⟩ : MethodName) (head1 (Jvm.Cond.code (⟨"com/example/concordia/concordia/expr/CellArray", "narrowest", "(I)Lcom/example/concordia/concordia/expr/CellArray;"⟩ : MethodName) prog_15_method_2_code 1 (some (.object "com/example/concordia/concordia/expr/CellArray")) :: ws) ({ frames := 3, cells := 4, slots := 788, locals := 41 } : Room)) (fun a U => a = #[(.int (1024 : Int32))] ∧ Z.Warmed39 U.vm ∧ U.heap = h0) (fun _ _ _ _ _ => True) (fun _ U o U' => ∃ v L, o = .returned v ∧ Q_rm_nar Z  h0 n0 v U'.heap L ∧ FrameEnd U o U' L ({ frames := 3, cells := 4, slots := 788, locals := 41 } : Room).cells ({ frames := 3, cells := 4, slots := 788, locals := 41 } : Room).slots) := by
  refine MetFree.of_bodySF (plainFor_of_name pn_com_example_concordia_concordia_expr_CellArray) hisR ?_
  intro p e s m args below meth c s₁ Bd hml0 hP hK
  obtain ⟨rfl, hZ, hh⟩ := hP
  have hx := Bd.exec
  have hby := Bd.bytes
  have hml : c.maxLocals = 1 := hml0
  have hown : s.vm.findClass "com/example/concordia/concordia/expr/CellArray" = some m.cls := findClass_of_methodNamed Bd.named
  have hnm := (name_of_methodNamed Bd.named Bd.method).1
  have X0 : Stand p l e ({ frames := 3, cells := 4, slots := 788, locals := 41 } : Room) s m #[(.int (1024 : Int32))] below meth c s₁ [] 0 0 := Stand.of_body Bd
  have e0 : s₁.heap = h0 := by rw [← hh, Bd.state]; rfl
  have N0 := Fr.nil n0
  have pre0 : ∀ t, Steps p.tables e below (s₁.setTop (mkF m 0 #[.val (.int (1024 : Int32))] [])) t → Steps p.tables e below (s₁.setTop (entryFrame m #[(.int (1024 : Int32))] 1)) t := fun t k => castTop (ef_rm_nar m (1024 : Int32)) k
  obtain ⟨T1, h1, X1, e1, E1, A1, D1, -, st1⟩ := newO X0 hx hZ hown (hw _ (List.mem_of_getElem? (i := 81) rfl)) (hw _ (List.mem_of_getElem? (i := 82) rfl)) (hw _ (List.mem_of_getElem? (i := 83) rfl)) e0 (g := (mkF m 0 #[.val (.int (1024 : Int32))] [])) rfl (hb hby d10_0) (by decide) (by decide)
  obtain ⟨b1, g1⟩ : ∃ z, z = h0.size := ⟨_, rfl⟩
  rw [← g1] at A1 D1 st1
  have gnb1 : n0 ≤ b1 := Nat.le_trans (Nat.le_trans Z0 (Keep.refl h0 []).1) (Nat.le_of_eq g1.symm)
  have gzb1 : h0.size ≤ b1 := Nat.le_trans (Keep.refl h0 []).1 (Nat.le_of_eq g1.symm)
  have K2 : Keep h0 h1 [] := (Keep.refl h0 []).ext E1
  have f3 : Fld Z h1 b1 "com/example/concordia/concordia/expr/CellArray$Codes" "smallCodes" "[B" .null := D1 (Or.inr (hw _ (List.mem_of_getElem? (i := 98) rfl))) (ty := (.array .byte)) (by decide)
  have f4 : Fld Z h1 b1 "com/example/concordia/concordia/expr/CellArray$Codes" "codes" "[B" .null := D1 (Or.inr (hw _ (List.mem_of_getElem? (i := 100) rfl))) (ty := (.array .byte)) (by decide)
  have f5 : Fld Z h1 b1 "com/example/concordia/concordia/expr/CellArray$Codes" "cells" "[I" .null := D1 (Or.inr (hw _ (List.mem_of_getElem? (i := 102) rfl))) (ty := (.array .int)) (by decide)
  have f6 : Fld Z h1 b1 "com/example/concordia/concordia/expr/CellArray$Codes" "count" "I" (.int (0 : Int32)) := D1 (Or.inl (hw _ (List.mem_of_getElem? (i := 104) rfl))) (ty := .int) (by decide)
  obtain ⟨_, _, ⟨T7, L7, k7, n7⟩, -, X7, ⟨Lc7, hQ7, l7, y7, z7⟩, st7⟩ := Jvm.LawKit.callS X1 hx (y := (⟨"com/example/concordia/concordia/expr/CellArray", "halfBytes", "(I)I"⟩ : MethodName)) hown (mvT hZ (hw _ (List.mem_of_getElem? (i := 84) rfl))) (mvT hZ (hw _ (List.mem_of_getElem? (i := 85) rfl))) (mvT hZ (hw _ (List.mem_of_getElem? (i := 79) rfl))) (mvT hZ (hw _ (List.mem_of_getElem? (i := 86) rfl))) (by decide) (backOf (W := 2) (rm_half l Z a0 hw []  h1 n0 (Nat.le_trans Z0 K2.1)) hZ (hw _ (List.mem_of_getElem? (i := 86) rfl)) (hw _ (List.mem_of_getElem? (i := 79) rfl)) (by decide) (by decide)) (g := (mkF m 5 #[.val (.int (1024 : Int32))] [(.int (1024 : Int32)), (.ref b1), (.ref b1)])) rfl (by rw [hml]; rfl) (argsL := [(.int (1024 : Int32))]) (rest := [(.ref b1), (.ref b1)]) (lenOf pd__40I_41I rfl) rfl (by show 2 * 0 + _ ≤ _; exact Nat.le_of_eq rfl) (hb hby d10_5) (fun _ _ => ⟨rfl, e1, (by decide : 1 + 0 ≤ _), (by decide : 4 + 0 ≤ _)⟩)
  dsimp only [Pt.U, Pt.locs, Pt.cells, Pt.slots] at X7 l7 y7 z7 st7 hQ7
  subst l7 y7 z7
  obtain ⟨rfl, Nq7, e7⟩ := hQ7
  have N7 := Fr.app N0 Nq7
  obtain ⟨T8, h8, k8, X8, e8, E8, A8, st8⟩ := newP X7 hx hZ (hw _ (List.mem_of_getElem? (i := 88) rfl)) e7 (g := (mkF m 8 #[.val (.int (1024 : Int32))] [(.int (512 : Int32)), (.ref b1), (.ref b1)])) rfl (hb hby d10_8) rfl (by decide) (cap := 512) (by decide) (by decide) (by decide) (by decide)
  obtain ⟨b8, g8⟩ : ∃ z, z = h1.size := ⟨_, rfl⟩
  rw [← g8] at A8 st8
  have gnb8 : n0 ≤ b8 := Nat.le_trans (Nat.le_trans Z0 K2.1) (Nat.le_of_eq g8.symm)
  have gzb8 : h0.size ≤ b8 := Nat.le_trans K2.1 (Nat.le_of_eq g8.symm)
  have K9 : Keep h0 h8 [] := K2.ext E8
  have f8 : own_Ars Z h8 b8 .byte (512 : Int32) := own_Ars.of (Arv.new A8 (by decide))
  obtain ⟨T10, h10, k10, X10, e10, E10, A10, st10⟩ := newP X8 hx hZ (hw _ (List.mem_of_getElem? (i := 70) rfl)) e8 (g := (mkF m 12 #[.val (.int (1024 : Int32))] [(.int (16 : Int32)), (.ref b8), (.ref b1), (.ref b1)])) rfl (hb hby d10_12) rfl (by decide) (cap := 16) (by decide) (by decide) (by decide) (by decide)
  obtain ⟨b10, g10⟩ : ∃ z, z = h8.size := ⟨_, rfl⟩
  rw [← g10] at A10 st10
  have gnb10 : n0 ≤ b10 := Nat.le_trans (Nat.le_trans Z0 K9.1) (Nat.le_of_eq g10.symm)
  have gzb10 : h0.size ≤ b10 := Nat.le_trans K9.1 (Nat.le_of_eq g10.symm)
  have K11 : Keep h0 h10 [] := K9.ext E10
  have f10 : Arv Z h10 b10 k10 .int (16 : Int32) [(.int (0 : Int32)), (.int (0 : Int32)), (.int (0 : Int32)), (.int (0 : Int32)), (.int (0 : Int32)), (.int (0 : Int32)), (.int (0 : Int32)), (.int (0 : Int32)), (.int (0 : Int32)), (.int (0 : Int32)), (.int (0 : Int32)), (.int (0 : Int32)), (.int (0 : Int32)), (.int (0 : Int32)), (.int (0 : Int32)), (.int (0 : Int32))] (.int (0 : Int32)) := (Arv.new A10 (by decide)).pad (pad_rep [] (.int (0 : Int32)) 16)
  have f12 : Exa Z h10 b1 "com/example/concordia/concordia/expr/CellArray$Codes" := ((A1.ext E8).ext E10)
  have f13 : Fld Z h10 b1 "com/example/concordia/concordia/expr/CellArray$Codes" "smallCodes" "[B" .null := ((f3.ext E8).ext E10)
  have f14 : Fld Z h10 b1 "com/example/concordia/concordia/expr/CellArray$Codes" "codes" "[B" .null := ((f4.ext E8).ext E10)
  have f15 : Fld Z h10 b1 "com/example/concordia/concordia/expr/CellArray$Codes" "cells" "[I" .null := ((f5.ext E8).ext E10)
  have f16 : Fld Z h10 b1 "com/example/concordia/concordia/expr/CellArray$Codes" "count" "I" (.int (0 : Int32)) := ((f6.ext E8).ext E10)
  obtain ⟨_, _, ⟨T17, L17, k17, n17⟩, -, X17, ⟨Lc17, hQ17, l17, y17, z17⟩, st17⟩ := X10.specialBack hx (y := (⟨"com/example/concordia/concordia/expr/CellArray$Codes", "<init>", "([B[II)V"⟩ : MethodName)) rfl hown (mvT hZ (hw _ (List.mem_of_getElem? (i := 89) rfl))) (mvT hZ (hw _ (List.mem_of_getElem? (i := 90) rfl))) (mvT hZ (hw _ (List.mem_of_getElem? (i := 91) rfl))) (by decide) (backOf (W := 1) (rm_CO l Z a0 hw [] b1 b8 b10 .null .null .null (.int (0 : Int32)) h10 n0 (Nat.le_trans Z0 K11.1) f12 f13 f14 f15 f16 gnb1) hZ (hw _ (List.mem_of_getElem? (i := 91) rfl)) (hw _ (List.mem_of_getElem? (i := 83) rfl)) (by decide) (by decide)) (g := (mkF m 15 #[.val (.int (1024 : Int32))] [(.int (0 : Int32)), (.ref b10), (.ref b8), (.ref b1), (.ref b1)])) rfl (by rw [hml]; rfl) (Steps.refl _) (a := b1) (argsL := [(.ref b8), (.ref b10), (.int (0 : Int32))]) (rest := [(.ref b1)]) (lenOf pd__40_91B_91II_41V rfl) rfl (by show 2 * 0 + _ ≤ _; exact Nat.le_of_eq rfl) (hb hby d10_15) (fun _ _ => ⟨rfl, e10, (by decide : 3 + 1 ≤ _), (by decide : 532 + 256 ≤ _)⟩)
  dsimp only [Pt.U, Pt.locs, Pt.cells, Pt.slots] at X17 l17 y17 z17 st17 hQ17
  subst l17 y17 z17
  obtain ⟨rfl, Nq17, Kc17⟩ := hQ17
  have K18 : Keep h0 T17.heap [] := K11.trans Kc17 (allS (Or.inr gzb1) all0)
  have N17 := Fr.app N7 Nq17
  obtain ⟨fs, hr, hrun, hended, hW, hsame⟩ := X17.leave (v := some (.ref b1)) (fun h => by rw [Bd.returns] at h; cases h)
  refine ⟨_, _, pre0 _ ?_, hrun, hended, _, _, rfl, ?_, ⟨_, rfl⟩, hW, hsame.mono (by decide) (by decide)⟩
  · show Steps p.tables e below (s₁.setTop (mkF m 0 #[.val (.int (1024 : Int32))] [])) _
    refine st1 _ ?_
    show Steps p.tables e below (T1.setTop (mkF m 3 #[.val (.int (1024 : Int32))] [(.ref b1)])) _
    refine XS.dup X1.here hx rfl (hb hby d10_3) rfl rfl ?_
    show Steps p.tables e below (T1.setTop (mkF m 4 #[.val (.int (1024 : Int32))] [(.ref b1), (.ref b1)])) _
    refine XS.iloadN X1.here hx rfl (hb hby d10_4) rfl ?_
    show Steps p.tables e below (T1.setTop (mkF m 5 #[.val (.int (1024 : Int32))] [(.int (1024 : Int32)), (.ref b1), (.ref b1)])) _
    refine st7 _ ?_
    show Steps p.tables e below (T7.setTop (mkF m 8 #[.val (.int (1024 : Int32))] [(.int (512 : Int32)), (.ref b1), (.ref b1)])) _
    refine st8 _ ?_
    show Steps p.tables e below (T8.setTop (mkF m 10 #[.val (.int (1024 : Int32))] [(.ref b8), (.ref b1), (.ref b1)])) _
    refine XS.bipush X8.here hx rfl (hb hby d10_10) ?_
    show Steps p.tables e below (T8.setTop (mkF m 12 #[.val (.int (1024 : Int32))] [(.int (16 : Int32)), (.ref b8), (.ref b1), (.ref b1)])) _
    refine st10 _ ?_
    show Steps p.tables e below (T10.setTop (mkF m 14 #[.val (.int (1024 : Int32))] [(.ref b10), (.ref b8), (.ref b1), (.ref b1)])) _
    refine XS.iconst X10.here hx rfl (hb hby d10_14) ?_
    show Steps p.tables e below (T10.setTop (mkF m 15 #[.val (.int (1024 : Int32))] [(.int (0 : Int32)), (.ref b10), (.ref b8), (.ref b1), (.ref b1)])) _
    refine st17.trans ?_
    show Steps p.tables e below (T17.setTop (mkF m 18 #[.val (.int (1024 : Int32))] [(.ref b1)])) _
    exact retOut X17 hx Bd.returns rfl (Or.inr (Or.inr (Or.inr (Or.inr ⟨rfl, rfl, rfl⟩)))) (hb hby d10_18) hr
  · show Q_rm_nar Z  h0 n0 _ T17.heap _
    exact ⟨b1, rfl, N17, K18, gzb1⟩
theorem d1_0 : decode prog_21_method_1_code 0 = .ok (.aload_n 0, 1) := by decide +kernel
theorem d1_1 : decode prog_21_method_1_code 1 = .ok (.invokespecial 1, 3) := by decide +kernel
theorem d1_4 : decode prog_21_method_1_code 4 = .ok (.aload_n 0, 1) := by decide +kernel
theorem d1_5 : decode prog_21_method_1_code 5 = .ok (.new 7, 3) := by decide +kernel
theorem d1_8 : decode prog_21_method_1_code 8 = .ok (.dup, 1) := by decide +kernel
theorem d1_9 : decode prog_21_method_1_code 9 = .ok (.invokespecial 9, 3) := by decide +kernel
theorem d1_12 : decode prog_21_method_1_code 12 = .ok (.putfield 10, 3) := by decide +kernel
theorem d1_15 : decode prog_21_method_1_code 15 = .ok (.aload_n 0, 1) := by decide +kernel
theorem d1_16 : decode prog_21_method_1_code 16 = .ok (.sipush 1024, 3) := by decide +kernel
theorem d1_19 : decode prog_21_method_1_code 19 = .ok (.invokestatic 16, 3) := by decide +kernel
theorem pd__40I_41Lcom_47example_47concordia_47concordia_47expr_47CellArray_59 : parseMethodDescriptor "(I)Lcom/example/concordia/concordia/expr/CellArray;" = some ⟨[.int], some (.object "com/example/concordia/concordia/expr/CellArray")⟩ := by decide +kernel
theorem d1_22 : decode prog_21_method_1_code 22 = .ok (.putfield 22, 3) := by decide +kernel
theorem d1_25 : decode prog_21_method_1_code 25 = .ok (.return_, 1) := by decide +kernel
theorem pn_com_example_concordia_concordia_expr_ExpressionStore : plainName "com/example/concordia/concordia/expr/ExpressionStore" = true := by first | (simp [plainName, overriddenIn]; done) | decide +kernel
theorem ef_rm_ES (m : MethodId) (x0 : Addr) : entryFrame m #[(.ref x0)] 1 = mkF m 0 #[.val (.ref x0)] [] := by first | (simp [entryFrame, mkF, argsToLocals, Value.category]; done) | rfl
def Q_rm_ES (Z : State) (a1 : Addr) (v1 : Value) (v2 : Value) (wD : Addr) (h0 : Heap) (n0 : Nat) (v : Option Value) (h : Heap) (L : List Loc) : Prop := v = none ∧ Fr n0 L ∧ Keep h0 h [a1]
set_option maxRecDepth 65536 in
set_option maxHeartbeats 40000000 in
theorem rm_ES (l : Launch) (Z : State) (a0 : Array Value) (hw : ∀ d ∈ tables_1, d.before a0 Z = true) (ws : List Jvm.Cond) (a1 : Addr) (v1 : Value) (v2 : Value) (wD : Addr) (h0 : Heap) (n0 : Nat) (Z0 : n0 ≤ h0.size) (pr0 : Exa Z h0 a1 "com/example/concordia/concordia/expr/ExpressionStore") (pr1 : Fld Z h0 a1 "com/example/concordia/concordia/expr/ExpressionStore" "symbols" "Lcom/example/concordia/concordia/expr/SymbolTable;" v1) (pr2 : Fld Z h0 a1 "com/example/concordia/concordia/expr/ExpressionStore" "cells" "Lcom/example/concordia/concordia/expr/CellArray;" v2) (pr3 : n0 ≤ a1) (pr4 : Sta Z Z.heap "java/util/ArrayList" "DEFAULTCAPACITY_EMPTY_ELEMENTDATA" "[Ljava/lang/Object;" (.ref wD)) (pr5 : Old Z n0 h0) :
    MetFree l (⟨"com/example/concordia/concordia/expr/ExpressionStore", "<init>", "()V"⟩ : MethodName) (head1 (Jvm.Cond.code (⟨"com/example/concordia/concordia/expr/ExpressionStore", "<init>", "()V"⟩ : MethodName) prog_21_method_1_code 1 none :: ws) ({ frames := 5, cells := 9, slots := 820, locals := 64 } : Room)) (fun a U => a = #[(.ref a1)] ∧ Z.Warmed39 U.vm ∧ U.heap = h0) (fun _ _ _ _ _ => True) (fun _ U o U' => ∃ v L, o = .returned v ∧ Q_rm_ES Z a1 v1 v2 wD h0 n0 v U'.heap L ∧ FrameEnd U o U' L ({ frames := 5, cells := 9, slots := 820, locals := 64 } : Room).cells ({ frames := 5, cells := 9, slots := 820, locals := 64 } : Room).slots) := by
  refine MetFree.of_bodySF (plainFor_of_name pn_com_example_concordia_concordia_expr_ExpressionStore) hisR ?_
  intro p e s m args below meth c s₁ Bd hml0 hP hK
  obtain ⟨rfl, hZ, hh⟩ := hP
  have hx := Bd.exec
  have hby := Bd.bytes
  have hml : c.maxLocals = 1 := hml0
  have hown : s.vm.findClass "com/example/concordia/concordia/expr/ExpressionStore" = some m.cls := findClass_of_methodNamed Bd.named
  have hnm := (name_of_methodNamed Bd.named Bd.method).1
  have X0 : Stand p l e ({ frames := 5, cells := 9, slots := 820, locals := 64 } : Room) s m #[(.ref a1)] below meth c s₁ [] 0 0 := Stand.of_body Bd
  have e0 : s₁.heap = h0 := by rw [← hh, Bd.state]; rfl
  have N0 := Fr.nil n0
  have pre0 : ∀ t, Steps p.tables e below (s₁.setTop (mkF m 0 #[.val (.ref a1)] [])) t → Steps p.tables e below (s₁.setTop (entryFrame m #[(.ref a1)] 1)) t := fun t k => castTop (ef_rm_ES m a1) k
  obtain ⟨T1, X1, e1, st1⟩ := initO X0 hx hZ hown (hw _ (List.mem_of_getElem? (i := 9) rfl)) (hw _ (List.mem_of_getElem? (i := 10) rfl)) (hw _ (List.mem_of_getElem? (i := 11) rfl)) e0 (g := (mkF m 1 #[.val (.ref a1)] [(.ref a1)])) rfl (by rw [hml]; rfl) rfl (hb hby d1_1) (by decide) (W := 0) (by show 2 * 0 + _ ≤ _; exact Nat.le_of_eq rfl) (by decide)
  obtain ⟨T2, h2, X2, e2, E2, A2, D2, -, st2⟩ := newO X1 hx hZ hown (hw _ (List.mem_of_getElem? (i := 12) rfl)) (hw _ (List.mem_of_getElem? (i := 13) rfl)) (hw _ (List.mem_of_getElem? (i := 14) rfl)) e1 (g := (mkF m 5 #[.val (.ref a1)] [(.ref a1)])) rfl (hb hby d1_5) (by decide) (by decide)
  obtain ⟨b2, g2⟩ : ∃ z, z = h0.size := ⟨_, rfl⟩
  rw [← g2] at A2 D2 st2
  have gnb2 : n0 ≤ b2 := Nat.le_trans (Nat.le_trans Z0 (Keep.refl h0 [a1]).1) (Nat.le_of_eq g2.symm)
  have gzb2 : h0.size ≤ b2 := Nat.le_trans (Keep.refl h0 [a1]).1 (Nat.le_of_eq g2.symm)
  have K3 : Keep h0 h2 [a1] := (Keep.refl h0 [a1]).ext E2
  have f4 : Fld Z h2 b2 "com/example/concordia/concordia/expr/SymbolTable" "numbers" "Ljava/util/Map;" .null := D2 (Or.inr (hw _ (List.mem_of_getElem? (i := 36) rfl))) (ty := (.object "java/util/Map")) (by decide)
  have f5 : Fld Z h2 b2 "com/example/concordia/concordia/expr/SymbolTable" "names" "Ljava/util/List;" .null := D2 (Or.inr (hw _ (List.mem_of_getElem? (i := 62) rfl))) (ty := (.object "java/util/List")) (by decide)
  have f6 : Fld Z h2 b2 "com/example/concordia/concordia/expr/SymbolTable" "arities" "Lcom/example/concordia/concordia/expr/IntList;" .null := D2 (Or.inr (hw _ (List.mem_of_getElem? (i := 74) rfl))) (ty := (.object "com/example/concordia/concordia/expr/IntList")) (by decide)
  have f7 : Old Z n0 h2 := (pr5.ext E2)
  obtain ⟨_, _, ⟨T8, L8, k8, n8⟩, -, X8, ⟨Lc8, hQ8, l8, y8, z8⟩, st8⟩ := X2.specialBack hx (y := (⟨"com/example/concordia/concordia/expr/SymbolTable", "<init>", "()V"⟩ : MethodName)) rfl hown (mvT hZ (hw _ (List.mem_of_getElem? (i := 15) rfl))) (mvT hZ (hw _ (List.mem_of_getElem? (i := 16) rfl))) (mvT hZ (hw _ (List.mem_of_getElem? (i := 17) rfl))) (by decide) (backOf (W := 2) (rm_SY l Z a0 hw [] b2 .null .null .null wD h2 n0 (Nat.le_trans Z0 K3.1) A2 f4 f5 f6 gnb2 pr4 f7) hZ (hw _ (List.mem_of_getElem? (i := 17) rfl)) (hw _ (List.mem_of_getElem? (i := 14) rfl)) (by decide) (by decide)) (g := (mkF m 9 #[.val (.ref a1)] [(.ref b2), (.ref b2), (.ref a1)])) rfl (by rw [hml]; rfl) (Steps.refl _) (a := b2) (argsL := []) (rest := [(.ref b2), (.ref a1)]) (lenOf pd__40_41V rfl) rfl (by show 2 * 0 + _ ≤ _; exact Nat.le_of_eq rfl) (hb hby d1_9) (fun _ _ => ⟨rfl, e2, (by decide : 1 + 4 ≤ _), (by decide : 3 + 29 ≤ _)⟩)
  dsimp only [Pt.U, Pt.locs, Pt.cells, Pt.slots] at X8 l8 y8 z8 st8 hQ8
  subst l8 y8 z8
  obtain ⟨rfl, Nq8, Kc8⟩ := hQ8
  have K9 : Keep h0 T8.heap [a1] := K3.trans Kc8 (allS (Or.inr gzb2) all0)
  have N8 := Fr.app N0 Nq8
  have f10 : Fld Z T8.heap a1 "com/example/concordia/concordia/expr/ExpressionStore" "symbols" "Lcom/example/concordia/concordia/expr/SymbolTable;" v1 := ((pr1.ext E2).keep Kc8 (ninS (Nat.ne_of_lt (Nat.lt_of_lt_of_le pr0.lt (Nat.le_of_eq g2.symm))) nin0))
  have f11 : Exa Z T8.heap a1 "com/example/concordia/concordia/expr/ExpressionStore" := ((pr0.ext E2).keep Kc8)
  obtain ⟨T12, h12, X12, e12, W12, st12⟩ := putF X8 hx hZ hown (host := "") (Or.inl (hw _ (List.mem_of_getElem? (i := 75) rfl))) Via.refl rfl f10 f11 (Or.inr ⟨(hw _ (List.mem_of_getElem? (i := 76) rfl)), rfl, hnm⟩) (hw _ (List.mem_of_getElem? (i := 4) rfl)) (ty := (.object "com/example/concordia/concordia/expr/SymbolTable")) (by decide) rfl rfl (g := (mkF m 12 #[.val (.ref a1)] [(.ref b2), (.ref a1)])) rfl rfl (hb hby d1_12)
  have N12 := Fr.snoc X12 N8 pr3
  have f12 : Fld Z h12 a1 "com/example/concordia/concordia/expr/ExpressionStore" "symbols" "Lcom/example/concordia/concordia/expr/SymbolTable;" (.ref b2) := f10.same W12
  have K13 : Keep h0 h12 [a1] := K9.wr W12 (Or.inl (List.mem_of_getElem? (i := 0) rfl))
  obtain ⟨_, _, ⟨T14, L14, k14, n14⟩, -, X14, ⟨Lc14, hQ14, l14, y14, z14⟩, st14⟩ := Jvm.LawKit.callS X12 hx (y := (⟨"com/example/concordia/concordia/expr/CellArray", "narrowest", "(I)Lcom/example/concordia/concordia/expr/CellArray;"⟩ : MethodName)) hown (mvT hZ (hw _ (List.mem_of_getElem? (i := 77) rfl))) (mvT hZ (hw _ (List.mem_of_getElem? (i := 78) rfl))) (mvT hZ (hw _ (List.mem_of_getElem? (i := 79) rfl))) (mvT hZ (hw _ (List.mem_of_getElem? (i := 80) rfl))) (by decide) (backOf (W := 1) (rm_nar l Z a0 hw []  h12 n0 (Nat.le_trans Z0 K13.1)) hZ (hw _ (List.mem_of_getElem? (i := 80) rfl)) (hw _ (List.mem_of_getElem? (i := 79) rfl)) (by decide) (by decide)) (g := (mkF m 19 #[.val (.ref a1)] [(.int (1024 : Int32)), (.ref a1)])) rfl (by rw [hml]; rfl) (argsL := [(.int (1024 : Int32))]) (rest := [(.ref a1)]) (lenOf pd__40I_41Lcom_47example_47concordia_47concordia_47expr_47CellArray_59 rfl) rfl (by show 2 * 0 + _ ≤ _; exact Nat.le_of_eq rfl) (hb hby d1_19) (fun _ _ => ⟨rfl, e12, (by decide : 5 + 4 ≤ _), (by decide : 32 + 788 ≤ _)⟩)
  dsimp only [Pt.U, Pt.locs, Pt.cells, Pt.slots] at X14 l14 y14 z14 st14 hQ14
  subst l14 y14 z14
  obtain ⟨r_14, rfl, Nq14, Kc14, p14_0⟩ := hQ14
  have gzr_14 : h0.size ≤ r_14 := Nat.le_trans K13.1 p14_0
  have gnr_14 : n0 ≤ r_14 := Nat.le_trans Z0 gzr_14
  have K16 : Keep h0 T14.heap [a1] := K13.trans Kc14 all0
  have N14 := Fr.app N12 Nq14
  have f17 : Fld Z T14.heap a1 "com/example/concordia/concordia/expr/ExpressionStore" "cells" "Lcom/example/concordia/concordia/expr/CellArray;" v2 := ((((pr2.ext E2).keep Kc8 (ninS (Nat.ne_of_lt (Nat.lt_of_lt_of_le pr0.lt (Nat.le_of_eq g2.symm))) nin0)).other W12 (Or.inr (slot_ne (Or.inl (hw _ (List.mem_of_getElem? (i := 106) rfl))) (Or.inr (hw _ (List.mem_of_getElem? (i := 76) rfl))) (by decide) (t := (.object "com/example/concordia/concordia/expr/CellArray")) (t' := (.object "com/example/concordia/concordia/expr/SymbolTable")) (by decide) (by decide)))).keep Kc14 nin0)
  have f18 : Exa Z T14.heap a1 "com/example/concordia/concordia/expr/ExpressionStore" := ((f11.wr W12).keep Kc14)
  obtain ⟨T19, h19, X19, e19, W19, st19⟩ := putF X14 hx hZ hown (host := "") (Or.inl (hw _ (List.mem_of_getElem? (i := 105) rfl))) Via.refl rfl f17 f18 (Or.inl (hw _ (List.mem_of_getElem? (i := 106) rfl))) (hw _ (List.mem_of_getElem? (i := 4) rfl)) (ty := (.object "com/example/concordia/concordia/expr/CellArray")) (by decide) rfl rfl (g := (mkF m 22 #[.val (.ref a1)] [(.ref r_14), (.ref a1)])) rfl rfl (hb hby d1_22)
  have N19 := Fr.snoc X19 N14 pr3
  have f19 : Fld Z h19 a1 "com/example/concordia/concordia/expr/ExpressionStore" "cells" "Lcom/example/concordia/concordia/expr/CellArray;" (.ref r_14) := f17.same W19
  have K20 : Keep h0 h19 [a1] := K16.wr W19 (Or.inl (List.mem_of_getElem? (i := 0) rfl))
  obtain ⟨fs, hr, hrun, hended, hW, hsame⟩ := X19.leave (v := none) (fun _ => rfl)
  refine ⟨_, _, pre0 _ ?_, hrun, hended, _, _, rfl, ?_, ⟨_, rfl⟩, hW, hsame.mono (by decide) (by decide)⟩
  · show Steps p.tables e below (s₁.setTop (mkF m 0 #[.val (.ref a1)] [])) _
    refine XS.aloadN X0.here hx rfl (hb hby d1_0) rfl rfl ?_
    show Steps p.tables e below (s₁.setTop (mkF m 1 #[.val (.ref a1)] [(.ref a1)])) _
    refine st1 _ ?_
    show Steps p.tables e below (T1.setTop (mkF m 4 #[.val (.ref a1)] [])) _
    refine XS.aloadN X1.here hx rfl (hb hby d1_4) rfl rfl ?_
    show Steps p.tables e below (T1.setTop (mkF m 5 #[.val (.ref a1)] [(.ref a1)])) _
    refine st2 _ ?_
    show Steps p.tables e below (T2.setTop (mkF m 8 #[.val (.ref a1)] [(.ref b2), (.ref a1)])) _
    refine XS.dup X2.here hx rfl (hb hby d1_8) rfl rfl ?_
    show Steps p.tables e below (T2.setTop (mkF m 9 #[.val (.ref a1)] [(.ref b2), (.ref b2), (.ref a1)])) _
    refine st8.trans ?_
    show Steps p.tables e below (T8.setTop (mkF m 12 #[.val (.ref a1)] [(.ref b2), (.ref a1)])) _
    refine st12 _ ?_
    show Steps p.tables e below (T12.setTop (mkF m 15 #[.val (.ref a1)] [])) _
    refine XS.aloadN X12.here hx rfl (hb hby d1_15) rfl rfl ?_
    show Steps p.tables e below (T12.setTop (mkF m 16 #[.val (.ref a1)] [(.ref a1)])) _
    refine XS.sipush X12.here hx rfl (hb hby d1_16) ?_
    show Steps p.tables e below (T12.setTop (mkF m 19 #[.val (.ref a1)] [(.int (1024 : Int32)), (.ref a1)])) _
    refine st14 _ ?_
    show Steps p.tables e below (T14.setTop (mkF m 22 #[.val (.ref a1)] [(.ref r_14), (.ref a1)])) _
    refine st19 _ ?_
    show Steps p.tables e below (T19.setTop (mkF m 25 #[.val (.ref a1)] [])) _
    exact X19.returnOut hx Bd.returns (hb hby d1_25) hr
  · show Q_rm_ES Z a1 v1 v2 wD h0 n0 _ T19.heap _
    rw [e19]
    exact ⟨rfl, N19, K20⟩
theorem d18_5 : decode jdk_65_method_103_code 5 = .ok (.iload_n 2, 1) := by decide +kernel
theorem d18_6 : decode jdk_65_method_103_code 6 = .ok (.iload_n 3, 1) := by decide +kernel
theorem d18_7 : decode jdk_65_method_103_code 7 = .ok (.if_icmp .ge 13, 3) := by decide +kernel
theorem d18_10 : decode jdk_65_method_103_code 10 = .ok (.aload_n 0, 1) := by decide +kernel
theorem d18_11 : decode jdk_65_method_103_code 11 = .ok (.iload_n 2, 1) := by decide +kernel
theorem d18_12 : decode jdk_65_method_103_code 12 = .ok (.iload_n 1, 1) := by decide +kernel
theorem d18_13 : decode jdk_65_method_103_code 13 = .ok (.iastore, 1) := by decide +kernel
theorem d18_14 : decode jdk_65_method_103_code 14 = .ok (.iinc 2 1, 3) := by decide +kernel
theorem d18_17 : decode jdk_65_method_103_code 17 = .ok (.goto (-12), 3) := by decide +kernel
set_option maxRecDepth 65536 in
set_option maxHeartbeats 40000000 in
theorem tn_fill {p : Program} {l : Launch} {e : Env} {R : Room} {s : State} {m : MethodId} {args : Array Value} {below : List Frame} {meth : Method} {c : Code} {T0 : State} {locs : List Loc} {cells slots : Nat} {Z : State} {a0 : Array Value} {h0 : Heap} (a : Addr) (v : Int32) (i : Int32) (n : Int32)
    (X0 : Stand p l e R s m args below meth c T0 locs cells slots) (hx : p.tables.exec = Jvm.exec) (hZ : Z.Warmed39 s.vm) (hw : ∀ d ∈ tables_1, d.before a0 Z = true) (hby : c.code = jdk_65_method_103_code) (hml : c.maxLocals = 4) (hown : s.vm.findClass "java/util/Arrays" = some m.cls) (e0 : T0.heap = h0) (n0 : Nat) (Z0 : n0 ≤ h0.size) (N0 : Fr n0 locs) (pr0 : own_Ars Z h0 a .int n) (pr1 : n0 ≤ a) (hc : i < n) (hi : ¬ (i < (0 : Int32))) :
    ∃ (T' : State) (h' : Heap) (locs' : List Loc), Stand p l e R s m args below meth c T' locs' cells slots ∧ T'.heap = h' ∧ Fr n0 locs' ∧ Keep h0 h' [a] ∧ ∀ target, Steps p.tables e below (T'.setTop (mkF m 5 #[.val (.ref a), .val (.int v), .val (.int (i + (1 : Int32))), .val (.int n)] [])) target → Steps p.tables e below (T0.setTop (mkF m 5 #[.val (.ref a), .val (.int v), .val (.int i), .val (.int n)] [])) target := by
  obtain ⟨cl1, Ar1, Sz1, Ng1⟩ := id pr0
  obtain ⟨T2, h2, X2, e2, W2, st2⟩ := stI X0 hx hZ e0 Ar1 (j := i) (inb_of Sz1 ⟨hi, hc⟩) (g := (mkF m 13 #[.val (.ref a), .val (.int v), .val (.int i), .val (.int n)] [(.int v), (.int i), (.ref a)])) rfl rfl (hb hby d18_13)
  have N2 := Fr.snoc X2 N0 pr1
  have K3 : Keep h0 h2 [a] := (Keep.refl h0 [a]).wr W2 (Or.inl (List.mem_of_getElem? (i := 0) rfl))
  refine ⟨T2, _, _, X2, e2, N2, K3, fun target kt => ?_⟩
  show Steps p.tables e below (T0.setTop (mkF m 5 #[.val (.ref a), .val (.int v), .val (.int i), .val (.int n)] [])) _
  refine XS.iloadN X0.here hx rfl (hb hby d18_5) rfl ?_
  show Steps p.tables e below (T0.setTop (mkF m 6 #[.val (.ref a), .val (.int v), .val (.int i), .val (.int n)] [(.int i)])) _
  refine XS.iloadN X0.here hx rfl (hb hby d18_6) rfl ?_
  show Steps p.tables e below (T0.setTop (mkF m 7 #[.val (.ref a), .val (.int v), .val (.int i), .val (.int n)] [(.int n), (.int i)])) _
  refine XS.icmpNo X0.here hx rfl (hb hby d18_7) rfl (tlt hc).2.1 ?_
  show Steps p.tables e below (T0.setTop (mkF m 10 #[.val (.ref a), .val (.int v), .val (.int i), .val (.int n)] [])) _
  refine XS.aloadN X0.here hx rfl (hb hby d18_10) rfl rfl ?_
  show Steps p.tables e below (T0.setTop (mkF m 11 #[.val (.ref a), .val (.int v), .val (.int i), .val (.int n)] [(.ref a)])) _
  refine XS.iloadN X0.here hx rfl (hb hby d18_11) rfl ?_
  show Steps p.tables e below (T0.setTop (mkF m 12 #[.val (.ref a), .val (.int v), .val (.int i), .val (.int n)] [(.int i), (.ref a)])) _
  refine XS.iloadN X0.here hx rfl (hb hby d18_12) rfl ?_
  show Steps p.tables e below (T0.setTop (mkF m 13 #[.val (.ref a), .val (.int v), .val (.int i), .val (.int n)] [(.int v), (.int i), (.ref a)])) _
  refine st2 _ ?_
  show Steps p.tables e below (T2.setTop (mkF m 14 #[.val (.ref a), .val (.int v), .val (.int i), .val (.int n)] [])) _
  refine XS.iinc X2.here hx rfl (hb hby d18_14) rfl (l' := #[.val (.ref a), .val (.int v), .val (.int (i + (1 : Int32))), .val (.int n)]) rfl ?_
  show Steps p.tables e below (T2.setTop (mkF m 17 #[.val (.ref a), .val (.int v), .val (.int (i + (1 : Int32))), .val (.int n)] [])) _
  refine XS.goto X2.here hx rfl (pc0 := 17) (pc' := 5) rfl (hb hby d18_17) (by decide) (by decide) ?_
  exact kt
set_option maxRecDepth 65536 in
set_option maxHeartbeats 40000000 in
theorem tn_fillout {p : Program} {l : Launch} {e : Env} {R : Room} {s : State} {m : MethodId} {args : Array Value} {below : List Frame} {meth : Method} {c : Code} {T0 : State} {locs : List Loc} {cells slots : Nat} {Z : State} {a0 : Array Value} {h0 : Heap} (a : Addr) (v : Int32) (i : Int32) (n : Int32)
    (X0 : Stand p l e R s m args below meth c T0 locs cells slots) (hx : p.tables.exec = Jvm.exec) (hZ : Z.Warmed39 s.vm) (hw : ∀ d ∈ tables_1, d.before a0 Z = true) (hby : c.code = jdk_65_method_103_code) (hml : c.maxLocals = 4) (hown : s.vm.findClass "java/util/Arrays" = some m.cls) (e0 : T0.heap = h0) (hc : ¬ (i < n)) :
    ∃ (T' : State), Stand p l e R s m args below meth c T' locs cells slots ∧ T'.heap = h0 ∧ ∀ target, Steps p.tables e below (T'.setTop (mkF m 20 #[.val (.ref a), .val (.int v), .val (.int i), .val (.int n)] [])) target → Steps p.tables e below (T0.setTop (mkF m 5 #[.val (.ref a), .val (.int v), .val (.int i), .val (.int n)] [])) target := by
  refine ⟨T0, X0, e0, fun target kt => ?_⟩
  show Steps p.tables e below (T0.setTop (mkF m 5 #[.val (.ref a), .val (.int v), .val (.int i), .val (.int n)] [])) _
  refine XS.iloadN X0.here hx rfl (hb hby d18_5) rfl ?_
  show Steps p.tables e below (T0.setTop (mkF m 6 #[.val (.ref a), .val (.int v), .val (.int i), .val (.int n)] [(.int i)])) _
  refine XS.iloadN X0.here hx rfl (hb hby d18_6) rfl ?_
  show Steps p.tables e below (T0.setTop (mkF m 7 #[.val (.ref a), .val (.int v), .val (.int i), .val (.int n)] [(.int n), (.int i)])) _
  refine XS.icmpYes X0.here hx rfl (pc0 := 7) (pc' := 20) rfl (hb hby d18_7) rfl (flt hc).2.1 (by decide) (by decide) ?_
  exact kt

theorem loopF {p : Program} {l : Launch} {e : Env} {R : Room} {s : State} {m : MethodId} {args : Array Value} {below : List Frame} {meth : Method} {c : Code} {cells slots : Nat} {Z : State} {a0 : Array Value} (a : Addr) (v : Int32) (N : Nat) (hN : N < 2147483647) (hx : p.tables.exec = Jvm.exec) (hZ : Z.Warmed39 s.vm) (hw : ∀ d ∈ tables_1, d.before a0 Z = true) (hby : c.code = jdk_65_method_103_code) (hml : c.maxLocals = 4) (hown : s.vm.findClass "java/util/Arrays" = some m.cls) (n0 : Nat) (g : n0 ≤ a) :
    ∀ (k i : Nat) (T0 : State) (h0 : Heap) (locs : List Loc), i + k = N → Stand p l e R s m args below meth c T0 locs cells slots → T0.heap = h0 → n0 ≤ h0.size → Fr n0 locs → own_Ars Z h0 a .int (Int32.ofNat N) →
      ∃ (T' : State) (h' : Heap) (locs' : List Loc), Stand p l e R s m args below meth c T' locs' cells slots ∧ T'.heap = h' ∧ Fr n0 locs' ∧ Keep h0 h' [a] ∧
        ∀ target, Steps p.tables e below (T'.setTop (mkF m 20 #[.val (.ref a), .val (.int v), .val (.int (Int32.ofNat N)), .val (.int (Int32.ofNat N))] [])) target → Steps p.tables e below (T0.setTop (mkF m 5 #[.val (.ref a), .val (.int v), .val (.int (Int32.ofNat i)), .val (.int (Int32.ofNat N))] [])) target := by
  intro k
  induction k with
  | zero =>
    intro i T0 h0 locs hi X0 e0 Z0 F0 A
    have hi' : i = N := by omega
    subst hi'
    obtain ⟨T1, X1, e1, st1⟩ := tn_fillout a v (Int32.ofNat i) (Int32.ofNat i) X0 hx hZ hw hby hml hown e0 Int32.lt_irrefl
    exact ⟨T1, h0, locs, X1, e1, F0, Keep.refl _ _, st1⟩
  | succ k ih =>
    intro i T0 h0 locs hi X0 e0 Z0 F0 A
    have e1 : (Int32.ofNat i).toInt = i := Int32.toInt_ofNat_of_lt (by omega)
    have e2 : (Int32.ofNat N).toInt = N := Int32.toInt_ofNat_of_lt (by omega)
    obtain ⟨T1, h1, L1, X1, q1, F1, K1, st1⟩ := tn_fill a v (Int32.ofNat i) (Int32.ofNat N) X0 hx hZ hw hby hml hown e0 n0 Z0 F0 A g (by rw [Int32.lt_iff_toInt_lt, e1, e2]; omega) (by rw [Int32.lt_iff_toInt_lt, e1]; have : (0 : Int32).toInt = 0 := rfl; omega)
    obtain ⟨T', h', L', X', q', F', K', st⟩ := ih (i + 1) T1 h1 L1 (by omega) X1 q1 (Nat.le_trans Z0 K1.1) F1 (A.keep K1)
    refine ⟨T', h', L', X', q', F', K1.trans K' (fun x hx => Or.inl hx), fun target h => st1 target ?_⟩
    have e3 : Int32.ofNat i + 1 = Int32.ofNat (i + 1) := by rw [Int32.ofNat_add]; rfl
    rw [e3]
    exact st target h

theorem d18_0 : decode jdk_65_method_103_code 0 = .ok (.iconst 0, 1) := by decide +kernel
theorem d18_1 : decode jdk_65_method_103_code 1 = .ok (.istore_n 2, 1) := by decide +kernel
theorem d18_2 : decode jdk_65_method_103_code 2 = .ok (.aload_n 0, 1) := by decide +kernel
theorem d18_3 : decode jdk_65_method_103_code 3 = .ok (.arraylength, 1) := by decide +kernel
theorem d18_4 : decode jdk_65_method_103_code 4 = .ok (.istore_n 3, 1) := by decide +kernel
theorem d18_20 : decode jdk_65_method_103_code 20 = .ok (.return_, 1) := by decide +kernel
theorem pn_java_util_Arrays : plainName "java/util/Arrays" = true := by first | (simp [plainName, overriddenIn]; done) | decide +kernel
theorem ef_rm_fill (m : MethodId) (x0 : Addr) (x1 : Int32) : entryFrame m #[(.ref x0), (.int x1)] 4 = mkF m 0 #[.val (.ref x0), .val (.int x1), .unset, .unset] [] := by first | (simp [entryFrame, mkF, argsToLocals, Value.category]; done) | rfl
def Q_rm_fill (Z : State) (a1 : Addr) (p2 : Int32) (h0 : Heap) (n0 : Nat) (v : Option Value) (h : Heap) (L : List Loc) : Prop := v = none ∧ Fr n0 L ∧ Keep h0 h [a1]
set_option maxRecDepth 65536 in
set_option maxHeartbeats 40000000 in
theorem rm_fill (l : Launch) (Z : State) (a0 : Array Value) (hw : ∀ d ∈ tables_1, d.before a0 Z = true) (ws : List Jvm.Cond) (a1 : Addr) (p2 : Int32) (h0 : Heap) (n0 : Nat) (Z0 : n0 ≤ h0.size) (pr0 : own_Ars Z h0 a1 .int (64 : Int32)) (pr1 : n0 ≤ a1) :
    MetFree l (⟨"java/util/Arrays", "fill", "([II)V"⟩ : MethodName) (head1 (Jvm.Cond.code (⟨"java/util/Arrays", "fill", "([II)V"⟩ : MethodName) jdk_65_method_103_code 4 none :: ws) ({ frames := 0, cells := 0, slots := 0, locals := 0 } : Room)) (fun a U => a = #[(.ref a1), (.int p2)] ∧ Z.Warmed39 U.vm ∧ U.heap = h0) (fun _ _ _ _ _ => True) (fun _ U o U' => ∃ v L, o = .returned v ∧ Q_rm_fill Z a1 p2 h0 n0 v U'.heap L ∧ FrameEnd U o U' L ({ frames := 0, cells := 0, slots := 0, locals := 0 } : Room).cells ({ frames := 0, cells := 0, slots := 0, locals := 0 } : Room).slots) := by
  refine MetFree.of_bodySF (plainFor_of_name pn_java_util_Arrays) hisR ?_
  intro p e s m args below meth c s₁ Bd hml0 hP hK
  obtain ⟨rfl, hZ, hh⟩ := hP
  have hx := Bd.exec
  have hby := Bd.bytes
  have hml : c.maxLocals = 4 := hml0
  have hown : s.vm.findClass "java/util/Arrays" = some m.cls := findClass_of_methodNamed Bd.named
  have hnm := (name_of_methodNamed Bd.named Bd.method).1
  have X0 : Stand p l e ({ frames := 0, cells := 0, slots := 0, locals := 0 } : Room) s m #[(.ref a1), (.int p2)] below meth c s₁ [] 0 0 := Stand.of_body Bd
  have e0 : s₁.heap = h0 := by rw [← hh, Bd.state]; rfl
  have N0 := Fr.nil n0
  have pre0 : ∀ t, Steps p.tables e below (s₁.setTop (mkF m 0 #[.val (.ref a1), .val (.int p2), .unset, .unset] [])) t → Steps p.tables e below (s₁.setTop (entryFrame m #[(.ref a1), (.int p2)] 4)) t := fun t k => castTop (ef_rm_fill m a1 p2) k
  obtain ⟨cl1, Ar1, Sz1, Ng1⟩ := id pr0
  obtain ⟨T2, h2, L2, X2, e2, N2, Kl2, st2⟩ := loopF a1 p2 64 (by decide) hx hZ hw hby hml hown n0 pr1 64 0 _ _ _ rfl X0 e0 Z0 N0 pr0
  have K3 : Keep h0 h2 [a1] := (Keep.refl h0 [a1]).trans Kl2 (allS (Or.inl (List.mem_of_getElem? (i := 0) rfl)) all0)
  obtain ⟨fs, hr, hrun, hended, hW, hsame⟩ := X2.leave (v := none) (fun _ => rfl)
  refine ⟨_, _, pre0 _ ?_, hrun, hended, _, _, rfl, ?_, ⟨_, rfl⟩, hW, hsame.mono (by decide) (by decide)⟩
  · show Steps p.tables e below (s₁.setTop (mkF m 0 #[.val (.ref a1), .val (.int p2), .unset, .unset] [])) _
    refine XS.iconst X0.here hx rfl (hb hby d18_0) ?_
    show Steps p.tables e below (s₁.setTop (mkF m 1 #[.val (.ref a1), .val (.int p2), .unset, .unset] [(.int (0 : Int32))])) _
    refine XS.istoreN X0.here hx rfl (hb hby d18_1) rfl (l' := #[.val (.ref a1), .val (.int p2), .val (.int (0 : Int32)), .unset]) rfl ?_
    show Steps p.tables e below (s₁.setTop (mkF m 2 #[.val (.ref a1), .val (.int p2), .val (.int (0 : Int32)), .unset] [])) _
    refine XS.aloadN X0.here hx rfl (hb hby d18_2) rfl rfl ?_
    show Steps p.tables e below (s₁.setTop (mkF m 3 #[.val (.ref a1), .val (.int p2), .val (.int (0 : Int32)), .unset] [(.ref a1)])) _
    refine X0.arraylength hx (by rw [e0]; exact Ar1.1) (State.isArrayOf_alike hZ.alike Ar1.2.1) (g := (mkF m 3 #[.val (.ref a1), .val (.int p2), .val (.int (0 : Int32)), .unset] [(.ref a1)])) rfl rfl (hb hby d18_3) _ ?_
    rw [len_of Sz1 Ng1]
    show Steps p.tables e below (s₁.setTop (mkF m 4 #[.val (.ref a1), .val (.int p2), .val (.int (0 : Int32)), .unset] [(.int (64 : Int32))])) _
    refine XS.istoreN X0.here hx rfl (hb hby d18_4) rfl (l' := #[.val (.ref a1), .val (.int p2), .val (.int (0 : Int32)), .val (.int (64 : Int32))]) rfl ?_
    show Steps p.tables e below (s₁.setTop (mkF m 5 #[.val (.ref a1), .val (.int p2), .val (.int (0 : Int32)), .val (.int (64 : Int32))] [])) _
    refine st2 _ ?_
    show Steps p.tables e below (T2.setTop (mkF m 20 #[.val (.ref a1), .val (.int p2), .val (.int (64 : Int32)), .val (.int (64 : Int32))] [])) _
    exact X2.returnOut hx Bd.returns (hb hby d18_20) hr
  · show Q_rm_fill Z a1 p2 h0 n0 _ T2.heap _
    rw [e2]
    exact ⟨rfl, N2, K3⟩
theorem d17_0 : decode prog_25_method_8_code 0 = .ok (.iload_n 0, 1) := by decide +kernel
theorem d17_1 : decode prog_25_method_8_code 1 = .ok (.newarray .int, 2) := by decide +kernel
theorem d17_3 : decode prog_25_method_8_code 3 = .ok (.astore_n 1, 1) := by decide +kernel
theorem d17_4 : decode prog_25_method_8_code 4 = .ok (.aload_n 1, 1) := by decide +kernel
theorem d17_5 : decode prog_25_method_8_code 5 = .ok (.iconst (-1), 1) := by decide +kernel
theorem d17_6 : decode prog_25_method_8_code 6 = .ok (.invokestatic 40, 3) := by decide +kernel
theorem pd__40_91II_41V : parseMethodDescriptor "([II)V" = some ⟨[(.array .int), .int], none⟩ := by decide +kernel
theorem d17_9 : decode prog_25_method_8_code 9 = .ok (.aload_n 1, 1) := by decide +kernel
theorem d17_10 : decode prog_25_method_8_code 10 = .ok (.areturn, 1) := by decide +kernel
theorem pn_com_example_concordia_concordia_index_ChildrenByLabel : plainName "com/example/concordia/concordia/index/ChildrenByLabel" = true := by first | (simp [plainName, overriddenIn]; done) | decide +kernel
theorem ef_rm_nc (m : MethodId) (x0 : Int32) : entryFrame m #[(.int x0)] 2 = mkF m 0 #[.val (.int x0), .unset] [] := by first | (simp [entryFrame, mkF, argsToLocals, Value.category]; done) | rfl
def Q_rm_nc (Z : State)  (h0 : Heap) (n0 : Nat) (v : Option Value) (h : Heap) (L : List Loc) : Prop := ∃ r : Addr, v = some (.ref r) ∧ Fr n0 L ∧ Keep h0 h [] ∧ (h0.size ≤ r)
set_option maxRecDepth 65536 in
set_option maxHeartbeats 40000000 in
theorem rm_nc (l : Launch) (Z : State) (a0 : Array Value) (hw : ∀ d ∈ tables_1, d.before a0 Z = true) (ws : List Jvm.Cond)  (h0 : Heap) (n0 : Nat) (Z0 : n0 ≤ h0.size) :
    MetFree l (⟨"com/example/concordia/concordia/index/ChildrenByLabel", "newChildren", "(I)[I"⟩ : MethodName) (head1 (Jvm.Cond.code (⟨"com/example/concordia/concordia/index/ChildrenByLabel", "newChildren", "(I)[I"⟩ : MethodName) prog_25_method_8_code 2 (some (.array .int)) :: ws) ({ frames := 1, cells := 1, slots := 64, locals := 15 } : Room)) (fun a U => a = #[(.int (64 : Int32))] ∧ Z.Warmed39 U.vm ∧ U.heap = h0) (fun _ _ _ _ _ => True) (fun _ U o U' => ∃ v L, o = .returned v ∧ Q_rm_nc Z  h0 n0 v U'.heap L ∧ FrameEnd U o U' L ({ frames := 1, cells := 1, slots := 64, locals := 15 } : Room).cells ({ frames := 1, cells := 1, slots := 64, locals := 15 } : Room).slots) := by
  refine MetFree.of_bodySF (plainFor_of_name pn_com_example_concordia_concordia_index_ChildrenByLabel) hisR ?_
  intro p e s m args below meth c s₁ Bd hml0 hP hK
  obtain ⟨rfl, hZ, hh⟩ := hP
  have hx := Bd.exec
  have hby := Bd.bytes
  have hml : c.maxLocals = 2 := hml0
  have hown : s.vm.findClass "com/example/concordia/concordia/index/ChildrenByLabel" = some m.cls := findClass_of_methodNamed Bd.named
  have hnm := (name_of_methodNamed Bd.named Bd.method).1
  have X0 : Stand p l e ({ frames := 1, cells := 1, slots := 64, locals := 15 } : Room) s m #[(.int (64 : Int32))] below meth c s₁ [] 0 0 := Stand.of_body Bd
  have e0 : s₁.heap = h0 := by rw [← hh, Bd.state]; rfl
  have N0 := Fr.nil n0
  have pre0 : ∀ t, Steps p.tables e below (s₁.setTop (mkF m 0 #[.val (.int (64 : Int32)), .unset] [])) t → Steps p.tables e below (s₁.setTop (entryFrame m #[(.int (64 : Int32))] 2)) t := fun t k => castTop (ef_rm_nc m (64 : Int32)) k
  obtain ⟨T1, h1, k1, X1, e1, E1, A1, st1⟩ := newP X0 hx hZ (hw _ (List.mem_of_getElem? (i := 70) rfl)) e0 (g := (mkF m 1 #[.val (.int (64 : Int32)), .unset] [(.int (64 : Int32))])) rfl (hb hby d17_1) rfl (by decide) (cap := 64) (by decide) (by decide) (by decide) (by decide)
  obtain ⟨b1, g1⟩ : ∃ z, z = h0.size := ⟨_, rfl⟩
  rw [← g1] at A1 st1
  have gnb1 : n0 ≤ b1 := Nat.le_trans (Nat.le_trans Z0 (Keep.refl h0 []).1) (Nat.le_of_eq g1.symm)
  have gzb1 : h0.size ≤ b1 := Nat.le_trans (Keep.refl h0 []).1 (Nat.le_of_eq g1.symm)
  have K2 : Keep h0 h1 [] := (Keep.refl h0 []).ext E1
  have f1 : own_Ars Z h1 b1 .int (64 : Int32) := own_Ars.of (Arv.new A1 (by decide))
  obtain ⟨_, _, ⟨T3, L3, k3, n3⟩, -, X3, ⟨Lc3, hQ3, l3, y3, z3⟩, st3⟩ := Jvm.LawKit.callS X1 hx (y := (⟨"java/util/Arrays", "fill", "([II)V"⟩ : MethodName)) hown (mvT hZ (hw _ (List.mem_of_getElem? (i := 135) rfl))) (mvT hZ (hw _ (List.mem_of_getElem? (i := 136) rfl))) (mvT hZ (hw _ (List.mem_of_getElem? (i := 137) rfl))) (mvT hZ (hw _ (List.mem_of_getElem? (i := 138) rfl))) (by decide) (backOf (W := 0) (rm_fill l Z a0 hw [] b1 (-1 : Int32) h1 n0 (Nat.le_trans Z0 K2.1) f1 gnb1) hZ (hw _ (List.mem_of_getElem? (i := 138) rfl)) (hw _ (List.mem_of_getElem? (i := 137) rfl)) (by decide) (by decide)) (g := (mkF m 6 #[.val (.int (64 : Int32)), .val (.ref b1)] [(.int (-1 : Int32)), (.ref b1)])) rfl (by rw [hml]; rfl) (argsL := [(.ref b1), (.int (-1 : Int32))]) (rest := []) (lenOf pd__40_91II_41V rfl) rfl (by show 2 * 0 + _ ≤ _; exact Nat.le_of_eq rfl) (hb hby d17_6) (fun _ _ => ⟨rfl, e1, (by decide : 1 + 0 ≤ _), (by decide : 64 + 0 ≤ _)⟩)
  dsimp only [Pt.U, Pt.locs, Pt.cells, Pt.slots] at X3 l3 y3 z3 st3 hQ3
  subst l3 y3 z3
  obtain ⟨rfl, Nq3, Kc3⟩ := hQ3
  have K4 : Keep h0 T3.heap [] := K2.trans Kc3 (allS (Or.inr gzb1) all0)
  have N3 := Fr.app N0 Nq3
  obtain ⟨fs, hr, hrun, hended, hW, hsame⟩ := X3.leave (v := some (.ref b1)) (fun h => by rw [Bd.returns] at h; cases h)
  refine ⟨_, _, pre0 _ ?_, hrun, hended, _, _, rfl, ?_, ⟨_, rfl⟩, hW, hsame.mono (by decide) (by decide)⟩
  · show Steps p.tables e below (s₁.setTop (mkF m 0 #[.val (.int (64 : Int32)), .unset] [])) _
    refine XS.iloadN X0.here hx rfl (hb hby d17_0) rfl ?_
    show Steps p.tables e below (s₁.setTop (mkF m 1 #[.val (.int (64 : Int32)), .unset] [(.int (64 : Int32))])) _
    refine st1 _ ?_
    show Steps p.tables e below (T1.setTop (mkF m 3 #[.val (.int (64 : Int32)), .unset] [(.ref b1)])) _
    refine XS.astoreN X1.here hx rfl (hb hby d17_3) rfl rfl (l' := #[.val (.int (64 : Int32)), .val (.ref b1)]) rfl ?_
    show Steps p.tables e below (T1.setTop (mkF m 4 #[.val (.int (64 : Int32)), .val (.ref b1)] [])) _
    refine XS.aloadN X1.here hx rfl (hb hby d17_4) rfl rfl ?_
    show Steps p.tables e below (T1.setTop (mkF m 5 #[.val (.int (64 : Int32)), .val (.ref b1)] [(.ref b1)])) _
    refine XS.iconst X1.here hx rfl (hb hby d17_5) ?_
    show Steps p.tables e below (T1.setTop (mkF m 6 #[.val (.int (64 : Int32)), .val (.ref b1)] [(.int (-1 : Int32)), (.ref b1)])) _
    refine st3 _ ?_
    show Steps p.tables e below (T3.setTop (mkF m 9 #[.val (.int (64 : Int32)), .val (.ref b1)] [])) _
    refine XS.aloadN X3.here hx rfl (hb hby d17_9) rfl rfl ?_
    show Steps p.tables e below (T3.setTop (mkF m 10 #[.val (.int (64 : Int32)), .val (.ref b1)] [(.ref b1)])) _
    exact retOut X3 hx Bd.returns rfl (Or.inr (Or.inr (Or.inr (Or.inr ⟨rfl, rfl, rfl⟩)))) (hb hby d17_10) hr
  · show Q_rm_nc Z  h0 n0 _ T3.heap _
    exact ⟨b1, rfl, N3, K4, gzb1⟩
theorem d16_0 : decode prog_25_method_1_code 0 = .ok (.aload_n 0, 1) := by decide +kernel
theorem d16_1 : decode prog_25_method_1_code 1 = .ok (.invokespecial 1, 3) := by decide +kernel
theorem d16_4 : decode prog_25_method_1_code 4 = .ok (.aload_n 0, 1) := by decide +kernel
theorem d16_5 : decode prog_25_method_1_code 5 = .ok (.bipush 64, 2) := by decide +kernel
theorem d16_7 : decode prog_25_method_1_code 7 = .ok (.newarray .long, 2) := by decide +kernel
theorem d16_9 : decode prog_25_method_1_code 9 = .ok (.putfield 7, 3) := by decide +kernel
theorem d16_12 : decode prog_25_method_1_code 12 = .ok (.aload_n 0, 1) := by decide +kernel
theorem d16_13 : decode prog_25_method_1_code 13 = .ok (.bipush 64, 2) := by decide +kernel
theorem d16_15 : decode prog_25_method_1_code 15 = .ok (.invokestatic 13, 3) := by decide +kernel
theorem pd__40I_41_91I : parseMethodDescriptor "(I)[I" = some ⟨[.int], some (.array .int)⟩ := by decide +kernel
theorem d16_18 : decode prog_25_method_1_code 18 = .ok (.putfield 17, 3) := by decide +kernel
theorem d16_21 : decode prog_25_method_1_code 21 = .ok (.return_, 1) := by decide +kernel
theorem ef_rm_CB (m : MethodId) (x0 : Addr) : entryFrame m #[(.ref x0)] 1 = mkF m 0 #[.val (.ref x0)] [] := by first | (simp [entryFrame, mkF, argsToLocals, Value.category]; done) | rfl
def Q_rm_CB (Z : State) (a1 : Addr) (v1 : Value) (v2 : Value) (h0 : Heap) (n0 : Nat) (v : Option Value) (h : Heap) (L : List Loc) : Prop := v = none ∧ Fr n0 L ∧ Keep h0 h [a1]
set_option maxRecDepth 65536 in
set_option maxHeartbeats 40000000 in
theorem rm_CB (l : Launch) (Z : State) (a0 : Array Value) (hw : ∀ d ∈ tables_1, d.before a0 Z = true) (ws : List Jvm.Cond) (a1 : Addr) (v1 : Value) (v2 : Value) (h0 : Heap) (n0 : Nat) (Z0 : n0 ≤ h0.size) (pr0 : Exa Z h0 a1 "com/example/concordia/concordia/index/ChildrenByLabel") (pr1 : Fld Z h0 a1 "com/example/concordia/concordia/index/ChildrenByLabel" "keys" "[J" v1) (pr2 : Fld Z h0 a1 "com/example/concordia/concordia/index/ChildrenByLabel" "children" "[I" v2) (pr3 : n0 ≤ a1) :
    MetFree l (⟨"com/example/concordia/concordia/index/ChildrenByLabel", "<init>", "()V"⟩ : MethodName) (head1 (Jvm.Cond.code (⟨"com/example/concordia/concordia/index/ChildrenByLabel", "<init>", "()V"⟩ : MethodName) prog_25_method_1_code 1 none :: ws) ({ frames := 2, cells := 2, slots := 128, locals := 29 } : Room)) (fun a U => a = #[(.ref a1)] ∧ Z.Warmed39 U.vm ∧ U.heap = h0) (fun _ _ _ _ _ => True) (fun _ U o U' => ∃ v L, o = .returned v ∧ Q_rm_CB Z a1 v1 v2 h0 n0 v U'.heap L ∧ FrameEnd U o U' L ({ frames := 2, cells := 2, slots := 128, locals := 29 } : Room).cells ({ frames := 2, cells := 2, slots := 128, locals := 29 } : Room).slots) := by
  refine MetFree.of_bodySF (plainFor_of_name pn_com_example_concordia_concordia_index_ChildrenByLabel) hisR ?_
  intro p e s m args below meth c s₁ Bd hml0 hP hK
  obtain ⟨rfl, hZ, hh⟩ := hP
  have hx := Bd.exec
  have hby := Bd.bytes
  have hml : c.maxLocals = 1 := hml0
  have hown : s.vm.findClass "com/example/concordia/concordia/index/ChildrenByLabel" = some m.cls := findClass_of_methodNamed Bd.named
  have hnm := (name_of_methodNamed Bd.named Bd.method).1
  have X0 : Stand p l e ({ frames := 2, cells := 2, slots := 128, locals := 29 } : Room) s m #[(.ref a1)] below meth c s₁ [] 0 0 := Stand.of_body Bd
  have e0 : s₁.heap = h0 := by rw [← hh, Bd.state]; rfl
  have N0 := Fr.nil n0
  have pre0 : ∀ t, Steps p.tables e below (s₁.setTop (mkF m 0 #[.val (.ref a1)] [])) t → Steps p.tables e below (s₁.setTop (entryFrame m #[(.ref a1)] 1)) t := fun t k => castTop (ef_rm_CB m a1) k
  obtain ⟨T1, X1, e1, st1⟩ := initO X0 hx hZ hown (hw _ (List.mem_of_getElem? (i := 128) rfl)) (hw _ (List.mem_of_getElem? (i := 10) rfl)) (hw _ (List.mem_of_getElem? (i := 11) rfl)) e0 (g := (mkF m 1 #[.val (.ref a1)] [(.ref a1)])) rfl (by rw [hml]; rfl) rfl (hb hby d16_1) (by decide) (W := 0) (by show 2 * 0 + _ ≤ _; exact Nat.le_of_eq rfl) (by decide)
  obtain ⟨T2, h2, k2, X2, e2, E2, A2, st2⟩ := newP X1 hx hZ (hw _ (List.mem_of_getElem? (i := 129) rfl)) e1 (g := (mkF m 7 #[.val (.ref a1)] [(.int (64 : Int32)), (.ref a1)])) rfl (hb hby d16_7) rfl (by decide) (cap := 64) (by decide) (by decide) (by decide) (by decide)
  obtain ⟨b2, g2⟩ : ∃ z, z = h0.size := ⟨_, rfl⟩
  rw [← g2] at A2 st2
  have gnb2 : n0 ≤ b2 := Nat.le_trans (Nat.le_trans Z0 (Keep.refl h0 [a1]).1) (Nat.le_of_eq g2.symm)
  have gzb2 : h0.size ≤ b2 := Nat.le_trans (Keep.refl h0 [a1]).1 (Nat.le_of_eq g2.symm)
  have K3 : Keep h0 h2 [a1] := (Keep.refl h0 [a1]).ext E2
  have f2 : own_Ars Z h2 b2 .long (64 : Int32) := own_Ars.of (Arv.new A2 (by decide))
  have f4 : Fld Z h2 a1 "com/example/concordia/concordia/index/ChildrenByLabel" "keys" "[J" v1 := (pr1.ext E2)
  have f5 : Exa Z h2 a1 "com/example/concordia/concordia/index/ChildrenByLabel" := (pr0.ext E2)
  obtain ⟨T6, h6, X6, e6, W6, st6⟩ := putF X2 hx hZ hown (host := "") (Or.inl (hw _ (List.mem_of_getElem? (i := 130) rfl))) Via.refl e2 f4 f5 (Or.inl (hw _ (List.mem_of_getElem? (i := 131) rfl))) (hw _ (List.mem_of_getElem? (i := 123) rfl)) (ty := (.array .long)) (by decide) rfl rfl (g := (mkF m 9 #[.val (.ref a1)] [(.ref b2), (.ref a1)])) rfl rfl (hb hby d16_9)
  have N6 := Fr.snoc X6 N0 pr3
  have f6 : Fld Z h6 a1 "com/example/concordia/concordia/index/ChildrenByLabel" "keys" "[J" (.ref b2) := f4.same W6
  have K7 : Keep h0 h6 [a1] := K3.wr W6 (Or.inl (List.mem_of_getElem? (i := 0) rfl))
  obtain ⟨_, _, ⟨T8, L8, k8, n8⟩, -, X8, ⟨Lc8, hQ8, l8, y8, z8⟩, st8⟩ := Jvm.LawKit.callS X6 hx (y := (⟨"com/example/concordia/concordia/index/ChildrenByLabel", "newChildren", "(I)[I"⟩ : MethodName)) hown (mvT hZ (hw _ (List.mem_of_getElem? (i := 132) rfl))) (mvT hZ (hw _ (List.mem_of_getElem? (i := 133) rfl))) (mvT hZ (hw _ (List.mem_of_getElem? (i := 124) rfl))) (mvT hZ (hw _ (List.mem_of_getElem? (i := 134) rfl))) (by decide) (backOf (W := 1) (rm_nc l Z a0 hw []  h6 n0 (Nat.le_trans Z0 K7.1)) hZ (hw _ (List.mem_of_getElem? (i := 134) rfl)) (hw _ (List.mem_of_getElem? (i := 124) rfl)) (by decide) (by decide)) (g := (mkF m 15 #[.val (.ref a1)] [(.int (64 : Int32)), (.ref a1)])) rfl (by rw [hml]; rfl) (argsL := [(.int (64 : Int32))]) (rest := [(.ref a1)]) (lenOf pd__40I_41_91I rfl) rfl (by show 2 * 0 + _ ≤ _; exact Nat.le_of_eq rfl) (hb hby d16_15) (fun _ _ => ⟨rfl, e6, (by decide : 1 + 1 ≤ _), (by decide : 64 + 64 ≤ _)⟩)
  dsimp only [Pt.U, Pt.locs, Pt.cells, Pt.slots] at X8 l8 y8 z8 st8 hQ8
  subst l8 y8 z8
  obtain ⟨r_8, rfl, Nq8, Kc8, p8_0⟩ := hQ8
  have gzr_8 : h0.size ≤ r_8 := Nat.le_trans K7.1 p8_0
  have gnr_8 : n0 ≤ r_8 := Nat.le_trans Z0 gzr_8
  have K10 : Keep h0 T8.heap [a1] := K7.trans Kc8 all0
  have N8 := Fr.app N6 Nq8
  have f11 : Fld Z T8.heap a1 "com/example/concordia/concordia/index/ChildrenByLabel" "children" "[I" v2 := (((pr2.ext E2).other W6 (Or.inr (slot_ne (Or.inl (hw _ (List.mem_of_getElem? (i := 140) rfl))) (Or.inl (hw _ (List.mem_of_getElem? (i := 131) rfl))) (by decide) (t := (.array .int)) (t' := (.array .long)) (by decide) (by decide)))).keep Kc8 nin0)
  have f12 : Exa Z T8.heap a1 "com/example/concordia/concordia/index/ChildrenByLabel" := ((f5.wr W6).keep Kc8)
  obtain ⟨T13, h13, X13, e13, W13, st13⟩ := putF X8 hx hZ hown (host := "") (Or.inl (hw _ (List.mem_of_getElem? (i := 139) rfl))) Via.refl rfl f11 f12 (Or.inl (hw _ (List.mem_of_getElem? (i := 140) rfl))) (hw _ (List.mem_of_getElem? (i := 123) rfl)) (ty := (.array .int)) (by decide) rfl rfl (g := (mkF m 18 #[.val (.ref a1)] [(.ref r_8), (.ref a1)])) rfl rfl (hb hby d16_18)
  have N13 := Fr.snoc X13 N8 pr3
  have f13 : Fld Z h13 a1 "com/example/concordia/concordia/index/ChildrenByLabel" "children" "[I" (.ref r_8) := f11.same W13
  have K14 : Keep h0 h13 [a1] := K10.wr W13 (Or.inl (List.mem_of_getElem? (i := 0) rfl))
  obtain ⟨fs, hr, hrun, hended, hW, hsame⟩ := X13.leave (v := none) (fun _ => rfl)
  refine ⟨_, _, pre0 _ ?_, hrun, hended, _, _, rfl, ?_, ⟨_, rfl⟩, hW, hsame.mono (by decide) (by decide)⟩
  · show Steps p.tables e below (s₁.setTop (mkF m 0 #[.val (.ref a1)] [])) _
    refine XS.aloadN X0.here hx rfl (hb hby d16_0) rfl rfl ?_
    show Steps p.tables e below (s₁.setTop (mkF m 1 #[.val (.ref a1)] [(.ref a1)])) _
    refine st1 _ ?_
    show Steps p.tables e below (T1.setTop (mkF m 4 #[.val (.ref a1)] [])) _
    refine XS.aloadN X1.here hx rfl (hb hby d16_4) rfl rfl ?_
    show Steps p.tables e below (T1.setTop (mkF m 5 #[.val (.ref a1)] [(.ref a1)])) _
    refine XS.bipush X1.here hx rfl (hb hby d16_5) ?_
    show Steps p.tables e below (T1.setTop (mkF m 7 #[.val (.ref a1)] [(.int (64 : Int32)), (.ref a1)])) _
    refine st2 _ ?_
    show Steps p.tables e below (T2.setTop (mkF m 9 #[.val (.ref a1)] [(.ref b2), (.ref a1)])) _
    refine st6 _ ?_
    show Steps p.tables e below (T6.setTop (mkF m 12 #[.val (.ref a1)] [])) _
    refine XS.aloadN X6.here hx rfl (hb hby d16_12) rfl rfl ?_
    show Steps p.tables e below (T6.setTop (mkF m 13 #[.val (.ref a1)] [(.ref a1)])) _
    refine XS.bipush X6.here hx rfl (hb hby d16_13) ?_
    show Steps p.tables e below (T6.setTop (mkF m 15 #[.val (.ref a1)] [(.int (64 : Int32)), (.ref a1)])) _
    refine st8 _ ?_
    show Steps p.tables e below (T8.setTop (mkF m 18 #[.val (.ref a1)] [(.ref r_8), (.ref a1)])) _
    refine st13 _ ?_
    show Steps p.tables e below (T13.setTop (mkF m 21 #[.val (.ref a1)] [])) _
    exact X13.returnOut hx Bd.returns (hb hby d16_21) hr
  · show Q_rm_CB Z a1 v1 v2 h0 n0 _ T13.heap _
    rw [e13]
    exact ⟨rfl, N13, K14⟩
theorem d14_0 : decode prog_43_method_1_code 0 = .ok (.aload_n 0, 1) := by decide +kernel
theorem d14_1 : decode prog_43_method_1_code 1 = .ok (.invokespecial 3, 3) := by decide +kernel
theorem d14_4 : decode prog_43_method_1_code 4 = .ok (.aload_n 0, 1) := by decide +kernel
theorem d14_5 : decode prog_43_method_1_code 5 = .ok (.bipush 64, 2) := by decide +kernel
theorem d14_7 : decode prog_43_method_1_code 7 = .ok (.newarray .int, 2) := by decide +kernel
theorem d14_9 : decode prog_43_method_1_code 9 = .ok (.putfield 9, 3) := by decide +kernel
theorem d14_12 : decode prog_43_method_1_code 12 = .ok (.aload_n 0, 1) := by decide +kernel
theorem d14_13 : decode prog_43_method_1_code 13 = .ok (.iconst 4, 1) := by decide +kernel
theorem d14_14 : decode prog_43_method_1_code 14 = .ok (.newarray .int, 2) := by decide +kernel
theorem d14_16 : decode prog_43_method_1_code 16 = .ok (.dup, 1) := by decide +kernel
theorem d14_17 : decode prog_43_method_1_code 17 = .ok (.iconst 0, 1) := by decide +kernel
theorem d14_18 : decode prog_43_method_1_code 18 = .ok (.iconst (-1), 1) := by decide +kernel
theorem d14_19 : decode prog_43_method_1_code 19 = .ok (.iastore, 1) := by decide +kernel
theorem d14_20 : decode prog_43_method_1_code 20 = .ok (.dup, 1) := by decide +kernel
theorem d14_21 : decode prog_43_method_1_code 21 = .ok (.iconst 1, 1) := by decide +kernel
theorem d14_22 : decode prog_43_method_1_code 22 = .ok (.iconst (-1), 1) := by decide +kernel
theorem d14_23 : decode prog_43_method_1_code 23 = .ok (.iastore, 1) := by decide +kernel
theorem d14_24 : decode prog_43_method_1_code 24 = .ok (.dup, 1) := by decide +kernel
theorem d14_25 : decode prog_43_method_1_code 25 = .ok (.iconst 2, 1) := by decide +kernel
theorem d14_26 : decode prog_43_method_1_code 26 = .ok (.iconst (-1), 1) := by decide +kernel
theorem d14_27 : decode prog_43_method_1_code 27 = .ok (.iastore, 1) := by decide +kernel
theorem d14_28 : decode prog_43_method_1_code 28 = .ok (.dup, 1) := by decide +kernel
theorem d14_29 : decode prog_43_method_1_code 29 = .ok (.iconst 3, 1) := by decide +kernel
theorem d14_30 : decode prog_43_method_1_code 30 = .ok (.iconst (-1), 1) := by decide +kernel
theorem d14_31 : decode prog_43_method_1_code 31 = .ok (.iastore, 1) := by decide +kernel
theorem d14_32 : decode prog_43_method_1_code 32 = .ok (.putfield 15, 3) := by decide +kernel
theorem d14_35 : decode prog_43_method_1_code 35 = .ok (.aload_n 0, 1) := by decide +kernel
theorem d14_36 : decode prog_43_method_1_code 36 = .ok (.sipush 1024, 3) := by decide +kernel
theorem d14_39 : decode prog_43_method_1_code 39 = .ok (.putfield 18, 3) := by decide +kernel
theorem d14_42 : decode prog_43_method_1_code 42 = .ok (.aload_n 0, 1) := by decide +kernel
theorem d14_43 : decode prog_43_method_1_code 43 = .ok (.new 1, 3) := by decide +kernel
theorem d14_46 : decode prog_43_method_1_code 46 = .ok (.dup, 1) := by decide +kernel
theorem d14_47 : decode prog_43_method_1_code 47 = .ok (.invokespecial 22, 3) := by decide +kernel
theorem d14_50 : decode prog_43_method_1_code 50 = .ok (.putfield 23, 3) := by decide +kernel
theorem d14_53 : decode prog_43_method_1_code 53 = .ok (.aload_n 0, 1) := by decide +kernel
theorem d14_54 : decode prog_43_method_1_code 54 = .ok (.new 27, 3) := by decide +kernel
theorem d14_57 : decode prog_43_method_1_code 57 = .ok (.dup, 1) := by decide +kernel
theorem d14_58 : decode prog_43_method_1_code 58 = .ok (.invokespecial 29, 3) := by decide +kernel
theorem d14_61 : decode prog_43_method_1_code 61 = .ok (.putfield 30, 3) := by decide +kernel
theorem d14_64 : decode prog_43_method_1_code 64 = .ok (.aload_n 0, 1) := by decide +kernel
theorem d14_65 : decode prog_43_method_1_code 65 = .ok (.bipush 16, 2) := by decide +kernel
theorem d14_67 : decode prog_43_method_1_code 67 = .ok (.newarray .int, 2) := by decide +kernel
theorem d14_69 : decode prog_43_method_1_code 69 = .ok (.putfield 34, 3) := by decide +kernel
theorem d14_72 : decode prog_43_method_1_code 72 = .ok (.aload_n 0, 1) := by decide +kernel
theorem d14_73 : decode prog_43_method_1_code 73 = .ok (.bipush 16, 2) := by decide +kernel
theorem d14_75 : decode prog_43_method_1_code 75 = .ok (.newarray .int, 2) := by decide +kernel
theorem d14_77 : decode prog_43_method_1_code 77 = .ok (.putfield 37, 3) := by decide +kernel
theorem d14_80 : decode prog_43_method_1_code 80 = .ok (.aload_n 0, 1) := by decide +kernel
theorem d14_81 : decode prog_43_method_1_code 81 = .ok (.new 27, 3) := by decide +kernel
theorem d14_84 : decode prog_43_method_1_code 84 = .ok (.dup, 1) := by decide +kernel
theorem d14_85 : decode prog_43_method_1_code 85 = .ok (.invokespecial 29, 3) := by decide +kernel
theorem d14_88 : decode prog_43_method_1_code 88 = .ok (.putfield 40, 3) := by decide +kernel
theorem d14_91 : decode prog_43_method_1_code 91 = .ok (.aload_n 0, 1) := by decide +kernel
theorem d14_92 : decode prog_43_method_1_code 92 = .ok (.new 27, 3) := by decide +kernel
theorem d14_95 : decode prog_43_method_1_code 95 = .ok (.dup, 1) := by decide +kernel
theorem d14_96 : decode prog_43_method_1_code 96 = .ok (.invokespecial 29, 3) := by decide +kernel
theorem d14_99 : decode prog_43_method_1_code 99 = .ok (.putfield 43, 3) := by decide +kernel
theorem d14_102 : decode prog_43_method_1_code 102 = .ok (.aload_n 0, 1) := by decide +kernel
theorem d14_103 : decode prog_43_method_1_code 103 = .ok (.aload_n 1, 1) := by decide +kernel
theorem d14_104 : decode prog_43_method_1_code 104 = .ok (.putfield 46, 3) := by decide +kernel
theorem d14_107 : decode prog_43_method_1_code 107 = .ok (.return_, 1) := by decide +kernel
theorem pn_com_example_concordia_concordia_index_LinkedCode : plainName "com/example/concordia/concordia/index/LinkedCode" = true := by first | (simp [plainName, overriddenIn]; done) | decide +kernel
theorem ef_rm_LK (m : MethodId) (x0 : Addr) (x1 : Addr) : entryFrame m #[(.ref x0), (.ref x1)] 2 = mkF m 0 #[.val (.ref x0), .val (.ref x1)] [] := by first | (simp [entryFrame, mkF, argsToLocals, Value.category]; done) | rfl
def Q_rm_LK (Z : State) (a1 : Addr) (a2 : Addr) (v1 : Value) (v2 : Value) (v3 : Value) (v4 : Value) (v5 : Value) (v6 : Value) (v7 : Value) (v8 : Value) (v9 : Value) (v10 : Value) (v11 : Value) (v12 : Value) (h0 : Heap) (n0 : Nat) (v : Option Value) (h : Heap) (L : List Loc) : Prop := ∃ cd : Addr, ∃ rt : Addr, ∃ kr : ClassId, v = none ∧ Fr n0 L ∧ Keep h0 h [a1] ∧ (h0.size ≤ cd) ∧ (h0.size ≤ rt) ∧ (cd ≠ rt) ∧ (Fld Z h a1 "com/example/concordia/concordia/index/LinkedCode" "code" "[I" (.ref cd)) ∧ (own_Ars Z h cd .int (64 : Int32)) ∧ (Fld Z h a1 "com/example/concordia/concordia/index/LinkedCode" "roots" "[I" (.ref rt)) ∧ (Arv Z h rt kr .int (4 : Int32) [(.int (-1 : Int32)), (.int (-1 : Int32)), (.int (-1 : Int32)), (.int (-1 : Int32))] (.int (0 : Int32))) ∧ (Fld Z h a1 "com/example/concordia/concordia/index/LinkedCode" "layOutAt" "I" (.int (1024 : Int32))) ∧ (Fld Z h a1 "com/example/concordia/concordia/index/LinkedCode" "codeSize" "I" (.int (0 : Int32))) ∧ (Fld Z h a1 "com/example/concordia/concordia/index/LinkedCode" "liveInstructions" "I" v11) ∧ (Fld Z h a1 "com/example/concordia/concordia/index/LinkedCode" "program" "Lcom/example/concordia/concordia/index/Program;" v12)
set_option maxRecDepth 65536 in
set_option maxHeartbeats 40000000 in
theorem rm_LK (l : Launch) (Z : State) (a0 : Array Value) (hw : ∀ d ∈ tables_1, d.before a0 Z = true) (ws : List Jvm.Cond) (a1 : Addr) (a2 : Addr) (v1 : Value) (v2 : Value) (v3 : Value) (v4 : Value) (v5 : Value) (v6 : Value) (v7 : Value) (v8 : Value) (v9 : Value) (v10 : Value) (v11 : Value) (v12 : Value) (h0 : Heap) (n0 : Nat) (Z0 : n0 ≤ h0.size) (pr0 : Exa Z h0 a1 "com/example/concordia/concordia/index/LinkedCode") (pr1 : Fld Z h0 a1 "com/example/concordia/concordia/index/LinkedCode" "code" "[I" v1) (pr2 : Fld Z h0 a1 "com/example/concordia/concordia/index/LinkedCode" "roots" "[I" v2) (pr3 : Fld Z h0 a1 "com/example/concordia/concordia/index/LinkedCode" "layOutAt" "I" v3) (pr4 : Fld Z h0 a1 "com/example/concordia/concordia/index/LinkedCode" "switchedChecks" "Lcom/example/concordia/concordia/index/ChildrenByLabel;" v4) (pr5 : Fld Z h0 a1 "com/example/concordia/concordia/index/LinkedCode" "tailCells" "Lcom/example/concordia/concordia/expr/IntList;" v5) (pr6 : Fld Z h0 a1 "com/example/concordia/concordia/index/LinkedCode" "path" "[I" v6) (pr7 : Fld Z h0 a1 "com/example/concordia/concordia/index/LinkedCode" "pathChains" "[I" v7) (pr8 : Fld Z h0 a1 "com/example/concordia/concordia/index/LinkedCode" "layoutWork" "Lcom/example/concordia/concordia/expr/IntList;" v8) (pr9 : Fld Z h0 a1 "com/example/concordia/concordia/index/LinkedCode" "chainMembers" "Lcom/example/concordia/concordia/expr/IntList;" v9) (pr10 : Fld Z h0 a1 "com/example/concordia/concordia/index/LinkedCode" "store" "Lcom/example/concordia/concordia/expr/ExpressionStore;" v10) (pr11 : Fld Z h0 a1 "com/example/concordia/concordia/index/LinkedCode" "codeSize" "I" (.int (0 : Int32))) (pr12 : Fld Z h0 a1 "com/example/concordia/concordia/index/LinkedCode" "liveInstructions" "I" v11) (pr13 : Fld Z h0 a1 "com/example/concordia/concordia/index/LinkedCode" "program" "Lcom/example/concordia/concordia/index/Program;" v12) (pr14 : n0 ≤ a1) :
    MetFree l (⟨"com/example/concordia/concordia/index/LinkedCode", "<init>", "(Lcom/example/concordia/concordia/expr/ExpressionStore;)V"⟩ : MethodName) (head1 (Jvm.Cond.code (⟨"com/example/concordia/concordia/index/LinkedCode", "<init>", "(Lcom/example/concordia/concordia/expr/ExpressionStore;)V"⟩ : MethodName) prog_43_method_1_code 2 none :: ws) ({ frames := 3, cells := 13, slots := 285, locals := 43 } : Room)) (fun a U => a = #[(.ref a1), (.ref a2)] ∧ Z.Warmed39 U.vm ∧ U.heap = h0) (fun _ _ _ _ _ => True) (fun _ U o U' => ∃ v L, o = .returned v ∧ Q_rm_LK Z a1 a2 v1 v2 v3 v4 v5 v6 v7 v8 v9 v10 v11 v12 h0 n0 v U'.heap L ∧ FrameEnd U o U' L ({ frames := 3, cells := 13, slots := 285, locals := 43 } : Room).cells ({ frames := 3, cells := 13, slots := 285, locals := 43 } : Room).slots) := by
  refine MetFree.of_bodySF (plainFor_of_name pn_com_example_concordia_concordia_index_LinkedCode) hisR ?_
  intro p e s m args below meth c s₁ Bd hml0 hP hK
  obtain ⟨rfl, hZ, hh⟩ := hP
  have hx := Bd.exec
  have hby := Bd.bytes
  have hml : c.maxLocals = 2 := hml0
  have hown : s.vm.findClass "com/example/concordia/concordia/index/LinkedCode" = some m.cls := findClass_of_methodNamed Bd.named
  have hnm := (name_of_methodNamed Bd.named Bd.method).1
  have X0 : Stand p l e ({ frames := 3, cells := 13, slots := 285, locals := 43 } : Room) s m #[(.ref a1), (.ref a2)] below meth c s₁ [] 0 0 := Stand.of_body Bd
  have e0 : s₁.heap = h0 := by rw [← hh, Bd.state]; rfl
  have N0 := Fr.nil n0
  have pre0 : ∀ t, Steps p.tables e below (s₁.setTop (mkF m 0 #[.val (.ref a1), .val (.ref a2)] [])) t → Steps p.tables e below (s₁.setTop (entryFrame m #[(.ref a1), (.ref a2)] 2)) t := fun t k => castTop (ef_rm_LK m a1 a2) k
  obtain ⟨_, _, ⟨T1, L1, k1, n1⟩, -, X1, ⟨Lc1, hQ1, l1, y1, z1⟩, st1⟩ := X0.specialBack hx (y := (⟨"com/example/concordia/concordia/index/Code", "<init>", "()V"⟩ : MethodName)) rfl hown (mvT hZ (hw _ (List.mem_of_getElem? (i := 110) rfl))) (mvT hZ (hw _ (List.mem_of_getElem? (i := 111) rfl))) (mvT hZ (hw _ (List.mem_of_getElem? (i := 114) rfl))) (by decide) (backOf (W := 0) (rm_Code l Z a0 hw [] a1 h0 n0 Z0) hZ (hw _ (List.mem_of_getElem? (i := 114) rfl)) (hw _ (List.mem_of_getElem? (i := 113) rfl)) (by decide) (by decide)) (g := (mkF m 1 #[.val (.ref a1), .val (.ref a2)] [(.ref a1)])) rfl (by rw [hml]; rfl) (Steps.refl _) (a := a1) (argsL := []) (rest := []) (lenOf pd__40_41V rfl) rfl (by show 2 * 0 + _ ≤ _; exact Nat.le_of_eq rfl) (hb hby d14_1) (fun _ _ => ⟨rfl, e0, (by decide : 0 + 0 ≤ _), (by decide : 0 + 0 ≤ _)⟩)
  dsimp only [Pt.U, Pt.locs, Pt.cells, Pt.slots] at X1 l1 y1 z1 st1 hQ1
  subst l1 y1 z1
  obtain ⟨rfl, Nq1, e1⟩ := hQ1
  have N1 := Fr.app N0 Nq1
  obtain ⟨T2, h2, k2, X2, e2, E2, A2, st2⟩ := newP X1 hx hZ (hw _ (List.mem_of_getElem? (i := 70) rfl)) e1 (g := (mkF m 7 #[.val (.ref a1), .val (.ref a2)] [(.int (64 : Int32)), (.ref a1)])) rfl (hb hby d14_7) rfl (by decide) (cap := 64) (by decide) (by decide) (by decide) (by decide)
  obtain ⟨b2, g2⟩ : ∃ z, z = h0.size := ⟨_, rfl⟩
  rw [← g2] at A2 st2
  have gnb2 : n0 ≤ b2 := Nat.le_trans (Nat.le_trans Z0 (Keep.refl h0 [a1]).1) (Nat.le_of_eq g2.symm)
  have gzb2 : h0.size ≤ b2 := Nat.le_trans (Keep.refl h0 [a1]).1 (Nat.le_of_eq g2.symm)
  have K3 : Keep h0 h2 [a1] := (Keep.refl h0 [a1]).ext E2
  have f2 : own_Ars Z h2 b2 .int (64 : Int32) := own_Ars.of (Arv.new A2 (by decide))
  have f4 : Fld Z h2 a1 "com/example/concordia/concordia/index/LinkedCode" "code" "[I" v1 := (pr1.ext E2)
  have f5 : Exa Z h2 a1 "com/example/concordia/concordia/index/LinkedCode" := (pr0.ext E2)
  obtain ⟨T6, h6, X6, e6, W6, st6⟩ := putF X2 hx hZ hown (host := "") (Or.inl (hw _ (List.mem_of_getElem? (i := 116) rfl))) Via.refl e2 f4 f5 (Or.inl (hw _ (List.mem_of_getElem? (i := 117) rfl))) (hw _ (List.mem_of_getElem? (i := 1) rfl)) (ty := (.array .int)) (by decide) rfl rfl (g := (mkF m 9 #[.val (.ref a1), .val (.ref a2)] [(.ref b2), (.ref a1)])) rfl rfl (hb hby d14_9)
  have N6 := Fr.snoc X6 N1 pr14
  have f6 : Fld Z h6 a1 "com/example/concordia/concordia/index/LinkedCode" "code" "[I" (.ref b2) := f4.same W6
  have K7 : Keep h0 h6 [a1] := K3.wr W6 (Or.inl (List.mem_of_getElem? (i := 0) rfl))
  obtain ⟨T8, h8, k8, X8, e8, E8, A8, st8⟩ := newP X6 hx hZ (hw _ (List.mem_of_getElem? (i := 70) rfl)) e6 (g := (mkF m 14 #[.val (.ref a1), .val (.ref a2)] [(.int (4 : Int32)), (.ref a1)])) rfl (hb hby d14_14) rfl (by decide) (cap := 4) (by decide) (by decide) (by decide) (by decide)
  obtain ⟨b8, g8⟩ : ∃ z, z = h6.size := ⟨_, rfl⟩
  rw [← g8] at A8 st8
  have gnb8 : n0 ≤ b8 := Nat.le_trans (Nat.le_trans Z0 K7.1) (Nat.le_of_eq g8.symm)
  have gzb8 : h0.size ≤ b8 := Nat.le_trans K7.1 (Nat.le_of_eq g8.symm)
  have K9 : Keep h0 h8 [a1] := K7.ext E8
  have f8 : Arv Z h8 b8 k8 .int (4 : Int32) [(.int (0 : Int32)), (.int (0 : Int32)), (.int (0 : Int32)), (.int (0 : Int32))] (.int (0 : Int32)) := (Arv.new A8 (by decide)).pad (pad_rep [] (.int (0 : Int32)) 4)
  obtain ⟨cl10, Ar10, q10, Sz10, Ng10, Hs10, Ft10⟩ := id f8
  obtain ⟨T11, h11, X11, e11, W11, st11⟩ := stI X8 hx hZ e8 Ar10 (j := (0 : Int32)) (inb_of Sz10 ⟨by decide, by decide⟩) (g := (mkF m 19 #[.val (.ref a1), .val (.ref a2)] [(.int (-1 : Int32)), (.int (0 : Int32)), (.ref b8), (.ref b8), (.ref a1)])) rfl rfl (hb hby d14_19)
  have N11 := Fr.snoc X11 N6 gnb8
  have f11 : Arv Z h11 b8 k8 .int (4 : Int32) [(.int (-1 : Int32)), (.int (0 : Int32)), (.int (0 : Int32)), (.int (0 : Int32))] (.int (0 : Int32)) := Arv.set Ar10 q10 Sz10 Ng10 Hs10 Ft10 rfl W11 0 rfl (Nat.le_of_ble_eq_true rfl)
  have K12 : Keep h0 h11 [a1] := K9.wr W11 (Or.inr gzb8)
  obtain ⟨cl13, Ar13, q13, Sz13, Ng13, Hs13, Ft13⟩ := id f11
  obtain ⟨T14, h14, X14, e14, W14, st14⟩ := stI X11 hx hZ e11 Ar13 (j := (1 : Int32)) (inb_of Sz13 ⟨by decide, by decide⟩) (g := (mkF m 23 #[.val (.ref a1), .val (.ref a2)] [(.int (-1 : Int32)), (.int (1 : Int32)), (.ref b8), (.ref b8), (.ref a1)])) rfl rfl (hb hby d14_23)
  have N14 := Fr.snoc X14 N11 gnb8
  have f14 : Arv Z h14 b8 k8 .int (4 : Int32) [(.int (-1 : Int32)), (.int (-1 : Int32)), (.int (0 : Int32)), (.int (0 : Int32))] (.int (0 : Int32)) := Arv.set Ar13 q13 Sz13 Ng13 Hs13 Ft13 rfl W14 1 rfl (Nat.le_of_ble_eq_true rfl)
  have K15 : Keep h0 h14 [a1] := K12.wr W14 (Or.inr gzb8)
  obtain ⟨cl16, Ar16, q16, Sz16, Ng16, Hs16, Ft16⟩ := id f14
  obtain ⟨T17, h17, X17, e17, W17, st17⟩ := stI X14 hx hZ e14 Ar16 (j := (2 : Int32)) (inb_of Sz16 ⟨by decide, by decide⟩) (g := (mkF m 27 #[.val (.ref a1), .val (.ref a2)] [(.int (-1 : Int32)), (.int (2 : Int32)), (.ref b8), (.ref b8), (.ref a1)])) rfl rfl (hb hby d14_27)
  have N17 := Fr.snoc X17 N14 gnb8
  have f17 : Arv Z h17 b8 k8 .int (4 : Int32) [(.int (-1 : Int32)), (.int (-1 : Int32)), (.int (-1 : Int32)), (.int (0 : Int32))] (.int (0 : Int32)) := Arv.set Ar16 q16 Sz16 Ng16 Hs16 Ft16 rfl W17 2 rfl (Nat.le_of_ble_eq_true rfl)
  have K18 : Keep h0 h17 [a1] := K15.wr W17 (Or.inr gzb8)
  obtain ⟨cl19, Ar19, q19, Sz19, Ng19, Hs19, Ft19⟩ := id f17
  obtain ⟨T20, h20, X20, e20, W20, st20⟩ := stI X17 hx hZ e17 Ar19 (j := (3 : Int32)) (inb_of Sz19 ⟨by decide, by decide⟩) (g := (mkF m 31 #[.val (.ref a1), .val (.ref a2)] [(.int (-1 : Int32)), (.int (3 : Int32)), (.ref b8), (.ref b8), (.ref a1)])) rfl rfl (hb hby d14_31)
  have N20 := Fr.snoc X20 N17 gnb8
  have f20 : Arv Z h20 b8 k8 .int (4 : Int32) [(.int (-1 : Int32)), (.int (-1 : Int32)), (.int (-1 : Int32)), (.int (-1 : Int32))] (.int (0 : Int32)) := Arv.set Ar19 q19 Sz19 Ng19 Hs19 Ft19 rfl W20 3 rfl (Nat.le_of_ble_eq_true rfl)
  have K21 : Keep h0 h20 [a1] := K18.wr W20 (Or.inr gzb8)
  have f22 : Fld Z h20 a1 "com/example/concordia/concordia/index/LinkedCode" "roots" "[I" v2 := (((((((pr2.ext E2).other W6 (Or.inr (slot_ne (Or.inr (hw _ (List.mem_of_getElem? (i := 119) rfl))) (Or.inl (hw _ (List.mem_of_getElem? (i := 117) rfl))) (by decide) (t := (.array .int)) (t' := (.array .int)) (by decide) (by decide)))).ext E8).other W11 (Or.inl (Nat.ne_of_lt (Nat.lt_of_lt_of_le (f5.wr W6).lt (Nat.le_of_eq g8.symm))))).other W14 (Or.inl (Nat.ne_of_lt (Nat.lt_of_lt_of_le (f5.wr W6).lt (Nat.le_of_eq g8.symm))))).other W17 (Or.inl (Nat.ne_of_lt (Nat.lt_of_lt_of_le (f5.wr W6).lt (Nat.le_of_eq g8.symm))))).other W20 (Or.inl (Nat.ne_of_lt (Nat.lt_of_lt_of_le (f5.wr W6).lt (Nat.le_of_eq g8.symm)))))
  have f23 : Exa Z h20 a1 "com/example/concordia/concordia/index/LinkedCode" := ((((((f5.wr W6).ext E8).wr W11).wr W14).wr W17).wr W20)
  obtain ⟨T24, h24, X24, e24, W24, st24⟩ := putF X20 hx hZ hown (host := "") (Or.inl (hw _ (List.mem_of_getElem? (i := 118) rfl))) Via.refl e20 f22 f23 (Or.inr ⟨(hw _ (List.mem_of_getElem? (i := 119) rfl)), rfl, hnm⟩) (hw _ (List.mem_of_getElem? (i := 1) rfl)) (ty := (.array .int)) (by decide) rfl rfl (g := (mkF m 32 #[.val (.ref a1), .val (.ref a2)] [(.ref b8), (.ref a1)])) rfl rfl (hb hby d14_32)
  have N24 := Fr.snoc X24 N20 pr14
  have f24 : Fld Z h24 a1 "com/example/concordia/concordia/index/LinkedCode" "roots" "[I" (.ref b8) := f22.same W24
  have K25 : Keep h0 h24 [a1] := K21.wr W24 (Or.inl (List.mem_of_getElem? (i := 0) rfl))
  have f26 : Fld Z h24 a1 "com/example/concordia/concordia/index/LinkedCode" "layOutAt" "I" v3 := ((((((((pr3.ext E2).other W6 (Or.inr (slot_ne (Or.inl (hw _ (List.mem_of_getElem? (i := 121) rfl))) (Or.inl (hw _ (List.mem_of_getElem? (i := 117) rfl))) (by decide) (t := .int) (t' := (.array .int)) (by decide) (by decide)))).ext E8).other W11 (Or.inl (Nat.ne_of_lt (Nat.lt_of_lt_of_le (f5.wr W6).lt (Nat.le_of_eq g8.symm))))).other W14 (Or.inl (Nat.ne_of_lt (Nat.lt_of_lt_of_le (f5.wr W6).lt (Nat.le_of_eq g8.symm))))).other W17 (Or.inl (Nat.ne_of_lt (Nat.lt_of_lt_of_le (f5.wr W6).lt (Nat.le_of_eq g8.symm))))).other W20 (Or.inl (Nat.ne_of_lt (Nat.lt_of_lt_of_le (f5.wr W6).lt (Nat.le_of_eq g8.symm))))).other W24 (Or.inr (slot_ne (Or.inl (hw _ (List.mem_of_getElem? (i := 121) rfl))) (Or.inr (hw _ (List.mem_of_getElem? (i := 119) rfl))) (by decide) (t := .int) (t' := (.array .int)) (by decide) (by decide))))
  have f27 : Exa Z h24 a1 "com/example/concordia/concordia/index/LinkedCode" := (f23.wr W24)
  obtain ⟨T28, h28, X28, e28, W28, st28⟩ := putF X24 hx hZ hown (host := "") (Or.inl (hw _ (List.mem_of_getElem? (i := 120) rfl))) Via.refl e24 f26 f27 (Or.inl (hw _ (List.mem_of_getElem? (i := 121) rfl))) (hw _ (List.mem_of_getElem? (i := 1) rfl)) (ty := .int) (by decide) rfl rfl (g := (mkF m 39 #[.val (.ref a1), .val (.ref a2)] [(.int (1024 : Int32)), (.ref a1)])) rfl rfl (hb hby d14_39)
  have N28 := Fr.snoc X28 N24 pr14
  have f28 : Fld Z h28 a1 "com/example/concordia/concordia/index/LinkedCode" "layOutAt" "I" (.int (1024 : Int32)) := f26.same W28
  have K29 : Keep h0 h28 [a1] := K25.wr W28 (Or.inl (List.mem_of_getElem? (i := 0) rfl))
  obtain ⟨T30, h30, X30, e30, E30, A30, D30, -, st30⟩ := newO X28 hx hZ hown (hw _ (List.mem_of_getElem? (i := 122) rfl)) (hw _ (List.mem_of_getElem? (i := 123) rfl)) (hw _ (List.mem_of_getElem? (i := 124) rfl)) e28 (g := (mkF m 43 #[.val (.ref a1), .val (.ref a2)] [(.ref a1)])) rfl (hb hby d14_43) (by decide) (by decide)
  obtain ⟨b30, g30⟩ : ∃ z, z = h28.size := ⟨_, rfl⟩
  rw [← g30] at A30 D30 st30
  have gnb30 : n0 ≤ b30 := Nat.le_trans (Nat.le_trans Z0 K29.1) (Nat.le_of_eq g30.symm)
  have gzb30 : h0.size ≤ b30 := Nat.le_trans K29.1 (Nat.le_of_eq g30.symm)
  have K31 : Keep h0 h30 [a1] := K29.ext E30
  have f32 : Fld Z h30 b30 "com/example/concordia/concordia/index/ChildrenByLabel" "keys" "[J" .null := D30 (Or.inl (hw _ (List.mem_of_getElem? (i := 131) rfl))) (ty := (.array .long)) (by decide)
  have f33 : Fld Z h30 b30 "com/example/concordia/concordia/index/ChildrenByLabel" "children" "[I" .null := D30 (Or.inl (hw _ (List.mem_of_getElem? (i := 140) rfl))) (ty := (.array .int)) (by decide)
  obtain ⟨_, _, ⟨T34, L34, k34, n34⟩, -, X34, ⟨Lc34, hQ34, l34, y34, z34⟩, st34⟩ := X30.specialBack hx (y := (⟨"com/example/concordia/concordia/index/ChildrenByLabel", "<init>", "()V"⟩ : MethodName)) rfl hown (mvT hZ (hw _ (List.mem_of_getElem? (i := 125) rfl))) (mvT hZ (hw _ (List.mem_of_getElem? (i := 126) rfl))) (mvT hZ (hw _ (List.mem_of_getElem? (i := 127) rfl))) (by decide) (backOf (W := 2) (rm_CB l Z a0 hw [] b30 .null .null h30 n0 (Nat.le_trans Z0 K31.1) A30 f32 f33 gnb30) hZ (hw _ (List.mem_of_getElem? (i := 127) rfl)) (hw _ (List.mem_of_getElem? (i := 124) rfl)) (by decide) (by decide)) (g := (mkF m 47 #[.val (.ref a1), .val (.ref a2)] [(.ref b30), (.ref b30), (.ref a1)])) rfl (by rw [hml]; rfl) (Steps.refl _) (a := b30) (argsL := []) (rest := [(.ref b30), (.ref a1)]) (lenOf pd__40_41V rfl) rfl (by show 2 * 0 + _ ≤ _; exact Nat.le_of_eq rfl) (hb hby d14_47) (fun _ _ => ⟨rfl, e30, (by decide : 3 + 2 ≤ _), (by decide : 71 + 128 ≤ _)⟩)
  dsimp only [Pt.U, Pt.locs, Pt.cells, Pt.slots] at X34 l34 y34 z34 st34 hQ34
  subst l34 y34 z34
  obtain ⟨rfl, Nq34, Kc34⟩ := hQ34
  have K35 : Keep h0 T34.heap [a1] := K31.trans Kc34 (allS (Or.inr gzb30) all0)
  have N34 := Fr.app N28 Nq34
  have f36 : Fld Z T34.heap a1 "com/example/concordia/concordia/index/LinkedCode" "switchedChecks" "Lcom/example/concordia/concordia/index/ChildrenByLabel;" v4 := (((((((((((pr4.ext E2).other W6 (Or.inr (slot_ne (Or.inr (hw _ (List.mem_of_getElem? (i := 142) rfl))) (Or.inl (hw _ (List.mem_of_getElem? (i := 117) rfl))) (by decide) (t := (.object "com/example/concordia/concordia/index/ChildrenByLabel")) (t' := (.array .int)) (by decide) (by decide)))).ext E8).other W11 (Or.inl (Nat.ne_of_lt (Nat.lt_of_lt_of_le (f5.wr W6).lt (Nat.le_of_eq g8.symm))))).other W14 (Or.inl (Nat.ne_of_lt (Nat.lt_of_lt_of_le (f5.wr W6).lt (Nat.le_of_eq g8.symm))))).other W17 (Or.inl (Nat.ne_of_lt (Nat.lt_of_lt_of_le (f5.wr W6).lt (Nat.le_of_eq g8.symm))))).other W20 (Or.inl (Nat.ne_of_lt (Nat.lt_of_lt_of_le (f5.wr W6).lt (Nat.le_of_eq g8.symm))))).other W24 (Or.inr (slot_ne (Or.inr (hw _ (List.mem_of_getElem? (i := 142) rfl))) (Or.inr (hw _ (List.mem_of_getElem? (i := 119) rfl))) (by decide) (t := (.object "com/example/concordia/concordia/index/ChildrenByLabel")) (t' := (.array .int)) (by decide) (by decide)))).other W28 (Or.inr (slot_ne (Or.inr (hw _ (List.mem_of_getElem? (i := 142) rfl))) (Or.inl (hw _ (List.mem_of_getElem? (i := 121) rfl))) (by decide) (t := (.object "com/example/concordia/concordia/index/ChildrenByLabel")) (t' := .int) (by decide) (by decide)))).ext E30).keep Kc34 (ninS (Nat.ne_of_lt (Nat.lt_of_lt_of_le (f27.wr W28).lt (Nat.le_of_eq g30.symm))) nin0))
  have f37 : Exa Z T34.heap a1 "com/example/concordia/concordia/index/LinkedCode" := (((f27.wr W28).ext E30).keep Kc34)
  obtain ⟨T38, h38, X38, e38, W38, st38⟩ := putF X34 hx hZ hown (host := "") (Or.inl (hw _ (List.mem_of_getElem? (i := 141) rfl))) Via.refl rfl f36 f37 (Or.inr ⟨(hw _ (List.mem_of_getElem? (i := 142) rfl)), rfl, hnm⟩) (hw _ (List.mem_of_getElem? (i := 1) rfl)) (ty := (.object "com/example/concordia/concordia/index/ChildrenByLabel")) (by decide) rfl rfl (g := (mkF m 50 #[.val (.ref a1), .val (.ref a2)] [(.ref b30), (.ref a1)])) rfl rfl (hb hby d14_50)
  have N38 := Fr.snoc X38 N34 pr14
  have f38 : Fld Z h38 a1 "com/example/concordia/concordia/index/LinkedCode" "switchedChecks" "Lcom/example/concordia/concordia/index/ChildrenByLabel;" (.ref b30) := f36.same W38
  have K39 : Keep h0 h38 [a1] := K35.wr W38 (Or.inl (List.mem_of_getElem? (i := 0) rfl))
  obtain ⟨T40, h40, X40, e40, E40, A40, D40, -, st40⟩ := newO X38 hx hZ hown (hw _ (List.mem_of_getElem? (i := 143) rfl)) (hw _ (List.mem_of_getElem? (i := 64) rfl)) (hw _ (List.mem_of_getElem? (i := 65) rfl)) e38 (g := (mkF m 54 #[.val (.ref a1), .val (.ref a2)] [(.ref a1)])) rfl (hb hby d14_54) (by decide) (by decide)
  obtain ⟨b40, g40⟩ : ∃ z, z = h38.size := ⟨_, rfl⟩
  rw [← g40] at A40 D40 st40
  have gnb40 : n0 ≤ b40 := Nat.le_trans (Nat.le_trans Z0 K39.1) (Nat.le_of_eq g40.symm)
  have gzb40 : h0.size ≤ b40 := Nat.le_trans K39.1 (Nat.le_of_eq g40.symm)
  have K41 : Keep h0 h40 [a1] := K39.ext E40
  have f42 : Fld Z h40 b40 "com/example/concordia/concordia/expr/IntList" "values" "[I" .null := D40 (Or.inl (hw _ (List.mem_of_getElem? (i := 72) rfl))) (ty := (.array .int)) (by decide)
  have f43 : Fld Z h40 b40 "com/example/concordia/concordia/expr/IntList" "size" "I" (.int (0 : Int32)) := D40 (Or.inl (hw _ (List.mem_of_getElem? (i := 212) rfl))) (ty := .int) (by decide)
  obtain ⟨_, _, ⟨T44, L44, k44, n44⟩, -, X44, ⟨Lc44, hQ44, l44, y44, z44⟩, st44⟩ := X40.specialBack hx (y := (⟨"com/example/concordia/concordia/expr/IntList", "<init>", "()V"⟩ : MethodName)) rfl hown (mvT hZ (hw _ (List.mem_of_getElem? (i := 144) rfl))) (mvT hZ (hw _ (List.mem_of_getElem? (i := 67) rfl))) (mvT hZ (hw _ (List.mem_of_getElem? (i := 68) rfl))) (by decide) (backOf (W := 2) (rm_IL l Z a0 hw [] b40 .null h40 n0 (Nat.le_trans Z0 K41.1) A40 f42 f43 gnb40) hZ (hw _ (List.mem_of_getElem? (i := 68) rfl)) (hw _ (List.mem_of_getElem? (i := 65) rfl)) (by decide) (by decide)) (g := (mkF m 58 #[.val (.ref a1), .val (.ref a2)] [(.ref b40), (.ref b40), (.ref a1)])) rfl (by rw [hml]; rfl) (Steps.refl _) (a := b40) (argsL := []) (rest := [(.ref b40), (.ref a1)]) (lenOf pd__40_41V rfl) rfl (by show 2 * 0 + _ ≤ _; exact Nat.le_of_eq rfl) (hb hby d14_58) (fun _ _ => ⟨rfl, e40, (by decide : 6 + 1 ≤ _), (by decide : 201 + 16 ≤ _)⟩)
  dsimp only [Pt.U, Pt.locs, Pt.cells, Pt.slots] at X44 l44 y44 z44 st44 hQ44
  subst l44 y44 z44
  obtain ⟨rfl, Nq44, Kc44, p44_0⟩ := hQ44
  have K45 : Keep h0 T44.heap [a1] := K41.trans Kc44 (allS (Or.inr gzb40) all0)
  have N44 := Fr.app N38 Nq44
  have f46 : Fld Z T44.heap a1 "com/example/concordia/concordia/index/LinkedCode" "tailCells" "Lcom/example/concordia/concordia/expr/IntList;" v5 := ((((((((((((((pr5.ext E2).other W6 (Or.inr (slot_ne (Or.inr (hw _ (List.mem_of_getElem? (i := 146) rfl))) (Or.inl (hw _ (List.mem_of_getElem? (i := 117) rfl))) (by decide) (t := (.object "com/example/concordia/concordia/expr/IntList")) (t' := (.array .int)) (by decide) (by decide)))).ext E8).other W11 (Or.inl (Nat.ne_of_lt (Nat.lt_of_lt_of_le (f5.wr W6).lt (Nat.le_of_eq g8.symm))))).other W14 (Or.inl (Nat.ne_of_lt (Nat.lt_of_lt_of_le (f5.wr W6).lt (Nat.le_of_eq g8.symm))))).other W17 (Or.inl (Nat.ne_of_lt (Nat.lt_of_lt_of_le (f5.wr W6).lt (Nat.le_of_eq g8.symm))))).other W20 (Or.inl (Nat.ne_of_lt (Nat.lt_of_lt_of_le (f5.wr W6).lt (Nat.le_of_eq g8.symm))))).other W24 (Or.inr (slot_ne (Or.inr (hw _ (List.mem_of_getElem? (i := 146) rfl))) (Or.inr (hw _ (List.mem_of_getElem? (i := 119) rfl))) (by decide) (t := (.object "com/example/concordia/concordia/expr/IntList")) (t' := (.array .int)) (by decide) (by decide)))).other W28 (Or.inr (slot_ne (Or.inr (hw _ (List.mem_of_getElem? (i := 146) rfl))) (Or.inl (hw _ (List.mem_of_getElem? (i := 121) rfl))) (by decide) (t := (.object "com/example/concordia/concordia/expr/IntList")) (t' := .int) (by decide) (by decide)))).ext E30).keep Kc34 (ninS (Nat.ne_of_lt (Nat.lt_of_lt_of_le (f27.wr W28).lt (Nat.le_of_eq g30.symm))) nin0)).other W38 (Or.inr (slot_ne (Or.inr (hw _ (List.mem_of_getElem? (i := 146) rfl))) (Or.inr (hw _ (List.mem_of_getElem? (i := 142) rfl))) (by decide) (t := (.object "com/example/concordia/concordia/expr/IntList")) (t' := (.object "com/example/concordia/concordia/index/ChildrenByLabel")) (by decide) (by decide)))).ext E40).keep Kc44 (ninS (Nat.ne_of_lt (Nat.lt_of_lt_of_le (f37.wr W38).lt (Nat.le_of_eq g40.symm))) nin0))
  have f47 : Exa Z T44.heap a1 "com/example/concordia/concordia/index/LinkedCode" := (((f37.wr W38).ext E40).keep Kc44)
  obtain ⟨T48, h48, X48, e48, W48, st48⟩ := putF X44 hx hZ hown (host := "") (Or.inl (hw _ (List.mem_of_getElem? (i := 145) rfl))) Via.refl rfl f46 f47 (Or.inr ⟨(hw _ (List.mem_of_getElem? (i := 146) rfl)), rfl, hnm⟩) (hw _ (List.mem_of_getElem? (i := 1) rfl)) (ty := (.object "com/example/concordia/concordia/expr/IntList")) (by decide) rfl rfl (g := (mkF m 61 #[.val (.ref a1), .val (.ref a2)] [(.ref b40), (.ref a1)])) rfl rfl (hb hby d14_61)
  have N48 := Fr.snoc X48 N44 pr14
  have f48 : Fld Z h48 a1 "com/example/concordia/concordia/index/LinkedCode" "tailCells" "Lcom/example/concordia/concordia/expr/IntList;" (.ref b40) := f46.same W48
  have K49 : Keep h0 h48 [a1] := K45.wr W48 (Or.inl (List.mem_of_getElem? (i := 0) rfl))
  obtain ⟨T50, h50, k50, X50, e50, E50, A50, st50⟩ := newP X48 hx hZ (hw _ (List.mem_of_getElem? (i := 70) rfl)) e48 (g := (mkF m 67 #[.val (.ref a1), .val (.ref a2)] [(.int (16 : Int32)), (.ref a1)])) rfl (hb hby d14_67) rfl (by decide) (cap := 16) (by decide) (by decide) (by decide) (by decide)
  obtain ⟨b50, g50⟩ : ∃ z, z = h48.size := ⟨_, rfl⟩
  rw [← g50] at A50 st50
  have gnb50 : n0 ≤ b50 := Nat.le_trans (Nat.le_trans Z0 K49.1) (Nat.le_of_eq g50.symm)
  have gzb50 : h0.size ≤ b50 := Nat.le_trans K49.1 (Nat.le_of_eq g50.symm)
  have K51 : Keep h0 h50 [a1] := K49.ext E50
  have f50 : Arv Z h50 b50 k50 .int (16 : Int32) [(.int (0 : Int32)), (.int (0 : Int32)), (.int (0 : Int32)), (.int (0 : Int32)), (.int (0 : Int32)), (.int (0 : Int32)), (.int (0 : Int32)), (.int (0 : Int32)), (.int (0 : Int32)), (.int (0 : Int32)), (.int (0 : Int32)), (.int (0 : Int32)), (.int (0 : Int32)), (.int (0 : Int32)), (.int (0 : Int32)), (.int (0 : Int32))] (.int (0 : Int32)) := (Arv.new A50 (by decide)).pad (pad_rep [] (.int (0 : Int32)) 16)
  have f52 : Fld Z h50 a1 "com/example/concordia/concordia/index/LinkedCode" "path" "[I" v6 := ((((((((((((((((pr6.ext E2).other W6 (Or.inr (slot_ne (Or.inl (hw _ (List.mem_of_getElem? (i := 148) rfl))) (Or.inl (hw _ (List.mem_of_getElem? (i := 117) rfl))) (by decide) (t := (.array .int)) (t' := (.array .int)) (by decide) (by decide)))).ext E8).other W11 (Or.inl (Nat.ne_of_lt (Nat.lt_of_lt_of_le (f5.wr W6).lt (Nat.le_of_eq g8.symm))))).other W14 (Or.inl (Nat.ne_of_lt (Nat.lt_of_lt_of_le (f5.wr W6).lt (Nat.le_of_eq g8.symm))))).other W17 (Or.inl (Nat.ne_of_lt (Nat.lt_of_lt_of_le (f5.wr W6).lt (Nat.le_of_eq g8.symm))))).other W20 (Or.inl (Nat.ne_of_lt (Nat.lt_of_lt_of_le (f5.wr W6).lt (Nat.le_of_eq g8.symm))))).other W24 (Or.inr (slot_ne (Or.inl (hw _ (List.mem_of_getElem? (i := 148) rfl))) (Or.inr (hw _ (List.mem_of_getElem? (i := 119) rfl))) (by decide) (t := (.array .int)) (t' := (.array .int)) (by decide) (by decide)))).other W28 (Or.inr (slot_ne (Or.inl (hw _ (List.mem_of_getElem? (i := 148) rfl))) (Or.inl (hw _ (List.mem_of_getElem? (i := 121) rfl))) (by decide) (t := (.array .int)) (t' := .int) (by decide) (by decide)))).ext E30).keep Kc34 (ninS (Nat.ne_of_lt (Nat.lt_of_lt_of_le (f27.wr W28).lt (Nat.le_of_eq g30.symm))) nin0)).other W38 (Or.inr (slot_ne (Or.inl (hw _ (List.mem_of_getElem? (i := 148) rfl))) (Or.inr (hw _ (List.mem_of_getElem? (i := 142) rfl))) (by decide) (t := (.array .int)) (t' := (.object "com/example/concordia/concordia/index/ChildrenByLabel")) (by decide) (by decide)))).ext E40).keep Kc44 (ninS (Nat.ne_of_lt (Nat.lt_of_lt_of_le (f37.wr W38).lt (Nat.le_of_eq g40.symm))) nin0)).other W48 (Or.inr (slot_ne (Or.inl (hw _ (List.mem_of_getElem? (i := 148) rfl))) (Or.inr (hw _ (List.mem_of_getElem? (i := 146) rfl))) (by decide) (t := (.array .int)) (t' := (.object "com/example/concordia/concordia/expr/IntList")) (by decide) (by decide)))).ext E50)
  have f53 : Exa Z h50 a1 "com/example/concordia/concordia/index/LinkedCode" := ((f47.wr W48).ext E50)
  obtain ⟨T54, h54, X54, e54, W54, st54⟩ := putF X50 hx hZ hown (host := "") (Or.inl (hw _ (List.mem_of_getElem? (i := 147) rfl))) Via.refl e50 f52 f53 (Or.inl (hw _ (List.mem_of_getElem? (i := 148) rfl))) (hw _ (List.mem_of_getElem? (i := 1) rfl)) (ty := (.array .int)) (by decide) rfl rfl (g := (mkF m 69 #[.val (.ref a1), .val (.ref a2)] [(.ref b50), (.ref a1)])) rfl rfl (hb hby d14_69)
  have N54 := Fr.snoc X54 N48 pr14
  have f54 : Fld Z h54 a1 "com/example/concordia/concordia/index/LinkedCode" "path" "[I" (.ref b50) := f52.same W54
  have K55 : Keep h0 h54 [a1] := K51.wr W54 (Or.inl (List.mem_of_getElem? (i := 0) rfl))
  obtain ⟨T56, h56, k56, X56, e56, E56, A56, st56⟩ := newP X54 hx hZ (hw _ (List.mem_of_getElem? (i := 70) rfl)) e54 (g := (mkF m 75 #[.val (.ref a1), .val (.ref a2)] [(.int (16 : Int32)), (.ref a1)])) rfl (hb hby d14_75) rfl (by decide) (cap := 16) (by decide) (by decide) (by decide) (by decide)
  obtain ⟨b56, g56⟩ : ∃ z, z = h54.size := ⟨_, rfl⟩
  rw [← g56] at A56 st56
  have gnb56 : n0 ≤ b56 := Nat.le_trans (Nat.le_trans Z0 K55.1) (Nat.le_of_eq g56.symm)
  have gzb56 : h0.size ≤ b56 := Nat.le_trans K55.1 (Nat.le_of_eq g56.symm)
  have K57 : Keep h0 h56 [a1] := K55.ext E56
  have f56 : Arv Z h56 b56 k56 .int (16 : Int32) [(.int (0 : Int32)), (.int (0 : Int32)), (.int (0 : Int32)), (.int (0 : Int32)), (.int (0 : Int32)), (.int (0 : Int32)), (.int (0 : Int32)), (.int (0 : Int32)), (.int (0 : Int32)), (.int (0 : Int32)), (.int (0 : Int32)), (.int (0 : Int32)), (.int (0 : Int32)), (.int (0 : Int32)), (.int (0 : Int32)), (.int (0 : Int32))] (.int (0 : Int32)) := (Arv.new A56 (by decide)).pad (pad_rep [] (.int (0 : Int32)) 16)
  have f58 : Fld Z h56 a1 "com/example/concordia/concordia/index/LinkedCode" "pathChains" "[I" v7 := ((((((((((((((((((pr7.ext E2).other W6 (Or.inr (slot_ne (Or.inl (hw _ (List.mem_of_getElem? (i := 150) rfl))) (Or.inl (hw _ (List.mem_of_getElem? (i := 117) rfl))) (by decide) (t := (.array .int)) (t' := (.array .int)) (by decide) (by decide)))).ext E8).other W11 (Or.inl (Nat.ne_of_lt (Nat.lt_of_lt_of_le (f5.wr W6).lt (Nat.le_of_eq g8.symm))))).other W14 (Or.inl (Nat.ne_of_lt (Nat.lt_of_lt_of_le (f5.wr W6).lt (Nat.le_of_eq g8.symm))))).other W17 (Or.inl (Nat.ne_of_lt (Nat.lt_of_lt_of_le (f5.wr W6).lt (Nat.le_of_eq g8.symm))))).other W20 (Or.inl (Nat.ne_of_lt (Nat.lt_of_lt_of_le (f5.wr W6).lt (Nat.le_of_eq g8.symm))))).other W24 (Or.inr (slot_ne (Or.inl (hw _ (List.mem_of_getElem? (i := 150) rfl))) (Or.inr (hw _ (List.mem_of_getElem? (i := 119) rfl))) (by decide) (t := (.array .int)) (t' := (.array .int)) (by decide) (by decide)))).other W28 (Or.inr (slot_ne (Or.inl (hw _ (List.mem_of_getElem? (i := 150) rfl))) (Or.inl (hw _ (List.mem_of_getElem? (i := 121) rfl))) (by decide) (t := (.array .int)) (t' := .int) (by decide) (by decide)))).ext E30).keep Kc34 (ninS (Nat.ne_of_lt (Nat.lt_of_lt_of_le (f27.wr W28).lt (Nat.le_of_eq g30.symm))) nin0)).other W38 (Or.inr (slot_ne (Or.inl (hw _ (List.mem_of_getElem? (i := 150) rfl))) (Or.inr (hw _ (List.mem_of_getElem? (i := 142) rfl))) (by decide) (t := (.array .int)) (t' := (.object "com/example/concordia/concordia/index/ChildrenByLabel")) (by decide) (by decide)))).ext E40).keep Kc44 (ninS (Nat.ne_of_lt (Nat.lt_of_lt_of_le (f37.wr W38).lt (Nat.le_of_eq g40.symm))) nin0)).other W48 (Or.inr (slot_ne (Or.inl (hw _ (List.mem_of_getElem? (i := 150) rfl))) (Or.inr (hw _ (List.mem_of_getElem? (i := 146) rfl))) (by decide) (t := (.array .int)) (t' := (.object "com/example/concordia/concordia/expr/IntList")) (by decide) (by decide)))).ext E50).other W54 (Or.inr (slot_ne (Or.inl (hw _ (List.mem_of_getElem? (i := 150) rfl))) (Or.inl (hw _ (List.mem_of_getElem? (i := 148) rfl))) (by decide) (t := (.array .int)) (t' := (.array .int)) (by decide) (by decide)))).ext E56)
  have f59 : Exa Z h56 a1 "com/example/concordia/concordia/index/LinkedCode" := ((f53.wr W54).ext E56)
  obtain ⟨T60, h60, X60, e60, W60, st60⟩ := putF X56 hx hZ hown (host := "") (Or.inl (hw _ (List.mem_of_getElem? (i := 149) rfl))) Via.refl e56 f58 f59 (Or.inl (hw _ (List.mem_of_getElem? (i := 150) rfl))) (hw _ (List.mem_of_getElem? (i := 1) rfl)) (ty := (.array .int)) (by decide) rfl rfl (g := (mkF m 77 #[.val (.ref a1), .val (.ref a2)] [(.ref b56), (.ref a1)])) rfl rfl (hb hby d14_77)
  have N60 := Fr.snoc X60 N54 pr14
  have f60 : Fld Z h60 a1 "com/example/concordia/concordia/index/LinkedCode" "pathChains" "[I" (.ref b56) := f58.same W60
  have K61 : Keep h0 h60 [a1] := K57.wr W60 (Or.inl (List.mem_of_getElem? (i := 0) rfl))
  obtain ⟨T62, h62, X62, e62, E62, A62, D62, -, st62⟩ := newO X60 hx hZ hown (hw _ (List.mem_of_getElem? (i := 143) rfl)) (hw _ (List.mem_of_getElem? (i := 64) rfl)) (hw _ (List.mem_of_getElem? (i := 65) rfl)) e60 (g := (mkF m 81 #[.val (.ref a1), .val (.ref a2)] [(.ref a1)])) rfl (hb hby d14_81) (by decide) (by decide)
  obtain ⟨b62, g62⟩ : ∃ z, z = h60.size := ⟨_, rfl⟩
  rw [← g62] at A62 D62 st62
  have gnb62 : n0 ≤ b62 := Nat.le_trans (Nat.le_trans Z0 K61.1) (Nat.le_of_eq g62.symm)
  have gzb62 : h0.size ≤ b62 := Nat.le_trans K61.1 (Nat.le_of_eq g62.symm)
  have K63 : Keep h0 h62 [a1] := K61.ext E62
  have f64 : Fld Z h62 b62 "com/example/concordia/concordia/expr/IntList" "values" "[I" .null := D62 (Or.inl (hw _ (List.mem_of_getElem? (i := 72) rfl))) (ty := (.array .int)) (by decide)
  have f65 : Fld Z h62 b62 "com/example/concordia/concordia/expr/IntList" "size" "I" (.int (0 : Int32)) := D62 (Or.inl (hw _ (List.mem_of_getElem? (i := 212) rfl))) (ty := .int) (by decide)
  obtain ⟨_, _, ⟨T66, L66, k66, n66⟩, -, X66, ⟨Lc66, hQ66, l66, y66, z66⟩, st66⟩ := X62.specialBack hx (y := (⟨"com/example/concordia/concordia/expr/IntList", "<init>", "()V"⟩ : MethodName)) rfl hown (mvT hZ (hw _ (List.mem_of_getElem? (i := 144) rfl))) (mvT hZ (hw _ (List.mem_of_getElem? (i := 67) rfl))) (mvT hZ (hw _ (List.mem_of_getElem? (i := 68) rfl))) (by decide) (backOf (W := 2) (rm_IL l Z a0 hw [] b62 .null h62 n0 (Nat.le_trans Z0 K63.1) A62 f64 f65 gnb62) hZ (hw _ (List.mem_of_getElem? (i := 68) rfl)) (hw _ (List.mem_of_getElem? (i := 65) rfl)) (by decide) (by decide)) (g := (mkF m 85 #[.val (.ref a1), .val (.ref a2)] [(.ref b62), (.ref b62), (.ref a1)])) rfl (by rw [hml]; rfl) (Steps.refl _) (a := b62) (argsL := []) (rest := [(.ref b62), (.ref a1)]) (lenOf pd__40_41V rfl) rfl (by show 2 * 0 + _ ≤ _; exact Nat.le_of_eq rfl) (hb hby d14_85) (fun _ _ => ⟨rfl, e62, (by decide : 10 + 1 ≤ _), (by decide : 251 + 16 ≤ _)⟩)
  dsimp only [Pt.U, Pt.locs, Pt.cells, Pt.slots] at X66 l66 y66 z66 st66 hQ66
  subst l66 y66 z66
  obtain ⟨rfl, Nq66, Kc66, p66_0⟩ := hQ66
  have K67 : Keep h0 T66.heap [a1] := K63.trans Kc66 (allS (Or.inr gzb62) all0)
  have N66 := Fr.app N60 Nq66
  have f68 : Fld Z T66.heap a1 "com/example/concordia/concordia/index/LinkedCode" "layoutWork" "Lcom/example/concordia/concordia/expr/IntList;" v8 := (((((((((((((((((((((pr8.ext E2).other W6 (Or.inr (slot_ne (Or.inr (hw _ (List.mem_of_getElem? (i := 152) rfl))) (Or.inl (hw _ (List.mem_of_getElem? (i := 117) rfl))) (by decide) (t := (.object "com/example/concordia/concordia/expr/IntList")) (t' := (.array .int)) (by decide) (by decide)))).ext E8).other W11 (Or.inl (Nat.ne_of_lt (Nat.lt_of_lt_of_le (f5.wr W6).lt (Nat.le_of_eq g8.symm))))).other W14 (Or.inl (Nat.ne_of_lt (Nat.lt_of_lt_of_le (f5.wr W6).lt (Nat.le_of_eq g8.symm))))).other W17 (Or.inl (Nat.ne_of_lt (Nat.lt_of_lt_of_le (f5.wr W6).lt (Nat.le_of_eq g8.symm))))).other W20 (Or.inl (Nat.ne_of_lt (Nat.lt_of_lt_of_le (f5.wr W6).lt (Nat.le_of_eq g8.symm))))).other W24 (Or.inr (slot_ne (Or.inr (hw _ (List.mem_of_getElem? (i := 152) rfl))) (Or.inr (hw _ (List.mem_of_getElem? (i := 119) rfl))) (by decide) (t := (.object "com/example/concordia/concordia/expr/IntList")) (t' := (.array .int)) (by decide) (by decide)))).other W28 (Or.inr (slot_ne (Or.inr (hw _ (List.mem_of_getElem? (i := 152) rfl))) (Or.inl (hw _ (List.mem_of_getElem? (i := 121) rfl))) (by decide) (t := (.object "com/example/concordia/concordia/expr/IntList")) (t' := .int) (by decide) (by decide)))).ext E30).keep Kc34 (ninS (Nat.ne_of_lt (Nat.lt_of_lt_of_le (f27.wr W28).lt (Nat.le_of_eq g30.symm))) nin0)).other W38 (Or.inr (slot_ne (Or.inr (hw _ (List.mem_of_getElem? (i := 152) rfl))) (Or.inr (hw _ (List.mem_of_getElem? (i := 142) rfl))) (by decide) (t := (.object "com/example/concordia/concordia/expr/IntList")) (t' := (.object "com/example/concordia/concordia/index/ChildrenByLabel")) (by decide) (by decide)))).ext E40).keep Kc44 (ninS (Nat.ne_of_lt (Nat.lt_of_lt_of_le (f37.wr W38).lt (Nat.le_of_eq g40.symm))) nin0)).other W48 (Or.inr (slot_ne (Or.inr (hw _ (List.mem_of_getElem? (i := 152) rfl))) (Or.inr (hw _ (List.mem_of_getElem? (i := 146) rfl))) (by decide) (t := (.object "com/example/concordia/concordia/expr/IntList")) (t' := (.object "com/example/concordia/concordia/expr/IntList")) (by decide) (by decide)))).ext E50).other W54 (Or.inr (slot_ne (Or.inr (hw _ (List.mem_of_getElem? (i := 152) rfl))) (Or.inl (hw _ (List.mem_of_getElem? (i := 148) rfl))) (by decide) (t := (.object "com/example/concordia/concordia/expr/IntList")) (t' := (.array .int)) (by decide) (by decide)))).ext E56).other W60 (Or.inr (slot_ne (Or.inr (hw _ (List.mem_of_getElem? (i := 152) rfl))) (Or.inl (hw _ (List.mem_of_getElem? (i := 150) rfl))) (by decide) (t := (.object "com/example/concordia/concordia/expr/IntList")) (t' := (.array .int)) (by decide) (by decide)))).ext E62).keep Kc66 (ninS (Nat.ne_of_lt (Nat.lt_of_lt_of_le (f59.wr W60).lt (Nat.le_of_eq g62.symm))) nin0))
  have f69 : Exa Z T66.heap a1 "com/example/concordia/concordia/index/LinkedCode" := (((f59.wr W60).ext E62).keep Kc66)
  obtain ⟨T70, h70, X70, e70, W70, st70⟩ := putF X66 hx hZ hown (host := "") (Or.inl (hw _ (List.mem_of_getElem? (i := 151) rfl))) Via.refl rfl f68 f69 (Or.inr ⟨(hw _ (List.mem_of_getElem? (i := 152) rfl)), rfl, hnm⟩) (hw _ (List.mem_of_getElem? (i := 1) rfl)) (ty := (.object "com/example/concordia/concordia/expr/IntList")) (by decide) rfl rfl (g := (mkF m 88 #[.val (.ref a1), .val (.ref a2)] [(.ref b62), (.ref a1)])) rfl rfl (hb hby d14_88)
  have N70 := Fr.snoc X70 N66 pr14
  have f70 : Fld Z h70 a1 "com/example/concordia/concordia/index/LinkedCode" "layoutWork" "Lcom/example/concordia/concordia/expr/IntList;" (.ref b62) := f68.same W70
  have K71 : Keep h0 h70 [a1] := K67.wr W70 (Or.inl (List.mem_of_getElem? (i := 0) rfl))
  obtain ⟨T72, h72, X72, e72, E72, A72, D72, -, st72⟩ := newO X70 hx hZ hown (hw _ (List.mem_of_getElem? (i := 143) rfl)) (hw _ (List.mem_of_getElem? (i := 64) rfl)) (hw _ (List.mem_of_getElem? (i := 65) rfl)) e70 (g := (mkF m 92 #[.val (.ref a1), .val (.ref a2)] [(.ref a1)])) rfl (hb hby d14_92) (by decide) (by decide)
  obtain ⟨b72, g72⟩ : ∃ z, z = h70.size := ⟨_, rfl⟩
  rw [← g72] at A72 D72 st72
  have gnb72 : n0 ≤ b72 := Nat.le_trans (Nat.le_trans Z0 K71.1) (Nat.le_of_eq g72.symm)
  have gzb72 : h0.size ≤ b72 := Nat.le_trans K71.1 (Nat.le_of_eq g72.symm)
  have K73 : Keep h0 h72 [a1] := K71.ext E72
  have f74 : Fld Z h72 b72 "com/example/concordia/concordia/expr/IntList" "values" "[I" .null := D72 (Or.inl (hw _ (List.mem_of_getElem? (i := 72) rfl))) (ty := (.array .int)) (by decide)
  have f75 : Fld Z h72 b72 "com/example/concordia/concordia/expr/IntList" "size" "I" (.int (0 : Int32)) := D72 (Or.inl (hw _ (List.mem_of_getElem? (i := 212) rfl))) (ty := .int) (by decide)
  obtain ⟨_, _, ⟨T76, L76, k76, n76⟩, -, X76, ⟨Lc76, hQ76, l76, y76, z76⟩, st76⟩ := X72.specialBack hx (y := (⟨"com/example/concordia/concordia/expr/IntList", "<init>", "()V"⟩ : MethodName)) rfl hown (mvT hZ (hw _ (List.mem_of_getElem? (i := 144) rfl))) (mvT hZ (hw _ (List.mem_of_getElem? (i := 67) rfl))) (mvT hZ (hw _ (List.mem_of_getElem? (i := 68) rfl))) (by decide) (backOf (W := 2) (rm_IL l Z a0 hw [] b72 .null h72 n0 (Nat.le_trans Z0 K73.1) A72 f74 f75 gnb72) hZ (hw _ (List.mem_of_getElem? (i := 68) rfl)) (hw _ (List.mem_of_getElem? (i := 65) rfl)) (by decide) (by decide)) (g := (mkF m 96 #[.val (.ref a1), .val (.ref a2)] [(.ref b72), (.ref b72), (.ref a1)])) rfl (by rw [hml]; rfl) (Steps.refl _) (a := b72) (argsL := []) (rest := [(.ref b72), (.ref a1)]) (lenOf pd__40_41V rfl) rfl (by show 2 * 0 + _ ≤ _; exact Nat.le_of_eq rfl) (hb hby d14_96) (fun _ _ => ⟨rfl, e72, (by decide : 12 + 1 ≤ _), (by decide : 269 + 16 ≤ _)⟩)
  dsimp only [Pt.U, Pt.locs, Pt.cells, Pt.slots] at X76 l76 y76 z76 st76 hQ76
  subst l76 y76 z76
  obtain ⟨rfl, Nq76, Kc76, p76_0⟩ := hQ76
  have K77 : Keep h0 T76.heap [a1] := K73.trans Kc76 (allS (Or.inr gzb72) all0)
  have N76 := Fr.app N70 Nq76
  have f78 : Fld Z T76.heap a1 "com/example/concordia/concordia/index/LinkedCode" "chainMembers" "Lcom/example/concordia/concordia/expr/IntList;" v9 := ((((((((((((((((((((((((pr9.ext E2).other W6 (Or.inr (slot_ne (Or.inr (hw _ (List.mem_of_getElem? (i := 154) rfl))) (Or.inl (hw _ (List.mem_of_getElem? (i := 117) rfl))) (by decide) (t := (.object "com/example/concordia/concordia/expr/IntList")) (t' := (.array .int)) (by decide) (by decide)))).ext E8).other W11 (Or.inl (Nat.ne_of_lt (Nat.lt_of_lt_of_le (f5.wr W6).lt (Nat.le_of_eq g8.symm))))).other W14 (Or.inl (Nat.ne_of_lt (Nat.lt_of_lt_of_le (f5.wr W6).lt (Nat.le_of_eq g8.symm))))).other W17 (Or.inl (Nat.ne_of_lt (Nat.lt_of_lt_of_le (f5.wr W6).lt (Nat.le_of_eq g8.symm))))).other W20 (Or.inl (Nat.ne_of_lt (Nat.lt_of_lt_of_le (f5.wr W6).lt (Nat.le_of_eq g8.symm))))).other W24 (Or.inr (slot_ne (Or.inr (hw _ (List.mem_of_getElem? (i := 154) rfl))) (Or.inr (hw _ (List.mem_of_getElem? (i := 119) rfl))) (by decide) (t := (.object "com/example/concordia/concordia/expr/IntList")) (t' := (.array .int)) (by decide) (by decide)))).other W28 (Or.inr (slot_ne (Or.inr (hw _ (List.mem_of_getElem? (i := 154) rfl))) (Or.inl (hw _ (List.mem_of_getElem? (i := 121) rfl))) (by decide) (t := (.object "com/example/concordia/concordia/expr/IntList")) (t' := .int) (by decide) (by decide)))).ext E30).keep Kc34 (ninS (Nat.ne_of_lt (Nat.lt_of_lt_of_le (f27.wr W28).lt (Nat.le_of_eq g30.symm))) nin0)).other W38 (Or.inr (slot_ne (Or.inr (hw _ (List.mem_of_getElem? (i := 154) rfl))) (Or.inr (hw _ (List.mem_of_getElem? (i := 142) rfl))) (by decide) (t := (.object "com/example/concordia/concordia/expr/IntList")) (t' := (.object "com/example/concordia/concordia/index/ChildrenByLabel")) (by decide) (by decide)))).ext E40).keep Kc44 (ninS (Nat.ne_of_lt (Nat.lt_of_lt_of_le (f37.wr W38).lt (Nat.le_of_eq g40.symm))) nin0)).other W48 (Or.inr (slot_ne (Or.inr (hw _ (List.mem_of_getElem? (i := 154) rfl))) (Or.inr (hw _ (List.mem_of_getElem? (i := 146) rfl))) (by decide) (t := (.object "com/example/concordia/concordia/expr/IntList")) (t' := (.object "com/example/concordia/concordia/expr/IntList")) (by decide) (by decide)))).ext E50).other W54 (Or.inr (slot_ne (Or.inr (hw _ (List.mem_of_getElem? (i := 154) rfl))) (Or.inl (hw _ (List.mem_of_getElem? (i := 148) rfl))) (by decide) (t := (.object "com/example/concordia/concordia/expr/IntList")) (t' := (.array .int)) (by decide) (by decide)))).ext E56).other W60 (Or.inr (slot_ne (Or.inr (hw _ (List.mem_of_getElem? (i := 154) rfl))) (Or.inl (hw _ (List.mem_of_getElem? (i := 150) rfl))) (by decide) (t := (.object "com/example/concordia/concordia/expr/IntList")) (t' := (.array .int)) (by decide) (by decide)))).ext E62).keep Kc66 (ninS (Nat.ne_of_lt (Nat.lt_of_lt_of_le (f59.wr W60).lt (Nat.le_of_eq g62.symm))) nin0)).other W70 (Or.inr (slot_ne (Or.inr (hw _ (List.mem_of_getElem? (i := 154) rfl))) (Or.inr (hw _ (List.mem_of_getElem? (i := 152) rfl))) (by decide) (t := (.object "com/example/concordia/concordia/expr/IntList")) (t' := (.object "com/example/concordia/concordia/expr/IntList")) (by decide) (by decide)))).ext E72).keep Kc76 (ninS (Nat.ne_of_lt (Nat.lt_of_lt_of_le (f69.wr W70).lt (Nat.le_of_eq g72.symm))) nin0))
  have f79 : Exa Z T76.heap a1 "com/example/concordia/concordia/index/LinkedCode" := (((f69.wr W70).ext E72).keep Kc76)
  obtain ⟨T80, h80, X80, e80, W80, st80⟩ := putF X76 hx hZ hown (host := "") (Or.inl (hw _ (List.mem_of_getElem? (i := 153) rfl))) Via.refl rfl f78 f79 (Or.inr ⟨(hw _ (List.mem_of_getElem? (i := 154) rfl)), rfl, hnm⟩) (hw _ (List.mem_of_getElem? (i := 1) rfl)) (ty := (.object "com/example/concordia/concordia/expr/IntList")) (by decide) rfl rfl (g := (mkF m 99 #[.val (.ref a1), .val (.ref a2)] [(.ref b72), (.ref a1)])) rfl rfl (hb hby d14_99)
  have N80 := Fr.snoc X80 N76 pr14
  have f80 : Fld Z h80 a1 "com/example/concordia/concordia/index/LinkedCode" "chainMembers" "Lcom/example/concordia/concordia/expr/IntList;" (.ref b72) := f78.same W80
  have K81 : Keep h0 h80 [a1] := K77.wr W80 (Or.inl (List.mem_of_getElem? (i := 0) rfl))
  have f82 : Fld Z h80 a1 "com/example/concordia/concordia/index/LinkedCode" "store" "Lcom/example/concordia/concordia/expr/ExpressionStore;" v10 := (((((((((((((((((((((((((pr10.ext E2).other W6 (Or.inr (slot_ne (Or.inr (hw _ (List.mem_of_getElem? (i := 156) rfl))) (Or.inl (hw _ (List.mem_of_getElem? (i := 117) rfl))) (by decide) (t := (.object "com/example/concordia/concordia/expr/ExpressionStore")) (t' := (.array .int)) (by decide) (by decide)))).ext E8).other W11 (Or.inl (Nat.ne_of_lt (Nat.lt_of_lt_of_le (f5.wr W6).lt (Nat.le_of_eq g8.symm))))).other W14 (Or.inl (Nat.ne_of_lt (Nat.lt_of_lt_of_le (f5.wr W6).lt (Nat.le_of_eq g8.symm))))).other W17 (Or.inl (Nat.ne_of_lt (Nat.lt_of_lt_of_le (f5.wr W6).lt (Nat.le_of_eq g8.symm))))).other W20 (Or.inl (Nat.ne_of_lt (Nat.lt_of_lt_of_le (f5.wr W6).lt (Nat.le_of_eq g8.symm))))).other W24 (Or.inr (slot_ne (Or.inr (hw _ (List.mem_of_getElem? (i := 156) rfl))) (Or.inr (hw _ (List.mem_of_getElem? (i := 119) rfl))) (by decide) (t := (.object "com/example/concordia/concordia/expr/ExpressionStore")) (t' := (.array .int)) (by decide) (by decide)))).other W28 (Or.inr (slot_ne (Or.inr (hw _ (List.mem_of_getElem? (i := 156) rfl))) (Or.inl (hw _ (List.mem_of_getElem? (i := 121) rfl))) (by decide) (t := (.object "com/example/concordia/concordia/expr/ExpressionStore")) (t' := .int) (by decide) (by decide)))).ext E30).keep Kc34 (ninS (Nat.ne_of_lt (Nat.lt_of_lt_of_le (f27.wr W28).lt (Nat.le_of_eq g30.symm))) nin0)).other W38 (Or.inr (slot_ne (Or.inr (hw _ (List.mem_of_getElem? (i := 156) rfl))) (Or.inr (hw _ (List.mem_of_getElem? (i := 142) rfl))) (by decide) (t := (.object "com/example/concordia/concordia/expr/ExpressionStore")) (t' := (.object "com/example/concordia/concordia/index/ChildrenByLabel")) (by decide) (by decide)))).ext E40).keep Kc44 (ninS (Nat.ne_of_lt (Nat.lt_of_lt_of_le (f37.wr W38).lt (Nat.le_of_eq g40.symm))) nin0)).other W48 (Or.inr (slot_ne (Or.inr (hw _ (List.mem_of_getElem? (i := 156) rfl))) (Or.inr (hw _ (List.mem_of_getElem? (i := 146) rfl))) (by decide) (t := (.object "com/example/concordia/concordia/expr/ExpressionStore")) (t' := (.object "com/example/concordia/concordia/expr/IntList")) (by decide) (by decide)))).ext E50).other W54 (Or.inr (slot_ne (Or.inr (hw _ (List.mem_of_getElem? (i := 156) rfl))) (Or.inl (hw _ (List.mem_of_getElem? (i := 148) rfl))) (by decide) (t := (.object "com/example/concordia/concordia/expr/ExpressionStore")) (t' := (.array .int)) (by decide) (by decide)))).ext E56).other W60 (Or.inr (slot_ne (Or.inr (hw _ (List.mem_of_getElem? (i := 156) rfl))) (Or.inl (hw _ (List.mem_of_getElem? (i := 150) rfl))) (by decide) (t := (.object "com/example/concordia/concordia/expr/ExpressionStore")) (t' := (.array .int)) (by decide) (by decide)))).ext E62).keep Kc66 (ninS (Nat.ne_of_lt (Nat.lt_of_lt_of_le (f59.wr W60).lt (Nat.le_of_eq g62.symm))) nin0)).other W70 (Or.inr (slot_ne (Or.inr (hw _ (List.mem_of_getElem? (i := 156) rfl))) (Or.inr (hw _ (List.mem_of_getElem? (i := 152) rfl))) (by decide) (t := (.object "com/example/concordia/concordia/expr/ExpressionStore")) (t' := (.object "com/example/concordia/concordia/expr/IntList")) (by decide) (by decide)))).ext E72).keep Kc76 (ninS (Nat.ne_of_lt (Nat.lt_of_lt_of_le (f69.wr W70).lt (Nat.le_of_eq g72.symm))) nin0)).other W80 (Or.inr (slot_ne (Or.inr (hw _ (List.mem_of_getElem? (i := 156) rfl))) (Or.inr (hw _ (List.mem_of_getElem? (i := 154) rfl))) (by decide) (t := (.object "com/example/concordia/concordia/expr/ExpressionStore")) (t' := (.object "com/example/concordia/concordia/expr/IntList")) (by decide) (by decide))))
  have f83 : Exa Z h80 a1 "com/example/concordia/concordia/index/LinkedCode" := (f79.wr W80)
  obtain ⟨T84, h84, X84, e84, W84, st84⟩ := putF X80 hx hZ hown (host := "") (Or.inl (hw _ (List.mem_of_getElem? (i := 155) rfl))) Via.refl e80 f82 f83 (Or.inr ⟨(hw _ (List.mem_of_getElem? (i := 156) rfl)), rfl, hnm⟩) (hw _ (List.mem_of_getElem? (i := 1) rfl)) (ty := (.object "com/example/concordia/concordia/expr/ExpressionStore")) (by decide) rfl rfl (g := (mkF m 104 #[.val (.ref a1), .val (.ref a2)] [(.ref a2), (.ref a1)])) rfl rfl (hb hby d14_104)
  have N84 := Fr.snoc X84 N80 pr14
  have f84 : Fld Z h84 a1 "com/example/concordia/concordia/index/LinkedCode" "store" "Lcom/example/concordia/concordia/expr/ExpressionStore;" (.ref a2) := f82.same W84
  have K85 : Keep h0 h84 [a1] := K81.wr W84 (Or.inl (List.mem_of_getElem? (i := 0) rfl))
  have f86 : Fld Z h84 a1 "com/example/concordia/concordia/index/LinkedCode" "code" "[I" (.ref b2) := ((((((((((((((((((((((((f6.ext E8).other W11 (Or.inl (Nat.ne_of_lt (Nat.lt_of_lt_of_le (f5.wr W6).lt (Nat.le_of_eq g8.symm))))).other W14 (Or.inl (Nat.ne_of_lt (Nat.lt_of_lt_of_le (f5.wr W6).lt (Nat.le_of_eq g8.symm))))).other W17 (Or.inl (Nat.ne_of_lt (Nat.lt_of_lt_of_le (f5.wr W6).lt (Nat.le_of_eq g8.symm))))).other W20 (Or.inl (Nat.ne_of_lt (Nat.lt_of_lt_of_le (f5.wr W6).lt (Nat.le_of_eq g8.symm))))).other W24 (Or.inr (slot_ne (Or.inl (hw _ (List.mem_of_getElem? (i := 117) rfl))) (Or.inr (hw _ (List.mem_of_getElem? (i := 119) rfl))) (by decide) (t := (.array .int)) (t' := (.array .int)) (by decide) (by decide)))).other W28 (Or.inr (slot_ne (Or.inl (hw _ (List.mem_of_getElem? (i := 117) rfl))) (Or.inl (hw _ (List.mem_of_getElem? (i := 121) rfl))) (by decide) (t := (.array .int)) (t' := .int) (by decide) (by decide)))).ext E30).keep Kc34 (ninS (Nat.ne_of_lt (Nat.lt_of_lt_of_le (f27.wr W28).lt (Nat.le_of_eq g30.symm))) nin0)).other W38 (Or.inr (slot_ne (Or.inl (hw _ (List.mem_of_getElem? (i := 117) rfl))) (Or.inr (hw _ (List.mem_of_getElem? (i := 142) rfl))) (by decide) (t := (.array .int)) (t' := (.object "com/example/concordia/concordia/index/ChildrenByLabel")) (by decide) (by decide)))).ext E40).keep Kc44 (ninS (Nat.ne_of_lt (Nat.lt_of_lt_of_le (f37.wr W38).lt (Nat.le_of_eq g40.symm))) nin0)).other W48 (Or.inr (slot_ne (Or.inl (hw _ (List.mem_of_getElem? (i := 117) rfl))) (Or.inr (hw _ (List.mem_of_getElem? (i := 146) rfl))) (by decide) (t := (.array .int)) (t' := (.object "com/example/concordia/concordia/expr/IntList")) (by decide) (by decide)))).ext E50).other W54 (Or.inr (slot_ne (Or.inl (hw _ (List.mem_of_getElem? (i := 117) rfl))) (Or.inl (hw _ (List.mem_of_getElem? (i := 148) rfl))) (by decide) (t := (.array .int)) (t' := (.array .int)) (by decide) (by decide)))).ext E56).other W60 (Or.inr (slot_ne (Or.inl (hw _ (List.mem_of_getElem? (i := 117) rfl))) (Or.inl (hw _ (List.mem_of_getElem? (i := 150) rfl))) (by decide) (t := (.array .int)) (t' := (.array .int)) (by decide) (by decide)))).ext E62).keep Kc66 (ninS (Nat.ne_of_lt (Nat.lt_of_lt_of_le (f59.wr W60).lt (Nat.le_of_eq g62.symm))) nin0)).other W70 (Or.inr (slot_ne (Or.inl (hw _ (List.mem_of_getElem? (i := 117) rfl))) (Or.inr (hw _ (List.mem_of_getElem? (i := 152) rfl))) (by decide) (t := (.array .int)) (t' := (.object "com/example/concordia/concordia/expr/IntList")) (by decide) (by decide)))).ext E72).keep Kc76 (ninS (Nat.ne_of_lt (Nat.lt_of_lt_of_le (f69.wr W70).lt (Nat.le_of_eq g72.symm))) nin0)).other W80 (Or.inr (slot_ne (Or.inl (hw _ (List.mem_of_getElem? (i := 117) rfl))) (Or.inr (hw _ (List.mem_of_getElem? (i := 154) rfl))) (by decide) (t := (.array .int)) (t' := (.object "com/example/concordia/concordia/expr/IntList")) (by decide) (by decide)))).other W84 (Or.inr (slot_ne (Or.inl (hw _ (List.mem_of_getElem? (i := 117) rfl))) (Or.inr (hw _ (List.mem_of_getElem? (i := 156) rfl))) (by decide) (t := (.array .int)) (t' := (.object "com/example/concordia/concordia/expr/ExpressionStore")) (by decide) (by decide))))
  have f87 : own_Ars Z h84 b2 .int (64 : Int32) := (((((((((((((((((((((((((f2.wr W6).ext E8).wr W11).wr W14).wr W17).wr W20).wr W24).wr W28).ext E30).keep Kc34).wr W38).ext E40).keep Kc44).wr W48).ext E50).wr W54).ext E56).wr W60).ext E62).keep Kc66).wr W70).ext E72).keep Kc76).wr W80).wr W84)
  have f88 : Fld Z h84 a1 "com/example/concordia/concordia/index/LinkedCode" "roots" "[I" (.ref b8) := ((((((((((((((((((f24.other W28 (Or.inr (slot_ne (Or.inr (hw _ (List.mem_of_getElem? (i := 119) rfl))) (Or.inl (hw _ (List.mem_of_getElem? (i := 121) rfl))) (by decide) (t := (.array .int)) (t' := .int) (by decide) (by decide)))).ext E30).keep Kc34 (ninS (Nat.ne_of_lt (Nat.lt_of_lt_of_le (f27.wr W28).lt (Nat.le_of_eq g30.symm))) nin0)).other W38 (Or.inr (slot_ne (Or.inr (hw _ (List.mem_of_getElem? (i := 119) rfl))) (Or.inr (hw _ (List.mem_of_getElem? (i := 142) rfl))) (by decide) (t := (.array .int)) (t' := (.object "com/example/concordia/concordia/index/ChildrenByLabel")) (by decide) (by decide)))).ext E40).keep Kc44 (ninS (Nat.ne_of_lt (Nat.lt_of_lt_of_le (f37.wr W38).lt (Nat.le_of_eq g40.symm))) nin0)).other W48 (Or.inr (slot_ne (Or.inr (hw _ (List.mem_of_getElem? (i := 119) rfl))) (Or.inr (hw _ (List.mem_of_getElem? (i := 146) rfl))) (by decide) (t := (.array .int)) (t' := (.object "com/example/concordia/concordia/expr/IntList")) (by decide) (by decide)))).ext E50).other W54 (Or.inr (slot_ne (Or.inr (hw _ (List.mem_of_getElem? (i := 119) rfl))) (Or.inl (hw _ (List.mem_of_getElem? (i := 148) rfl))) (by decide) (t := (.array .int)) (t' := (.array .int)) (by decide) (by decide)))).ext E56).other W60 (Or.inr (slot_ne (Or.inr (hw _ (List.mem_of_getElem? (i := 119) rfl))) (Or.inl (hw _ (List.mem_of_getElem? (i := 150) rfl))) (by decide) (t := (.array .int)) (t' := (.array .int)) (by decide) (by decide)))).ext E62).keep Kc66 (ninS (Nat.ne_of_lt (Nat.lt_of_lt_of_le (f59.wr W60).lt (Nat.le_of_eq g62.symm))) nin0)).other W70 (Or.inr (slot_ne (Or.inr (hw _ (List.mem_of_getElem? (i := 119) rfl))) (Or.inr (hw _ (List.mem_of_getElem? (i := 152) rfl))) (by decide) (t := (.array .int)) (t' := (.object "com/example/concordia/concordia/expr/IntList")) (by decide) (by decide)))).ext E72).keep Kc76 (ninS (Nat.ne_of_lt (Nat.lt_of_lt_of_le (f69.wr W70).lt (Nat.le_of_eq g72.symm))) nin0)).other W80 (Or.inr (slot_ne (Or.inr (hw _ (List.mem_of_getElem? (i := 119) rfl))) (Or.inr (hw _ (List.mem_of_getElem? (i := 154) rfl))) (by decide) (t := (.array .int)) (t' := (.object "com/example/concordia/concordia/expr/IntList")) (by decide) (by decide)))).other W84 (Or.inr (slot_ne (Or.inr (hw _ (List.mem_of_getElem? (i := 119) rfl))) (Or.inr (hw _ (List.mem_of_getElem? (i := 156) rfl))) (by decide) (t := (.array .int)) (t' := (.object "com/example/concordia/concordia/expr/ExpressionStore")) (by decide) (by decide))))
  have f89 : Arv Z h84 b8 k8 .int (4 : Int32) [(.int (-1 : Int32)), (.int (-1 : Int32)), (.int (-1 : Int32)), (.int (-1 : Int32))] (.int (0 : Int32)) := (((((((((((((((((((f20.other W24 (Ne.symm (Nat.ne_of_lt (Nat.lt_of_lt_of_le (f5.wr W6).lt (Nat.le_of_eq g8.symm))))).other W28 (Ne.symm (Nat.ne_of_lt (Nat.lt_of_lt_of_le (f5.wr W6).lt (Nat.le_of_eq g8.symm))))).ext E30).keep Kc34 (ninS (Nat.ne_of_lt (Nat.lt_of_lt_of_le ((f20.other W24 (Ne.symm (Nat.ne_of_lt (Nat.lt_of_lt_of_le (f5.wr W6).lt (Nat.le_of_eq g8.symm))))).other W28 (Ne.symm (Nat.ne_of_lt (Nat.lt_of_lt_of_le (f5.wr W6).lt (Nat.le_of_eq g8.symm))))).lt (Nat.le_of_eq g30.symm))) nin0)).other W38 (Ne.symm (Nat.ne_of_lt (Nat.lt_of_lt_of_le (f5.wr W6).lt (Nat.le_of_eq g8.symm))))).ext E40).keep Kc44 (ninS (Nat.ne_of_lt (Nat.lt_of_lt_of_le (((((f20.other W24 (Ne.symm (Nat.ne_of_lt (Nat.lt_of_lt_of_le (f5.wr W6).lt (Nat.le_of_eq g8.symm))))).other W28 (Ne.symm (Nat.ne_of_lt (Nat.lt_of_lt_of_le (f5.wr W6).lt (Nat.le_of_eq g8.symm))))).ext E30).keep Kc34 (ninS (Nat.ne_of_lt (Nat.lt_of_lt_of_le ((f20.other W24 (Ne.symm (Nat.ne_of_lt (Nat.lt_of_lt_of_le (f5.wr W6).lt (Nat.le_of_eq g8.symm))))).other W28 (Ne.symm (Nat.ne_of_lt (Nat.lt_of_lt_of_le (f5.wr W6).lt (Nat.le_of_eq g8.symm))))).lt (Nat.le_of_eq g30.symm))) nin0)).other W38 (Ne.symm (Nat.ne_of_lt (Nat.lt_of_lt_of_le (f5.wr W6).lt (Nat.le_of_eq g8.symm))))).lt (Nat.le_of_eq g40.symm))) nin0)).other W48 (Ne.symm (Nat.ne_of_lt (Nat.lt_of_lt_of_le (f5.wr W6).lt (Nat.le_of_eq g8.symm))))).ext E50).other W54 (Ne.symm (Nat.ne_of_lt (Nat.lt_of_lt_of_le (f5.wr W6).lt (Nat.le_of_eq g8.symm))))).ext E56).other W60 (Ne.symm (Nat.ne_of_lt (Nat.lt_of_lt_of_le (f5.wr W6).lt (Nat.le_of_eq g8.symm))))).ext E62).keep Kc66 (ninS (Nat.ne_of_lt (Nat.lt_of_lt_of_le ((((((((((((f20.other W24 (Ne.symm (Nat.ne_of_lt (Nat.lt_of_lt_of_le (f5.wr W6).lt (Nat.le_of_eq g8.symm))))).other W28 (Ne.symm (Nat.ne_of_lt (Nat.lt_of_lt_of_le (f5.wr W6).lt (Nat.le_of_eq g8.symm))))).ext E30).keep Kc34 (ninS (Nat.ne_of_lt (Nat.lt_of_lt_of_le ((f20.other W24 (Ne.symm (Nat.ne_of_lt (Nat.lt_of_lt_of_le (f5.wr W6).lt (Nat.le_of_eq g8.symm))))).other W28 (Ne.symm (Nat.ne_of_lt (Nat.lt_of_lt_of_le (f5.wr W6).lt (Nat.le_of_eq g8.symm))))).lt (Nat.le_of_eq g30.symm))) nin0)).other W38 (Ne.symm (Nat.ne_of_lt (Nat.lt_of_lt_of_le (f5.wr W6).lt (Nat.le_of_eq g8.symm))))).ext E40).keep Kc44 (ninS (Nat.ne_of_lt (Nat.lt_of_lt_of_le (((((f20.other W24 (Ne.symm (Nat.ne_of_lt (Nat.lt_of_lt_of_le (f5.wr W6).lt (Nat.le_of_eq g8.symm))))).other W28 (Ne.symm (Nat.ne_of_lt (Nat.lt_of_lt_of_le (f5.wr W6).lt (Nat.le_of_eq g8.symm))))).ext E30).keep Kc34 (ninS (Nat.ne_of_lt (Nat.lt_of_lt_of_le ((f20.other W24 (Ne.symm (Nat.ne_of_lt (Nat.lt_of_lt_of_le (f5.wr W6).lt (Nat.le_of_eq g8.symm))))).other W28 (Ne.symm (Nat.ne_of_lt (Nat.lt_of_lt_of_le (f5.wr W6).lt (Nat.le_of_eq g8.symm))))).lt (Nat.le_of_eq g30.symm))) nin0)).other W38 (Ne.symm (Nat.ne_of_lt (Nat.lt_of_lt_of_le (f5.wr W6).lt (Nat.le_of_eq g8.symm))))).lt (Nat.le_of_eq g40.symm))) nin0)).other W48 (Ne.symm (Nat.ne_of_lt (Nat.lt_of_lt_of_le (f5.wr W6).lt (Nat.le_of_eq g8.symm))))).ext E50).other W54 (Ne.symm (Nat.ne_of_lt (Nat.lt_of_lt_of_le (f5.wr W6).lt (Nat.le_of_eq g8.symm))))).ext E56).other W60 (Ne.symm (Nat.ne_of_lt (Nat.lt_of_lt_of_le (f5.wr W6).lt (Nat.le_of_eq g8.symm))))).lt (Nat.le_of_eq g62.symm))) nin0)).other W70 (Ne.symm (Nat.ne_of_lt (Nat.lt_of_lt_of_le (f5.wr W6).lt (Nat.le_of_eq g8.symm))))).ext E72).keep Kc76 (ninS (Nat.ne_of_lt (Nat.lt_of_lt_of_le (((((((((((((((f20.other W24 (Ne.symm (Nat.ne_of_lt (Nat.lt_of_lt_of_le (f5.wr W6).lt (Nat.le_of_eq g8.symm))))).other W28 (Ne.symm (Nat.ne_of_lt (Nat.lt_of_lt_of_le (f5.wr W6).lt (Nat.le_of_eq g8.symm))))).ext E30).keep Kc34 (ninS (Nat.ne_of_lt (Nat.lt_of_lt_of_le ((f20.other W24 (Ne.symm (Nat.ne_of_lt (Nat.lt_of_lt_of_le (f5.wr W6).lt (Nat.le_of_eq g8.symm))))).other W28 (Ne.symm (Nat.ne_of_lt (Nat.lt_of_lt_of_le (f5.wr W6).lt (Nat.le_of_eq g8.symm))))).lt (Nat.le_of_eq g30.symm))) nin0)).other W38 (Ne.symm (Nat.ne_of_lt (Nat.lt_of_lt_of_le (f5.wr W6).lt (Nat.le_of_eq g8.symm))))).ext E40).keep Kc44 (ninS (Nat.ne_of_lt (Nat.lt_of_lt_of_le (((((f20.other W24 (Ne.symm (Nat.ne_of_lt (Nat.lt_of_lt_of_le (f5.wr W6).lt (Nat.le_of_eq g8.symm))))).other W28 (Ne.symm (Nat.ne_of_lt (Nat.lt_of_lt_of_le (f5.wr W6).lt (Nat.le_of_eq g8.symm))))).ext E30).keep Kc34 (ninS (Nat.ne_of_lt (Nat.lt_of_lt_of_le ((f20.other W24 (Ne.symm (Nat.ne_of_lt (Nat.lt_of_lt_of_le (f5.wr W6).lt (Nat.le_of_eq g8.symm))))).other W28 (Ne.symm (Nat.ne_of_lt (Nat.lt_of_lt_of_le (f5.wr W6).lt (Nat.le_of_eq g8.symm))))).lt (Nat.le_of_eq g30.symm))) nin0)).other W38 (Ne.symm (Nat.ne_of_lt (Nat.lt_of_lt_of_le (f5.wr W6).lt (Nat.le_of_eq g8.symm))))).lt (Nat.le_of_eq g40.symm))) nin0)).other W48 (Ne.symm (Nat.ne_of_lt (Nat.lt_of_lt_of_le (f5.wr W6).lt (Nat.le_of_eq g8.symm))))).ext E50).other W54 (Ne.symm (Nat.ne_of_lt (Nat.lt_of_lt_of_le (f5.wr W6).lt (Nat.le_of_eq g8.symm))))).ext E56).other W60 (Ne.symm (Nat.ne_of_lt (Nat.lt_of_lt_of_le (f5.wr W6).lt (Nat.le_of_eq g8.symm))))).ext E62).keep Kc66 (ninS (Nat.ne_of_lt (Nat.lt_of_lt_of_le ((((((((((((f20.other W24 (Ne.symm (Nat.ne_of_lt (Nat.lt_of_lt_of_le (f5.wr W6).lt (Nat.le_of_eq g8.symm))))).other W28 (Ne.symm (Nat.ne_of_lt (Nat.lt_of_lt_of_le (f5.wr W6).lt (Nat.le_of_eq g8.symm))))).ext E30).keep Kc34 (ninS (Nat.ne_of_lt (Nat.lt_of_lt_of_le ((f20.other W24 (Ne.symm (Nat.ne_of_lt (Nat.lt_of_lt_of_le (f5.wr W6).lt (Nat.le_of_eq g8.symm))))).other W28 (Ne.symm (Nat.ne_of_lt (Nat.lt_of_lt_of_le (f5.wr W6).lt (Nat.le_of_eq g8.symm))))).lt (Nat.le_of_eq g30.symm))) nin0)).other W38 (Ne.symm (Nat.ne_of_lt (Nat.lt_of_lt_of_le (f5.wr W6).lt (Nat.le_of_eq g8.symm))))).ext E40).keep Kc44 (ninS (Nat.ne_of_lt (Nat.lt_of_lt_of_le (((((f20.other W24 (Ne.symm (Nat.ne_of_lt (Nat.lt_of_lt_of_le (f5.wr W6).lt (Nat.le_of_eq g8.symm))))).other W28 (Ne.symm (Nat.ne_of_lt (Nat.lt_of_lt_of_le (f5.wr W6).lt (Nat.le_of_eq g8.symm))))).ext E30).keep Kc34 (ninS (Nat.ne_of_lt (Nat.lt_of_lt_of_le ((f20.other W24 (Ne.symm (Nat.ne_of_lt (Nat.lt_of_lt_of_le (f5.wr W6).lt (Nat.le_of_eq g8.symm))))).other W28 (Ne.symm (Nat.ne_of_lt (Nat.lt_of_lt_of_le (f5.wr W6).lt (Nat.le_of_eq g8.symm))))).lt (Nat.le_of_eq g30.symm))) nin0)).other W38 (Ne.symm (Nat.ne_of_lt (Nat.lt_of_lt_of_le (f5.wr W6).lt (Nat.le_of_eq g8.symm))))).lt (Nat.le_of_eq g40.symm))) nin0)).other W48 (Ne.symm (Nat.ne_of_lt (Nat.lt_of_lt_of_le (f5.wr W6).lt (Nat.le_of_eq g8.symm))))).ext E50).other W54 (Ne.symm (Nat.ne_of_lt (Nat.lt_of_lt_of_le (f5.wr W6).lt (Nat.le_of_eq g8.symm))))).ext E56).other W60 (Ne.symm (Nat.ne_of_lt (Nat.lt_of_lt_of_le (f5.wr W6).lt (Nat.le_of_eq g8.symm))))).lt (Nat.le_of_eq g62.symm))) nin0)).other W70 (Ne.symm (Nat.ne_of_lt (Nat.lt_of_lt_of_le (f5.wr W6).lt (Nat.le_of_eq g8.symm))))).lt (Nat.le_of_eq g72.symm))) nin0)).other W80 (Ne.symm (Nat.ne_of_lt (Nat.lt_of_lt_of_le (f5.wr W6).lt (Nat.le_of_eq g8.symm))))).other W84 (Ne.symm (Nat.ne_of_lt (Nat.lt_of_lt_of_le (f5.wr W6).lt (Nat.le_of_eq g8.symm)))))
  have f90 : Fld Z h84 a1 "com/example/concordia/concordia/index/LinkedCode" "layOutAt" "I" (.int (1024 : Int32)) := (((((((((((((((((f28.ext E30).keep Kc34 (ninS (Nat.ne_of_lt (Nat.lt_of_lt_of_le (f27.wr W28).lt (Nat.le_of_eq g30.symm))) nin0)).other W38 (Or.inr (slot_ne (Or.inl (hw _ (List.mem_of_getElem? (i := 121) rfl))) (Or.inr (hw _ (List.mem_of_getElem? (i := 142) rfl))) (by decide) (t := .int) (t' := (.object "com/example/concordia/concordia/index/ChildrenByLabel")) (by decide) (by decide)))).ext E40).keep Kc44 (ninS (Nat.ne_of_lt (Nat.lt_of_lt_of_le (f37.wr W38).lt (Nat.le_of_eq g40.symm))) nin0)).other W48 (Or.inr (slot_ne (Or.inl (hw _ (List.mem_of_getElem? (i := 121) rfl))) (Or.inr (hw _ (List.mem_of_getElem? (i := 146) rfl))) (by decide) (t := .int) (t' := (.object "com/example/concordia/concordia/expr/IntList")) (by decide) (by decide)))).ext E50).other W54 (Or.inr (slot_ne (Or.inl (hw _ (List.mem_of_getElem? (i := 121) rfl))) (Or.inl (hw _ (List.mem_of_getElem? (i := 148) rfl))) (by decide) (t := .int) (t' := (.array .int)) (by decide) (by decide)))).ext E56).other W60 (Or.inr (slot_ne (Or.inl (hw _ (List.mem_of_getElem? (i := 121) rfl))) (Or.inl (hw _ (List.mem_of_getElem? (i := 150) rfl))) (by decide) (t := .int) (t' := (.array .int)) (by decide) (by decide)))).ext E62).keep Kc66 (ninS (Nat.ne_of_lt (Nat.lt_of_lt_of_le (f59.wr W60).lt (Nat.le_of_eq g62.symm))) nin0)).other W70 (Or.inr (slot_ne (Or.inl (hw _ (List.mem_of_getElem? (i := 121) rfl))) (Or.inr (hw _ (List.mem_of_getElem? (i := 152) rfl))) (by decide) (t := .int) (t' := (.object "com/example/concordia/concordia/expr/IntList")) (by decide) (by decide)))).ext E72).keep Kc76 (ninS (Nat.ne_of_lt (Nat.lt_of_lt_of_le (f69.wr W70).lt (Nat.le_of_eq g72.symm))) nin0)).other W80 (Or.inr (slot_ne (Or.inl (hw _ (List.mem_of_getElem? (i := 121) rfl))) (Or.inr (hw _ (List.mem_of_getElem? (i := 154) rfl))) (by decide) (t := .int) (t' := (.object "com/example/concordia/concordia/expr/IntList")) (by decide) (by decide)))).other W84 (Or.inr (slot_ne (Or.inl (hw _ (List.mem_of_getElem? (i := 121) rfl))) (Or.inr (hw _ (List.mem_of_getElem? (i := 156) rfl))) (by decide) (t := .int) (t' := (.object "com/example/concordia/concordia/expr/ExpressionStore")) (by decide) (by decide))))
  have f91 : Fld Z h84 a1 "com/example/concordia/concordia/index/LinkedCode" "codeSize" "I" (.int (0 : Int32)) := ((((((((((((((((((((((((((pr11.ext E2).other W6 (Or.inr (slot_ne (Or.inl (hw _ (List.mem_of_getElem? (i := 189) rfl))) (Or.inl (hw _ (List.mem_of_getElem? (i := 117) rfl))) (by decide) (t := .int) (t' := (.array .int)) (by decide) (by decide)))).ext E8).other W11 (Or.inl (Nat.ne_of_lt (Nat.lt_of_lt_of_le (f5.wr W6).lt (Nat.le_of_eq g8.symm))))).other W14 (Or.inl (Nat.ne_of_lt (Nat.lt_of_lt_of_le (f5.wr W6).lt (Nat.le_of_eq g8.symm))))).other W17 (Or.inl (Nat.ne_of_lt (Nat.lt_of_lt_of_le (f5.wr W6).lt (Nat.le_of_eq g8.symm))))).other W20 (Or.inl (Nat.ne_of_lt (Nat.lt_of_lt_of_le (f5.wr W6).lt (Nat.le_of_eq g8.symm))))).other W24 (Or.inr (slot_ne (Or.inl (hw _ (List.mem_of_getElem? (i := 189) rfl))) (Or.inr (hw _ (List.mem_of_getElem? (i := 119) rfl))) (by decide) (t := .int) (t' := (.array .int)) (by decide) (by decide)))).other W28 (Or.inr (slot_ne (Or.inl (hw _ (List.mem_of_getElem? (i := 189) rfl))) (Or.inl (hw _ (List.mem_of_getElem? (i := 121) rfl))) (by decide) (t := .int) (t' := .int) (by decide) (by decide)))).ext E30).keep Kc34 (ninS (Nat.ne_of_lt (Nat.lt_of_lt_of_le (f27.wr W28).lt (Nat.le_of_eq g30.symm))) nin0)).other W38 (Or.inr (slot_ne (Or.inl (hw _ (List.mem_of_getElem? (i := 189) rfl))) (Or.inr (hw _ (List.mem_of_getElem? (i := 142) rfl))) (by decide) (t := .int) (t' := (.object "com/example/concordia/concordia/index/ChildrenByLabel")) (by decide) (by decide)))).ext E40).keep Kc44 (ninS (Nat.ne_of_lt (Nat.lt_of_lt_of_le (f37.wr W38).lt (Nat.le_of_eq g40.symm))) nin0)).other W48 (Or.inr (slot_ne (Or.inl (hw _ (List.mem_of_getElem? (i := 189) rfl))) (Or.inr (hw _ (List.mem_of_getElem? (i := 146) rfl))) (by decide) (t := .int) (t' := (.object "com/example/concordia/concordia/expr/IntList")) (by decide) (by decide)))).ext E50).other W54 (Or.inr (slot_ne (Or.inl (hw _ (List.mem_of_getElem? (i := 189) rfl))) (Or.inl (hw _ (List.mem_of_getElem? (i := 148) rfl))) (by decide) (t := .int) (t' := (.array .int)) (by decide) (by decide)))).ext E56).other W60 (Or.inr (slot_ne (Or.inl (hw _ (List.mem_of_getElem? (i := 189) rfl))) (Or.inl (hw _ (List.mem_of_getElem? (i := 150) rfl))) (by decide) (t := .int) (t' := (.array .int)) (by decide) (by decide)))).ext E62).keep Kc66 (ninS (Nat.ne_of_lt (Nat.lt_of_lt_of_le (f59.wr W60).lt (Nat.le_of_eq g62.symm))) nin0)).other W70 (Or.inr (slot_ne (Or.inl (hw _ (List.mem_of_getElem? (i := 189) rfl))) (Or.inr (hw _ (List.mem_of_getElem? (i := 152) rfl))) (by decide) (t := .int) (t' := (.object "com/example/concordia/concordia/expr/IntList")) (by decide) (by decide)))).ext E72).keep Kc76 (ninS (Nat.ne_of_lt (Nat.lt_of_lt_of_le (f69.wr W70).lt (Nat.le_of_eq g72.symm))) nin0)).other W80 (Or.inr (slot_ne (Or.inl (hw _ (List.mem_of_getElem? (i := 189) rfl))) (Or.inr (hw _ (List.mem_of_getElem? (i := 154) rfl))) (by decide) (t := .int) (t' := (.object "com/example/concordia/concordia/expr/IntList")) (by decide) (by decide)))).other W84 (Or.inr (slot_ne (Or.inl (hw _ (List.mem_of_getElem? (i := 189) rfl))) (Or.inr (hw _ (List.mem_of_getElem? (i := 156) rfl))) (by decide) (t := .int) (t' := (.object "com/example/concordia/concordia/expr/ExpressionStore")) (by decide) (by decide))))
  have f92 : Fld Z h84 a1 "com/example/concordia/concordia/index/LinkedCode" "liveInstructions" "I" v11 := ((((((((((((((((((((((((((pr12.ext E2).other W6 (Or.inr (slot_ne (Or.inl (hw _ (List.mem_of_getElem? (i := 222) rfl))) (Or.inl (hw _ (List.mem_of_getElem? (i := 117) rfl))) (by decide) (t := .int) (t' := (.array .int)) (by decide) (by decide)))).ext E8).other W11 (Or.inl (Nat.ne_of_lt (Nat.lt_of_lt_of_le (f5.wr W6).lt (Nat.le_of_eq g8.symm))))).other W14 (Or.inl (Nat.ne_of_lt (Nat.lt_of_lt_of_le (f5.wr W6).lt (Nat.le_of_eq g8.symm))))).other W17 (Or.inl (Nat.ne_of_lt (Nat.lt_of_lt_of_le (f5.wr W6).lt (Nat.le_of_eq g8.symm))))).other W20 (Or.inl (Nat.ne_of_lt (Nat.lt_of_lt_of_le (f5.wr W6).lt (Nat.le_of_eq g8.symm))))).other W24 (Or.inr (slot_ne (Or.inl (hw _ (List.mem_of_getElem? (i := 222) rfl))) (Or.inr (hw _ (List.mem_of_getElem? (i := 119) rfl))) (by decide) (t := .int) (t' := (.array .int)) (by decide) (by decide)))).other W28 (Or.inr (slot_ne (Or.inl (hw _ (List.mem_of_getElem? (i := 222) rfl))) (Or.inl (hw _ (List.mem_of_getElem? (i := 121) rfl))) (by decide) (t := .int) (t' := .int) (by decide) (by decide)))).ext E30).keep Kc34 (ninS (Nat.ne_of_lt (Nat.lt_of_lt_of_le (f27.wr W28).lt (Nat.le_of_eq g30.symm))) nin0)).other W38 (Or.inr (slot_ne (Or.inl (hw _ (List.mem_of_getElem? (i := 222) rfl))) (Or.inr (hw _ (List.mem_of_getElem? (i := 142) rfl))) (by decide) (t := .int) (t' := (.object "com/example/concordia/concordia/index/ChildrenByLabel")) (by decide) (by decide)))).ext E40).keep Kc44 (ninS (Nat.ne_of_lt (Nat.lt_of_lt_of_le (f37.wr W38).lt (Nat.le_of_eq g40.symm))) nin0)).other W48 (Or.inr (slot_ne (Or.inl (hw _ (List.mem_of_getElem? (i := 222) rfl))) (Or.inr (hw _ (List.mem_of_getElem? (i := 146) rfl))) (by decide) (t := .int) (t' := (.object "com/example/concordia/concordia/expr/IntList")) (by decide) (by decide)))).ext E50).other W54 (Or.inr (slot_ne (Or.inl (hw _ (List.mem_of_getElem? (i := 222) rfl))) (Or.inl (hw _ (List.mem_of_getElem? (i := 148) rfl))) (by decide) (t := .int) (t' := (.array .int)) (by decide) (by decide)))).ext E56).other W60 (Or.inr (slot_ne (Or.inl (hw _ (List.mem_of_getElem? (i := 222) rfl))) (Or.inl (hw _ (List.mem_of_getElem? (i := 150) rfl))) (by decide) (t := .int) (t' := (.array .int)) (by decide) (by decide)))).ext E62).keep Kc66 (ninS (Nat.ne_of_lt (Nat.lt_of_lt_of_le (f59.wr W60).lt (Nat.le_of_eq g62.symm))) nin0)).other W70 (Or.inr (slot_ne (Or.inl (hw _ (List.mem_of_getElem? (i := 222) rfl))) (Or.inr (hw _ (List.mem_of_getElem? (i := 152) rfl))) (by decide) (t := .int) (t' := (.object "com/example/concordia/concordia/expr/IntList")) (by decide) (by decide)))).ext E72).keep Kc76 (ninS (Nat.ne_of_lt (Nat.lt_of_lt_of_le (f69.wr W70).lt (Nat.le_of_eq g72.symm))) nin0)).other W80 (Or.inr (slot_ne (Or.inl (hw _ (List.mem_of_getElem? (i := 222) rfl))) (Or.inr (hw _ (List.mem_of_getElem? (i := 154) rfl))) (by decide) (t := .int) (t' := (.object "com/example/concordia/concordia/expr/IntList")) (by decide) (by decide)))).other W84 (Or.inr (slot_ne (Or.inl (hw _ (List.mem_of_getElem? (i := 222) rfl))) (Or.inr (hw _ (List.mem_of_getElem? (i := 156) rfl))) (by decide) (t := .int) (t' := (.object "com/example/concordia/concordia/expr/ExpressionStore")) (by decide) (by decide))))
  have f93 : Fld Z h84 a1 "com/example/concordia/concordia/index/LinkedCode" "program" "Lcom/example/concordia/concordia/index/Program;" v12 := ((((((((((((((((((((((((((pr13.ext E2).other W6 (Or.inr (slot_ne (Or.inl (hw _ (List.mem_of_getElem? (i := 183) rfl))) (Or.inl (hw _ (List.mem_of_getElem? (i := 117) rfl))) (by decide) (t := (.object "com/example/concordia/concordia/index/Program")) (t' := (.array .int)) (by decide) (by decide)))).ext E8).other W11 (Or.inl (Nat.ne_of_lt (Nat.lt_of_lt_of_le (f5.wr W6).lt (Nat.le_of_eq g8.symm))))).other W14 (Or.inl (Nat.ne_of_lt (Nat.lt_of_lt_of_le (f5.wr W6).lt (Nat.le_of_eq g8.symm))))).other W17 (Or.inl (Nat.ne_of_lt (Nat.lt_of_lt_of_le (f5.wr W6).lt (Nat.le_of_eq g8.symm))))).other W20 (Or.inl (Nat.ne_of_lt (Nat.lt_of_lt_of_le (f5.wr W6).lt (Nat.le_of_eq g8.symm))))).other W24 (Or.inr (slot_ne (Or.inl (hw _ (List.mem_of_getElem? (i := 183) rfl))) (Or.inr (hw _ (List.mem_of_getElem? (i := 119) rfl))) (by decide) (t := (.object "com/example/concordia/concordia/index/Program")) (t' := (.array .int)) (by decide) (by decide)))).other W28 (Or.inr (slot_ne (Or.inl (hw _ (List.mem_of_getElem? (i := 183) rfl))) (Or.inl (hw _ (List.mem_of_getElem? (i := 121) rfl))) (by decide) (t := (.object "com/example/concordia/concordia/index/Program")) (t' := .int) (by decide) (by decide)))).ext E30).keep Kc34 (ninS (Nat.ne_of_lt (Nat.lt_of_lt_of_le (f27.wr W28).lt (Nat.le_of_eq g30.symm))) nin0)).other W38 (Or.inr (slot_ne (Or.inl (hw _ (List.mem_of_getElem? (i := 183) rfl))) (Or.inr (hw _ (List.mem_of_getElem? (i := 142) rfl))) (by decide) (t := (.object "com/example/concordia/concordia/index/Program")) (t' := (.object "com/example/concordia/concordia/index/ChildrenByLabel")) (by decide) (by decide)))).ext E40).keep Kc44 (ninS (Nat.ne_of_lt (Nat.lt_of_lt_of_le (f37.wr W38).lt (Nat.le_of_eq g40.symm))) nin0)).other W48 (Or.inr (slot_ne (Or.inl (hw _ (List.mem_of_getElem? (i := 183) rfl))) (Or.inr (hw _ (List.mem_of_getElem? (i := 146) rfl))) (by decide) (t := (.object "com/example/concordia/concordia/index/Program")) (t' := (.object "com/example/concordia/concordia/expr/IntList")) (by decide) (by decide)))).ext E50).other W54 (Or.inr (slot_ne (Or.inl (hw _ (List.mem_of_getElem? (i := 183) rfl))) (Or.inl (hw _ (List.mem_of_getElem? (i := 148) rfl))) (by decide) (t := (.object "com/example/concordia/concordia/index/Program")) (t' := (.array .int)) (by decide) (by decide)))).ext E56).other W60 (Or.inr (slot_ne (Or.inl (hw _ (List.mem_of_getElem? (i := 183) rfl))) (Or.inl (hw _ (List.mem_of_getElem? (i := 150) rfl))) (by decide) (t := (.object "com/example/concordia/concordia/index/Program")) (t' := (.array .int)) (by decide) (by decide)))).ext E62).keep Kc66 (ninS (Nat.ne_of_lt (Nat.lt_of_lt_of_le (f59.wr W60).lt (Nat.le_of_eq g62.symm))) nin0)).other W70 (Or.inr (slot_ne (Or.inl (hw _ (List.mem_of_getElem? (i := 183) rfl))) (Or.inr (hw _ (List.mem_of_getElem? (i := 152) rfl))) (by decide) (t := (.object "com/example/concordia/concordia/index/Program")) (t' := (.object "com/example/concordia/concordia/expr/IntList")) (by decide) (by decide)))).ext E72).keep Kc76 (ninS (Nat.ne_of_lt (Nat.lt_of_lt_of_le (f69.wr W70).lt (Nat.le_of_eq g72.symm))) nin0)).other W80 (Or.inr (slot_ne (Or.inl (hw _ (List.mem_of_getElem? (i := 183) rfl))) (Or.inr (hw _ (List.mem_of_getElem? (i := 154) rfl))) (by decide) (t := (.object "com/example/concordia/concordia/index/Program")) (t' := (.object "com/example/concordia/concordia/expr/IntList")) (by decide) (by decide)))).other W84 (Or.inr (slot_ne (Or.inl (hw _ (List.mem_of_getElem? (i := 183) rfl))) (Or.inr (hw _ (List.mem_of_getElem? (i := 156) rfl))) (by decide) (t := (.object "com/example/concordia/concordia/index/Program")) (t' := (.object "com/example/concordia/concordia/expr/ExpressionStore")) (by decide) (by decide))))
  have f86 : Fld Z h84 a1 "com/example/concordia/concordia/index/LinkedCode" "code" "[I" (.ref b2) := ((((((((((((((((((((((((f6.ext E8).other W11 (Or.inl (Nat.ne_of_lt (Nat.lt_of_lt_of_le (f5.wr W6).lt (Nat.le_of_eq g8.symm))))).other W14 (Or.inl (Nat.ne_of_lt (Nat.lt_of_lt_of_le (f5.wr W6).lt (Nat.le_of_eq g8.symm))))).other W17 (Or.inl (Nat.ne_of_lt (Nat.lt_of_lt_of_le (f5.wr W6).lt (Nat.le_of_eq g8.symm))))).other W20 (Or.inl (Nat.ne_of_lt (Nat.lt_of_lt_of_le (f5.wr W6).lt (Nat.le_of_eq g8.symm))))).other W24 (Or.inr (slot_ne (Or.inl (hw _ (List.mem_of_getElem? (i := 117) rfl))) (Or.inr (hw _ (List.mem_of_getElem? (i := 119) rfl))) (by decide) (t := (.array .int)) (t' := (.array .int)) (by decide) (by decide)))).other W28 (Or.inr (slot_ne (Or.inl (hw _ (List.mem_of_getElem? (i := 117) rfl))) (Or.inl (hw _ (List.mem_of_getElem? (i := 121) rfl))) (by decide) (t := (.array .int)) (t' := .int) (by decide) (by decide)))).ext E30).keep Kc34 (ninS (Nat.ne_of_lt (Nat.lt_of_lt_of_le (f27.wr W28).lt (Nat.le_of_eq g30.symm))) nin0)).other W38 (Or.inr (slot_ne (Or.inl (hw _ (List.mem_of_getElem? (i := 117) rfl))) (Or.inr (hw _ (List.mem_of_getElem? (i := 142) rfl))) (by decide) (t := (.array .int)) (t' := (.object "com/example/concordia/concordia/index/ChildrenByLabel")) (by decide) (by decide)))).ext E40).keep Kc44 (ninS (Nat.ne_of_lt (Nat.lt_of_lt_of_le (f37.wr W38).lt (Nat.le_of_eq g40.symm))) nin0)).other W48 (Or.inr (slot_ne (Or.inl (hw _ (List.mem_of_getElem? (i := 117) rfl))) (Or.inr (hw _ (List.mem_of_getElem? (i := 146) rfl))) (by decide) (t := (.array .int)) (t' := (.object "com/example/concordia/concordia/expr/IntList")) (by decide) (by decide)))).ext E50).other W54 (Or.inr (slot_ne (Or.inl (hw _ (List.mem_of_getElem? (i := 117) rfl))) (Or.inl (hw _ (List.mem_of_getElem? (i := 148) rfl))) (by decide) (t := (.array .int)) (t' := (.array .int)) (by decide) (by decide)))).ext E56).other W60 (Or.inr (slot_ne (Or.inl (hw _ (List.mem_of_getElem? (i := 117) rfl))) (Or.inl (hw _ (List.mem_of_getElem? (i := 150) rfl))) (by decide) (t := (.array .int)) (t' := (.array .int)) (by decide) (by decide)))).ext E62).keep Kc66 (ninS (Nat.ne_of_lt (Nat.lt_of_lt_of_le (f59.wr W60).lt (Nat.le_of_eq g62.symm))) nin0)).other W70 (Or.inr (slot_ne (Or.inl (hw _ (List.mem_of_getElem? (i := 117) rfl))) (Or.inr (hw _ (List.mem_of_getElem? (i := 152) rfl))) (by decide) (t := (.array .int)) (t' := (.object "com/example/concordia/concordia/expr/IntList")) (by decide) (by decide)))).ext E72).keep Kc76 (ninS (Nat.ne_of_lt (Nat.lt_of_lt_of_le (f69.wr W70).lt (Nat.le_of_eq g72.symm))) nin0)).other W80 (Or.inr (slot_ne (Or.inl (hw _ (List.mem_of_getElem? (i := 117) rfl))) (Or.inr (hw _ (List.mem_of_getElem? (i := 154) rfl))) (by decide) (t := (.array .int)) (t' := (.object "com/example/concordia/concordia/expr/IntList")) (by decide) (by decide)))).other W84 (Or.inr (slot_ne (Or.inl (hw _ (List.mem_of_getElem? (i := 117) rfl))) (Or.inr (hw _ (List.mem_of_getElem? (i := 156) rfl))) (by decide) (t := (.array .int)) (t' := (.object "com/example/concordia/concordia/expr/ExpressionStore")) (by decide) (by decide))))
  have f87 : own_Ars Z h84 b2 .int (64 : Int32) := (((((((((((((((((((((((((f2.wr W6).ext E8).wr W11).wr W14).wr W17).wr W20).wr W24).wr W28).ext E30).keep Kc34).wr W38).ext E40).keep Kc44).wr W48).ext E50).wr W54).ext E56).wr W60).ext E62).keep Kc66).wr W70).ext E72).keep Kc76).wr W80).wr W84)
  have f88 : Fld Z h84 a1 "com/example/concordia/concordia/index/LinkedCode" "roots" "[I" (.ref b8) := ((((((((((((((((((f24.other W28 (Or.inr (slot_ne (Or.inr (hw _ (List.mem_of_getElem? (i := 119) rfl))) (Or.inl (hw _ (List.mem_of_getElem? (i := 121) rfl))) (by decide) (t := (.array .int)) (t' := .int) (by decide) (by decide)))).ext E30).keep Kc34 (ninS (Nat.ne_of_lt (Nat.lt_of_lt_of_le (f27.wr W28).lt (Nat.le_of_eq g30.symm))) nin0)).other W38 (Or.inr (slot_ne (Or.inr (hw _ (List.mem_of_getElem? (i := 119) rfl))) (Or.inr (hw _ (List.mem_of_getElem? (i := 142) rfl))) (by decide) (t := (.array .int)) (t' := (.object "com/example/concordia/concordia/index/ChildrenByLabel")) (by decide) (by decide)))).ext E40).keep Kc44 (ninS (Nat.ne_of_lt (Nat.lt_of_lt_of_le (f37.wr W38).lt (Nat.le_of_eq g40.symm))) nin0)).other W48 (Or.inr (slot_ne (Or.inr (hw _ (List.mem_of_getElem? (i := 119) rfl))) (Or.inr (hw _ (List.mem_of_getElem? (i := 146) rfl))) (by decide) (t := (.array .int)) (t' := (.object "com/example/concordia/concordia/expr/IntList")) (by decide) (by decide)))).ext E50).other W54 (Or.inr (slot_ne (Or.inr (hw _ (List.mem_of_getElem? (i := 119) rfl))) (Or.inl (hw _ (List.mem_of_getElem? (i := 148) rfl))) (by decide) (t := (.array .int)) (t' := (.array .int)) (by decide) (by decide)))).ext E56).other W60 (Or.inr (slot_ne (Or.inr (hw _ (List.mem_of_getElem? (i := 119) rfl))) (Or.inl (hw _ (List.mem_of_getElem? (i := 150) rfl))) (by decide) (t := (.array .int)) (t' := (.array .int)) (by decide) (by decide)))).ext E62).keep Kc66 (ninS (Nat.ne_of_lt (Nat.lt_of_lt_of_le (f59.wr W60).lt (Nat.le_of_eq g62.symm))) nin0)).other W70 (Or.inr (slot_ne (Or.inr (hw _ (List.mem_of_getElem? (i := 119) rfl))) (Or.inr (hw _ (List.mem_of_getElem? (i := 152) rfl))) (by decide) (t := (.array .int)) (t' := (.object "com/example/concordia/concordia/expr/IntList")) (by decide) (by decide)))).ext E72).keep Kc76 (ninS (Nat.ne_of_lt (Nat.lt_of_lt_of_le (f69.wr W70).lt (Nat.le_of_eq g72.symm))) nin0)).other W80 (Or.inr (slot_ne (Or.inr (hw _ (List.mem_of_getElem? (i := 119) rfl))) (Or.inr (hw _ (List.mem_of_getElem? (i := 154) rfl))) (by decide) (t := (.array .int)) (t' := (.object "com/example/concordia/concordia/expr/IntList")) (by decide) (by decide)))).other W84 (Or.inr (slot_ne (Or.inr (hw _ (List.mem_of_getElem? (i := 119) rfl))) (Or.inr (hw _ (List.mem_of_getElem? (i := 156) rfl))) (by decide) (t := (.array .int)) (t' := (.object "com/example/concordia/concordia/expr/ExpressionStore")) (by decide) (by decide))))
  have f89 : Arv Z h84 b8 k8 .int (4 : Int32) [(.int (-1 : Int32)), (.int (-1 : Int32)), (.int (-1 : Int32)), (.int (-1 : Int32))] (.int (0 : Int32)) := (((((((((((((((((((f20.other W24 (Ne.symm (Nat.ne_of_lt (Nat.lt_of_lt_of_le (f5.wr W6).lt (Nat.le_of_eq g8.symm))))).other W28 (Ne.symm (Nat.ne_of_lt (Nat.lt_of_lt_of_le (f5.wr W6).lt (Nat.le_of_eq g8.symm))))).ext E30).keep Kc34 (ninS (Nat.ne_of_lt (Nat.lt_of_lt_of_le ((f20.other W24 (Ne.symm (Nat.ne_of_lt (Nat.lt_of_lt_of_le (f5.wr W6).lt (Nat.le_of_eq g8.symm))))).other W28 (Ne.symm (Nat.ne_of_lt (Nat.lt_of_lt_of_le (f5.wr W6).lt (Nat.le_of_eq g8.symm))))).lt (Nat.le_of_eq g30.symm))) nin0)).other W38 (Ne.symm (Nat.ne_of_lt (Nat.lt_of_lt_of_le (f5.wr W6).lt (Nat.le_of_eq g8.symm))))).ext E40).keep Kc44 (ninS (Nat.ne_of_lt (Nat.lt_of_lt_of_le (((((f20.other W24 (Ne.symm (Nat.ne_of_lt (Nat.lt_of_lt_of_le (f5.wr W6).lt (Nat.le_of_eq g8.symm))))).other W28 (Ne.symm (Nat.ne_of_lt (Nat.lt_of_lt_of_le (f5.wr W6).lt (Nat.le_of_eq g8.symm))))).ext E30).keep Kc34 (ninS (Nat.ne_of_lt (Nat.lt_of_lt_of_le ((f20.other W24 (Ne.symm (Nat.ne_of_lt (Nat.lt_of_lt_of_le (f5.wr W6).lt (Nat.le_of_eq g8.symm))))).other W28 (Ne.symm (Nat.ne_of_lt (Nat.lt_of_lt_of_le (f5.wr W6).lt (Nat.le_of_eq g8.symm))))).lt (Nat.le_of_eq g30.symm))) nin0)).other W38 (Ne.symm (Nat.ne_of_lt (Nat.lt_of_lt_of_le (f5.wr W6).lt (Nat.le_of_eq g8.symm))))).lt (Nat.le_of_eq g40.symm))) nin0)).other W48 (Ne.symm (Nat.ne_of_lt (Nat.lt_of_lt_of_le (f5.wr W6).lt (Nat.le_of_eq g8.symm))))).ext E50).other W54 (Ne.symm (Nat.ne_of_lt (Nat.lt_of_lt_of_le (f5.wr W6).lt (Nat.le_of_eq g8.symm))))).ext E56).other W60 (Ne.symm (Nat.ne_of_lt (Nat.lt_of_lt_of_le (f5.wr W6).lt (Nat.le_of_eq g8.symm))))).ext E62).keep Kc66 (ninS (Nat.ne_of_lt (Nat.lt_of_lt_of_le ((((((((((((f20.other W24 (Ne.symm (Nat.ne_of_lt (Nat.lt_of_lt_of_le (f5.wr W6).lt (Nat.le_of_eq g8.symm))))).other W28 (Ne.symm (Nat.ne_of_lt (Nat.lt_of_lt_of_le (f5.wr W6).lt (Nat.le_of_eq g8.symm))))).ext E30).keep Kc34 (ninS (Nat.ne_of_lt (Nat.lt_of_lt_of_le ((f20.other W24 (Ne.symm (Nat.ne_of_lt (Nat.lt_of_lt_of_le (f5.wr W6).lt (Nat.le_of_eq g8.symm))))).other W28 (Ne.symm (Nat.ne_of_lt (Nat.lt_of_lt_of_le (f5.wr W6).lt (Nat.le_of_eq g8.symm))))).lt (Nat.le_of_eq g30.symm))) nin0)).other W38 (Ne.symm (Nat.ne_of_lt (Nat.lt_of_lt_of_le (f5.wr W6).lt (Nat.le_of_eq g8.symm))))).ext E40).keep Kc44 (ninS (Nat.ne_of_lt (Nat.lt_of_lt_of_le (((((f20.other W24 (Ne.symm (Nat.ne_of_lt (Nat.lt_of_lt_of_le (f5.wr W6).lt (Nat.le_of_eq g8.symm))))).other W28 (Ne.symm (Nat.ne_of_lt (Nat.lt_of_lt_of_le (f5.wr W6).lt (Nat.le_of_eq g8.symm))))).ext E30).keep Kc34 (ninS (Nat.ne_of_lt (Nat.lt_of_lt_of_le ((f20.other W24 (Ne.symm (Nat.ne_of_lt (Nat.lt_of_lt_of_le (f5.wr W6).lt (Nat.le_of_eq g8.symm))))).other W28 (Ne.symm (Nat.ne_of_lt (Nat.lt_of_lt_of_le (f5.wr W6).lt (Nat.le_of_eq g8.symm))))).lt (Nat.le_of_eq g30.symm))) nin0)).other W38 (Ne.symm (Nat.ne_of_lt (Nat.lt_of_lt_of_le (f5.wr W6).lt (Nat.le_of_eq g8.symm))))).lt (Nat.le_of_eq g40.symm))) nin0)).other W48 (Ne.symm (Nat.ne_of_lt (Nat.lt_of_lt_of_le (f5.wr W6).lt (Nat.le_of_eq g8.symm))))).ext E50).other W54 (Ne.symm (Nat.ne_of_lt (Nat.lt_of_lt_of_le (f5.wr W6).lt (Nat.le_of_eq g8.symm))))).ext E56).other W60 (Ne.symm (Nat.ne_of_lt (Nat.lt_of_lt_of_le (f5.wr W6).lt (Nat.le_of_eq g8.symm))))).lt (Nat.le_of_eq g62.symm))) nin0)).other W70 (Ne.symm (Nat.ne_of_lt (Nat.lt_of_lt_of_le (f5.wr W6).lt (Nat.le_of_eq g8.symm))))).ext E72).keep Kc76 (ninS (Nat.ne_of_lt (Nat.lt_of_lt_of_le (((((((((((((((f20.other W24 (Ne.symm (Nat.ne_of_lt (Nat.lt_of_lt_of_le (f5.wr W6).lt (Nat.le_of_eq g8.symm))))).other W28 (Ne.symm (Nat.ne_of_lt (Nat.lt_of_lt_of_le (f5.wr W6).lt (Nat.le_of_eq g8.symm))))).ext E30).keep Kc34 (ninS (Nat.ne_of_lt (Nat.lt_of_lt_of_le ((f20.other W24 (Ne.symm (Nat.ne_of_lt (Nat.lt_of_lt_of_le (f5.wr W6).lt (Nat.le_of_eq g8.symm))))).other W28 (Ne.symm (Nat.ne_of_lt (Nat.lt_of_lt_of_le (f5.wr W6).lt (Nat.le_of_eq g8.symm))))).lt (Nat.le_of_eq g30.symm))) nin0)).other W38 (Ne.symm (Nat.ne_of_lt (Nat.lt_of_lt_of_le (f5.wr W6).lt (Nat.le_of_eq g8.symm))))).ext E40).keep Kc44 (ninS (Nat.ne_of_lt (Nat.lt_of_lt_of_le (((((f20.other W24 (Ne.symm (Nat.ne_of_lt (Nat.lt_of_lt_of_le (f5.wr W6).lt (Nat.le_of_eq g8.symm))))).other W28 (Ne.symm (Nat.ne_of_lt (Nat.lt_of_lt_of_le (f5.wr W6).lt (Nat.le_of_eq g8.symm))))).ext E30).keep Kc34 (ninS (Nat.ne_of_lt (Nat.lt_of_lt_of_le ((f20.other W24 (Ne.symm (Nat.ne_of_lt (Nat.lt_of_lt_of_le (f5.wr W6).lt (Nat.le_of_eq g8.symm))))).other W28 (Ne.symm (Nat.ne_of_lt (Nat.lt_of_lt_of_le (f5.wr W6).lt (Nat.le_of_eq g8.symm))))).lt (Nat.le_of_eq g30.symm))) nin0)).other W38 (Ne.symm (Nat.ne_of_lt (Nat.lt_of_lt_of_le (f5.wr W6).lt (Nat.le_of_eq g8.symm))))).lt (Nat.le_of_eq g40.symm))) nin0)).other W48 (Ne.symm (Nat.ne_of_lt (Nat.lt_of_lt_of_le (f5.wr W6).lt (Nat.le_of_eq g8.symm))))).ext E50).other W54 (Ne.symm (Nat.ne_of_lt (Nat.lt_of_lt_of_le (f5.wr W6).lt (Nat.le_of_eq g8.symm))))).ext E56).other W60 (Ne.symm (Nat.ne_of_lt (Nat.lt_of_lt_of_le (f5.wr W6).lt (Nat.le_of_eq g8.symm))))).ext E62).keep Kc66 (ninS (Nat.ne_of_lt (Nat.lt_of_lt_of_le ((((((((((((f20.other W24 (Ne.symm (Nat.ne_of_lt (Nat.lt_of_lt_of_le (f5.wr W6).lt (Nat.le_of_eq g8.symm))))).other W28 (Ne.symm (Nat.ne_of_lt (Nat.lt_of_lt_of_le (f5.wr W6).lt (Nat.le_of_eq g8.symm))))).ext E30).keep Kc34 (ninS (Nat.ne_of_lt (Nat.lt_of_lt_of_le ((f20.other W24 (Ne.symm (Nat.ne_of_lt (Nat.lt_of_lt_of_le (f5.wr W6).lt (Nat.le_of_eq g8.symm))))).other W28 (Ne.symm (Nat.ne_of_lt (Nat.lt_of_lt_of_le (f5.wr W6).lt (Nat.le_of_eq g8.symm))))).lt (Nat.le_of_eq g30.symm))) nin0)).other W38 (Ne.symm (Nat.ne_of_lt (Nat.lt_of_lt_of_le (f5.wr W6).lt (Nat.le_of_eq g8.symm))))).ext E40).keep Kc44 (ninS (Nat.ne_of_lt (Nat.lt_of_lt_of_le (((((f20.other W24 (Ne.symm (Nat.ne_of_lt (Nat.lt_of_lt_of_le (f5.wr W6).lt (Nat.le_of_eq g8.symm))))).other W28 (Ne.symm (Nat.ne_of_lt (Nat.lt_of_lt_of_le (f5.wr W6).lt (Nat.le_of_eq g8.symm))))).ext E30).keep Kc34 (ninS (Nat.ne_of_lt (Nat.lt_of_lt_of_le ((f20.other W24 (Ne.symm (Nat.ne_of_lt (Nat.lt_of_lt_of_le (f5.wr W6).lt (Nat.le_of_eq g8.symm))))).other W28 (Ne.symm (Nat.ne_of_lt (Nat.lt_of_lt_of_le (f5.wr W6).lt (Nat.le_of_eq g8.symm))))).lt (Nat.le_of_eq g30.symm))) nin0)).other W38 (Ne.symm (Nat.ne_of_lt (Nat.lt_of_lt_of_le (f5.wr W6).lt (Nat.le_of_eq g8.symm))))).lt (Nat.le_of_eq g40.symm))) nin0)).other W48 (Ne.symm (Nat.ne_of_lt (Nat.lt_of_lt_of_le (f5.wr W6).lt (Nat.le_of_eq g8.symm))))).ext E50).other W54 (Ne.symm (Nat.ne_of_lt (Nat.lt_of_lt_of_le (f5.wr W6).lt (Nat.le_of_eq g8.symm))))).ext E56).other W60 (Ne.symm (Nat.ne_of_lt (Nat.lt_of_lt_of_le (f5.wr W6).lt (Nat.le_of_eq g8.symm))))).lt (Nat.le_of_eq g62.symm))) nin0)).other W70 (Ne.symm (Nat.ne_of_lt (Nat.lt_of_lt_of_le (f5.wr W6).lt (Nat.le_of_eq g8.symm))))).lt (Nat.le_of_eq g72.symm))) nin0)).other W80 (Ne.symm (Nat.ne_of_lt (Nat.lt_of_lt_of_le (f5.wr W6).lt (Nat.le_of_eq g8.symm))))).other W84 (Ne.symm (Nat.ne_of_lt (Nat.lt_of_lt_of_le (f5.wr W6).lt (Nat.le_of_eq g8.symm)))))
  have f90 : Fld Z h84 a1 "com/example/concordia/concordia/index/LinkedCode" "layOutAt" "I" (.int (1024 : Int32)) := (((((((((((((((((f28.ext E30).keep Kc34 (ninS (Nat.ne_of_lt (Nat.lt_of_lt_of_le (f27.wr W28).lt (Nat.le_of_eq g30.symm))) nin0)).other W38 (Or.inr (slot_ne (Or.inl (hw _ (List.mem_of_getElem? (i := 121) rfl))) (Or.inr (hw _ (List.mem_of_getElem? (i := 142) rfl))) (by decide) (t := .int) (t' := (.object "com/example/concordia/concordia/index/ChildrenByLabel")) (by decide) (by decide)))).ext E40).keep Kc44 (ninS (Nat.ne_of_lt (Nat.lt_of_lt_of_le (f37.wr W38).lt (Nat.le_of_eq g40.symm))) nin0)).other W48 (Or.inr (slot_ne (Or.inl (hw _ (List.mem_of_getElem? (i := 121) rfl))) (Or.inr (hw _ (List.mem_of_getElem? (i := 146) rfl))) (by decide) (t := .int) (t' := (.object "com/example/concordia/concordia/expr/IntList")) (by decide) (by decide)))).ext E50).other W54 (Or.inr (slot_ne (Or.inl (hw _ (List.mem_of_getElem? (i := 121) rfl))) (Or.inl (hw _ (List.mem_of_getElem? (i := 148) rfl))) (by decide) (t := .int) (t' := (.array .int)) (by decide) (by decide)))).ext E56).other W60 (Or.inr (slot_ne (Or.inl (hw _ (List.mem_of_getElem? (i := 121) rfl))) (Or.inl (hw _ (List.mem_of_getElem? (i := 150) rfl))) (by decide) (t := .int) (t' := (.array .int)) (by decide) (by decide)))).ext E62).keep Kc66 (ninS (Nat.ne_of_lt (Nat.lt_of_lt_of_le (f59.wr W60).lt (Nat.le_of_eq g62.symm))) nin0)).other W70 (Or.inr (slot_ne (Or.inl (hw _ (List.mem_of_getElem? (i := 121) rfl))) (Or.inr (hw _ (List.mem_of_getElem? (i := 152) rfl))) (by decide) (t := .int) (t' := (.object "com/example/concordia/concordia/expr/IntList")) (by decide) (by decide)))).ext E72).keep Kc76 (ninS (Nat.ne_of_lt (Nat.lt_of_lt_of_le (f69.wr W70).lt (Nat.le_of_eq g72.symm))) nin0)).other W80 (Or.inr (slot_ne (Or.inl (hw _ (List.mem_of_getElem? (i := 121) rfl))) (Or.inr (hw _ (List.mem_of_getElem? (i := 154) rfl))) (by decide) (t := .int) (t' := (.object "com/example/concordia/concordia/expr/IntList")) (by decide) (by decide)))).other W84 (Or.inr (slot_ne (Or.inl (hw _ (List.mem_of_getElem? (i := 121) rfl))) (Or.inr (hw _ (List.mem_of_getElem? (i := 156) rfl))) (by decide) (t := .int) (t' := (.object "com/example/concordia/concordia/expr/ExpressionStore")) (by decide) (by decide))))
  have f91 : Fld Z h84 a1 "com/example/concordia/concordia/index/LinkedCode" "codeSize" "I" (.int (0 : Int32)) := ((((((((((((((((((((((((((pr11.ext E2).other W6 (Or.inr (slot_ne (Or.inl (hw _ (List.mem_of_getElem? (i := 189) rfl))) (Or.inl (hw _ (List.mem_of_getElem? (i := 117) rfl))) (by decide) (t := .int) (t' := (.array .int)) (by decide) (by decide)))).ext E8).other W11 (Or.inl (Nat.ne_of_lt (Nat.lt_of_lt_of_le (f5.wr W6).lt (Nat.le_of_eq g8.symm))))).other W14 (Or.inl (Nat.ne_of_lt (Nat.lt_of_lt_of_le (f5.wr W6).lt (Nat.le_of_eq g8.symm))))).other W17 (Or.inl (Nat.ne_of_lt (Nat.lt_of_lt_of_le (f5.wr W6).lt (Nat.le_of_eq g8.symm))))).other W20 (Or.inl (Nat.ne_of_lt (Nat.lt_of_lt_of_le (f5.wr W6).lt (Nat.le_of_eq g8.symm))))).other W24 (Or.inr (slot_ne (Or.inl (hw _ (List.mem_of_getElem? (i := 189) rfl))) (Or.inr (hw _ (List.mem_of_getElem? (i := 119) rfl))) (by decide) (t := .int) (t' := (.array .int)) (by decide) (by decide)))).other W28 (Or.inr (slot_ne (Or.inl (hw _ (List.mem_of_getElem? (i := 189) rfl))) (Or.inl (hw _ (List.mem_of_getElem? (i := 121) rfl))) (by decide) (t := .int) (t' := .int) (by decide) (by decide)))).ext E30).keep Kc34 (ninS (Nat.ne_of_lt (Nat.lt_of_lt_of_le (f27.wr W28).lt (Nat.le_of_eq g30.symm))) nin0)).other W38 (Or.inr (slot_ne (Or.inl (hw _ (List.mem_of_getElem? (i := 189) rfl))) (Or.inr (hw _ (List.mem_of_getElem? (i := 142) rfl))) (by decide) (t := .int) (t' := (.object "com/example/concordia/concordia/index/ChildrenByLabel")) (by decide) (by decide)))).ext E40).keep Kc44 (ninS (Nat.ne_of_lt (Nat.lt_of_lt_of_le (f37.wr W38).lt (Nat.le_of_eq g40.symm))) nin0)).other W48 (Or.inr (slot_ne (Or.inl (hw _ (List.mem_of_getElem? (i := 189) rfl))) (Or.inr (hw _ (List.mem_of_getElem? (i := 146) rfl))) (by decide) (t := .int) (t' := (.object "com/example/concordia/concordia/expr/IntList")) (by decide) (by decide)))).ext E50).other W54 (Or.inr (slot_ne (Or.inl (hw _ (List.mem_of_getElem? (i := 189) rfl))) (Or.inl (hw _ (List.mem_of_getElem? (i := 148) rfl))) (by decide) (t := .int) (t' := (.array .int)) (by decide) (by decide)))).ext E56).other W60 (Or.inr (slot_ne (Or.inl (hw _ (List.mem_of_getElem? (i := 189) rfl))) (Or.inl (hw _ (List.mem_of_getElem? (i := 150) rfl))) (by decide) (t := .int) (t' := (.array .int)) (by decide) (by decide)))).ext E62).keep Kc66 (ninS (Nat.ne_of_lt (Nat.lt_of_lt_of_le (f59.wr W60).lt (Nat.le_of_eq g62.symm))) nin0)).other W70 (Or.inr (slot_ne (Or.inl (hw _ (List.mem_of_getElem? (i := 189) rfl))) (Or.inr (hw _ (List.mem_of_getElem? (i := 152) rfl))) (by decide) (t := .int) (t' := (.object "com/example/concordia/concordia/expr/IntList")) (by decide) (by decide)))).ext E72).keep Kc76 (ninS (Nat.ne_of_lt (Nat.lt_of_lt_of_le (f69.wr W70).lt (Nat.le_of_eq g72.symm))) nin0)).other W80 (Or.inr (slot_ne (Or.inl (hw _ (List.mem_of_getElem? (i := 189) rfl))) (Or.inr (hw _ (List.mem_of_getElem? (i := 154) rfl))) (by decide) (t := .int) (t' := (.object "com/example/concordia/concordia/expr/IntList")) (by decide) (by decide)))).other W84 (Or.inr (slot_ne (Or.inl (hw _ (List.mem_of_getElem? (i := 189) rfl))) (Or.inr (hw _ (List.mem_of_getElem? (i := 156) rfl))) (by decide) (t := .int) (t' := (.object "com/example/concordia/concordia/expr/ExpressionStore")) (by decide) (by decide))))
  have f92 : Fld Z h84 a1 "com/example/concordia/concordia/index/LinkedCode" "liveInstructions" "I" v11 := ((((((((((((((((((((((((((pr12.ext E2).other W6 (Or.inr (slot_ne (Or.inl (hw _ (List.mem_of_getElem? (i := 222) rfl))) (Or.inl (hw _ (List.mem_of_getElem? (i := 117) rfl))) (by decide) (t := .int) (t' := (.array .int)) (by decide) (by decide)))).ext E8).other W11 (Or.inl (Nat.ne_of_lt (Nat.lt_of_lt_of_le (f5.wr W6).lt (Nat.le_of_eq g8.symm))))).other W14 (Or.inl (Nat.ne_of_lt (Nat.lt_of_lt_of_le (f5.wr W6).lt (Nat.le_of_eq g8.symm))))).other W17 (Or.inl (Nat.ne_of_lt (Nat.lt_of_lt_of_le (f5.wr W6).lt (Nat.le_of_eq g8.symm))))).other W20 (Or.inl (Nat.ne_of_lt (Nat.lt_of_lt_of_le (f5.wr W6).lt (Nat.le_of_eq g8.symm))))).other W24 (Or.inr (slot_ne (Or.inl (hw _ (List.mem_of_getElem? (i := 222) rfl))) (Or.inr (hw _ (List.mem_of_getElem? (i := 119) rfl))) (by decide) (t := .int) (t' := (.array .int)) (by decide) (by decide)))).other W28 (Or.inr (slot_ne (Or.inl (hw _ (List.mem_of_getElem? (i := 222) rfl))) (Or.inl (hw _ (List.mem_of_getElem? (i := 121) rfl))) (by decide) (t := .int) (t' := .int) (by decide) (by decide)))).ext E30).keep Kc34 (ninS (Nat.ne_of_lt (Nat.lt_of_lt_of_le (f27.wr W28).lt (Nat.le_of_eq g30.symm))) nin0)).other W38 (Or.inr (slot_ne (Or.inl (hw _ (List.mem_of_getElem? (i := 222) rfl))) (Or.inr (hw _ (List.mem_of_getElem? (i := 142) rfl))) (by decide) (t := .int) (t' := (.object "com/example/concordia/concordia/index/ChildrenByLabel")) (by decide) (by decide)))).ext E40).keep Kc44 (ninS (Nat.ne_of_lt (Nat.lt_of_lt_of_le (f37.wr W38).lt (Nat.le_of_eq g40.symm))) nin0)).other W48 (Or.inr (slot_ne (Or.inl (hw _ (List.mem_of_getElem? (i := 222) rfl))) (Or.inr (hw _ (List.mem_of_getElem? (i := 146) rfl))) (by decide) (t := .int) (t' := (.object "com/example/concordia/concordia/expr/IntList")) (by decide) (by decide)))).ext E50).other W54 (Or.inr (slot_ne (Or.inl (hw _ (List.mem_of_getElem? (i := 222) rfl))) (Or.inl (hw _ (List.mem_of_getElem? (i := 148) rfl))) (by decide) (t := .int) (t' := (.array .int)) (by decide) (by decide)))).ext E56).other W60 (Or.inr (slot_ne (Or.inl (hw _ (List.mem_of_getElem? (i := 222) rfl))) (Or.inl (hw _ (List.mem_of_getElem? (i := 150) rfl))) (by decide) (t := .int) (t' := (.array .int)) (by decide) (by decide)))).ext E62).keep Kc66 (ninS (Nat.ne_of_lt (Nat.lt_of_lt_of_le (f59.wr W60).lt (Nat.le_of_eq g62.symm))) nin0)).other W70 (Or.inr (slot_ne (Or.inl (hw _ (List.mem_of_getElem? (i := 222) rfl))) (Or.inr (hw _ (List.mem_of_getElem? (i := 152) rfl))) (by decide) (t := .int) (t' := (.object "com/example/concordia/concordia/expr/IntList")) (by decide) (by decide)))).ext E72).keep Kc76 (ninS (Nat.ne_of_lt (Nat.lt_of_lt_of_le (f69.wr W70).lt (Nat.le_of_eq g72.symm))) nin0)).other W80 (Or.inr (slot_ne (Or.inl (hw _ (List.mem_of_getElem? (i := 222) rfl))) (Or.inr (hw _ (List.mem_of_getElem? (i := 154) rfl))) (by decide) (t := .int) (t' := (.object "com/example/concordia/concordia/expr/IntList")) (by decide) (by decide)))).other W84 (Or.inr (slot_ne (Or.inl (hw _ (List.mem_of_getElem? (i := 222) rfl))) (Or.inr (hw _ (List.mem_of_getElem? (i := 156) rfl))) (by decide) (t := .int) (t' := (.object "com/example/concordia/concordia/expr/ExpressionStore")) (by decide) (by decide))))
  have f93 : Fld Z h84 a1 "com/example/concordia/concordia/index/LinkedCode" "program" "Lcom/example/concordia/concordia/index/Program;" v12 := ((((((((((((((((((((((((((pr13.ext E2).other W6 (Or.inr (slot_ne (Or.inl (hw _ (List.mem_of_getElem? (i := 183) rfl))) (Or.inl (hw _ (List.mem_of_getElem? (i := 117) rfl))) (by decide) (t := (.object "com/example/concordia/concordia/index/Program")) (t' := (.array .int)) (by decide) (by decide)))).ext E8).other W11 (Or.inl (Nat.ne_of_lt (Nat.lt_of_lt_of_le (f5.wr W6).lt (Nat.le_of_eq g8.symm))))).other W14 (Or.inl (Nat.ne_of_lt (Nat.lt_of_lt_of_le (f5.wr W6).lt (Nat.le_of_eq g8.symm))))).other W17 (Or.inl (Nat.ne_of_lt (Nat.lt_of_lt_of_le (f5.wr W6).lt (Nat.le_of_eq g8.symm))))).other W20 (Or.inl (Nat.ne_of_lt (Nat.lt_of_lt_of_le (f5.wr W6).lt (Nat.le_of_eq g8.symm))))).other W24 (Or.inr (slot_ne (Or.inl (hw _ (List.mem_of_getElem? (i := 183) rfl))) (Or.inr (hw _ (List.mem_of_getElem? (i := 119) rfl))) (by decide) (t := (.object "com/example/concordia/concordia/index/Program")) (t' := (.array .int)) (by decide) (by decide)))).other W28 (Or.inr (slot_ne (Or.inl (hw _ (List.mem_of_getElem? (i := 183) rfl))) (Or.inl (hw _ (List.mem_of_getElem? (i := 121) rfl))) (by decide) (t := (.object "com/example/concordia/concordia/index/Program")) (t' := .int) (by decide) (by decide)))).ext E30).keep Kc34 (ninS (Nat.ne_of_lt (Nat.lt_of_lt_of_le (f27.wr W28).lt (Nat.le_of_eq g30.symm))) nin0)).other W38 (Or.inr (slot_ne (Or.inl (hw _ (List.mem_of_getElem? (i := 183) rfl))) (Or.inr (hw _ (List.mem_of_getElem? (i := 142) rfl))) (by decide) (t := (.object "com/example/concordia/concordia/index/Program")) (t' := (.object "com/example/concordia/concordia/index/ChildrenByLabel")) (by decide) (by decide)))).ext E40).keep Kc44 (ninS (Nat.ne_of_lt (Nat.lt_of_lt_of_le (f37.wr W38).lt (Nat.le_of_eq g40.symm))) nin0)).other W48 (Or.inr (slot_ne (Or.inl (hw _ (List.mem_of_getElem? (i := 183) rfl))) (Or.inr (hw _ (List.mem_of_getElem? (i := 146) rfl))) (by decide) (t := (.object "com/example/concordia/concordia/index/Program")) (t' := (.object "com/example/concordia/concordia/expr/IntList")) (by decide) (by decide)))).ext E50).other W54 (Or.inr (slot_ne (Or.inl (hw _ (List.mem_of_getElem? (i := 183) rfl))) (Or.inl (hw _ (List.mem_of_getElem? (i := 148) rfl))) (by decide) (t := (.object "com/example/concordia/concordia/index/Program")) (t' := (.array .int)) (by decide) (by decide)))).ext E56).other W60 (Or.inr (slot_ne (Or.inl (hw _ (List.mem_of_getElem? (i := 183) rfl))) (Or.inl (hw _ (List.mem_of_getElem? (i := 150) rfl))) (by decide) (t := (.object "com/example/concordia/concordia/index/Program")) (t' := (.array .int)) (by decide) (by decide)))).ext E62).keep Kc66 (ninS (Nat.ne_of_lt (Nat.lt_of_lt_of_le (f59.wr W60).lt (Nat.le_of_eq g62.symm))) nin0)).other W70 (Or.inr (slot_ne (Or.inl (hw _ (List.mem_of_getElem? (i := 183) rfl))) (Or.inr (hw _ (List.mem_of_getElem? (i := 152) rfl))) (by decide) (t := (.object "com/example/concordia/concordia/index/Program")) (t' := (.object "com/example/concordia/concordia/expr/IntList")) (by decide) (by decide)))).ext E72).keep Kc76 (ninS (Nat.ne_of_lt (Nat.lt_of_lt_of_le (f69.wr W70).lt (Nat.le_of_eq g72.symm))) nin0)).other W80 (Or.inr (slot_ne (Or.inl (hw _ (List.mem_of_getElem? (i := 183) rfl))) (Or.inr (hw _ (List.mem_of_getElem? (i := 154) rfl))) (by decide) (t := (.object "com/example/concordia/concordia/index/Program")) (t' := (.object "com/example/concordia/concordia/expr/IntList")) (by decide) (by decide)))).other W84 (Or.inr (slot_ne (Or.inl (hw _ (List.mem_of_getElem? (i := 183) rfl))) (Or.inr (hw _ (List.mem_of_getElem? (i := 156) rfl))) (by decide) (t := (.object "com/example/concordia/concordia/index/Program")) (t' := (.object "com/example/concordia/concordia/expr/ExpressionStore")) (by decide) (by decide))))
  obtain ⟨fs, hr, hrun, hended, hW, hsame⟩ := X84.leave (v := none) (fun _ => rfl)
  refine ⟨_, _, pre0 _ ?_, hrun, hended, _, _, rfl, ?_, ⟨_, rfl⟩, hW, hsame.mono (by decide) (by decide)⟩
  · show Steps p.tables e below (s₁.setTop (mkF m 0 #[.val (.ref a1), .val (.ref a2)] [])) _
    refine XS.aloadN X0.here hx rfl (hb hby d14_0) rfl rfl ?_
    show Steps p.tables e below (s₁.setTop (mkF m 1 #[.val (.ref a1), .val (.ref a2)] [(.ref a1)])) _
    refine st1.trans ?_
    show Steps p.tables e below (T1.setTop (mkF m 4 #[.val (.ref a1), .val (.ref a2)] [])) _
    refine XS.aloadN X1.here hx rfl (hb hby d14_4) rfl rfl ?_
    show Steps p.tables e below (T1.setTop (mkF m 5 #[.val (.ref a1), .val (.ref a2)] [(.ref a1)])) _
    refine XS.bipush X1.here hx rfl (hb hby d14_5) ?_
    show Steps p.tables e below (T1.setTop (mkF m 7 #[.val (.ref a1), .val (.ref a2)] [(.int (64 : Int32)), (.ref a1)])) _
    refine st2 _ ?_
    show Steps p.tables e below (T2.setTop (mkF m 9 #[.val (.ref a1), .val (.ref a2)] [(.ref b2), (.ref a1)])) _
    refine st6 _ ?_
    show Steps p.tables e below (T6.setTop (mkF m 12 #[.val (.ref a1), .val (.ref a2)] [])) _
    refine XS.aloadN X6.here hx rfl (hb hby d14_12) rfl rfl ?_
    show Steps p.tables e below (T6.setTop (mkF m 13 #[.val (.ref a1), .val (.ref a2)] [(.ref a1)])) _
    refine XS.iconst X6.here hx rfl (hb hby d14_13) ?_
    show Steps p.tables e below (T6.setTop (mkF m 14 #[.val (.ref a1), .val (.ref a2)] [(.int (4 : Int32)), (.ref a1)])) _
    refine st8 _ ?_
    show Steps p.tables e below (T8.setTop (mkF m 16 #[.val (.ref a1), .val (.ref a2)] [(.ref b8), (.ref a1)])) _
    refine XS.dup X8.here hx rfl (hb hby d14_16) rfl rfl ?_
    show Steps p.tables e below (T8.setTop (mkF m 17 #[.val (.ref a1), .val (.ref a2)] [(.ref b8), (.ref b8), (.ref a1)])) _
    refine XS.iconst X8.here hx rfl (hb hby d14_17) ?_
    show Steps p.tables e below (T8.setTop (mkF m 18 #[.val (.ref a1), .val (.ref a2)] [(.int (0 : Int32)), (.ref b8), (.ref b8), (.ref a1)])) _
    refine XS.iconst X8.here hx rfl (hb hby d14_18) ?_
    show Steps p.tables e below (T8.setTop (mkF m 19 #[.val (.ref a1), .val (.ref a2)] [(.int (-1 : Int32)), (.int (0 : Int32)), (.ref b8), (.ref b8), (.ref a1)])) _
    refine st11 _ ?_
    show Steps p.tables e below (T11.setTop (mkF m 20 #[.val (.ref a1), .val (.ref a2)] [(.ref b8), (.ref a1)])) _
    refine XS.dup X11.here hx rfl (hb hby d14_20) rfl rfl ?_
    show Steps p.tables e below (T11.setTop (mkF m 21 #[.val (.ref a1), .val (.ref a2)] [(.ref b8), (.ref b8), (.ref a1)])) _
    refine XS.iconst X11.here hx rfl (hb hby d14_21) ?_
    show Steps p.tables e below (T11.setTop (mkF m 22 #[.val (.ref a1), .val (.ref a2)] [(.int (1 : Int32)), (.ref b8), (.ref b8), (.ref a1)])) _
    refine XS.iconst X11.here hx rfl (hb hby d14_22) ?_
    show Steps p.tables e below (T11.setTop (mkF m 23 #[.val (.ref a1), .val (.ref a2)] [(.int (-1 : Int32)), (.int (1 : Int32)), (.ref b8), (.ref b8), (.ref a1)])) _
    refine st14 _ ?_
    show Steps p.tables e below (T14.setTop (mkF m 24 #[.val (.ref a1), .val (.ref a2)] [(.ref b8), (.ref a1)])) _
    refine XS.dup X14.here hx rfl (hb hby d14_24) rfl rfl ?_
    show Steps p.tables e below (T14.setTop (mkF m 25 #[.val (.ref a1), .val (.ref a2)] [(.ref b8), (.ref b8), (.ref a1)])) _
    refine XS.iconst X14.here hx rfl (hb hby d14_25) ?_
    show Steps p.tables e below (T14.setTop (mkF m 26 #[.val (.ref a1), .val (.ref a2)] [(.int (2 : Int32)), (.ref b8), (.ref b8), (.ref a1)])) _
    refine XS.iconst X14.here hx rfl (hb hby d14_26) ?_
    show Steps p.tables e below (T14.setTop (mkF m 27 #[.val (.ref a1), .val (.ref a2)] [(.int (-1 : Int32)), (.int (2 : Int32)), (.ref b8), (.ref b8), (.ref a1)])) _
    refine st17 _ ?_
    show Steps p.tables e below (T17.setTop (mkF m 28 #[.val (.ref a1), .val (.ref a2)] [(.ref b8), (.ref a1)])) _
    refine XS.dup X17.here hx rfl (hb hby d14_28) rfl rfl ?_
    show Steps p.tables e below (T17.setTop (mkF m 29 #[.val (.ref a1), .val (.ref a2)] [(.ref b8), (.ref b8), (.ref a1)])) _
    refine XS.iconst X17.here hx rfl (hb hby d14_29) ?_
    show Steps p.tables e below (T17.setTop (mkF m 30 #[.val (.ref a1), .val (.ref a2)] [(.int (3 : Int32)), (.ref b8), (.ref b8), (.ref a1)])) _
    refine XS.iconst X17.here hx rfl (hb hby d14_30) ?_
    show Steps p.tables e below (T17.setTop (mkF m 31 #[.val (.ref a1), .val (.ref a2)] [(.int (-1 : Int32)), (.int (3 : Int32)), (.ref b8), (.ref b8), (.ref a1)])) _
    refine st20 _ ?_
    show Steps p.tables e below (T20.setTop (mkF m 32 #[.val (.ref a1), .val (.ref a2)] [(.ref b8), (.ref a1)])) _
    refine st24 _ ?_
    show Steps p.tables e below (T24.setTop (mkF m 35 #[.val (.ref a1), .val (.ref a2)] [])) _
    refine XS.aloadN X24.here hx rfl (hb hby d14_35) rfl rfl ?_
    show Steps p.tables e below (T24.setTop (mkF m 36 #[.val (.ref a1), .val (.ref a2)] [(.ref a1)])) _
    refine XS.sipush X24.here hx rfl (hb hby d14_36) ?_
    show Steps p.tables e below (T24.setTop (mkF m 39 #[.val (.ref a1), .val (.ref a2)] [(.int (1024 : Int32)), (.ref a1)])) _
    refine st28 _ ?_
    show Steps p.tables e below (T28.setTop (mkF m 42 #[.val (.ref a1), .val (.ref a2)] [])) _
    refine XS.aloadN X28.here hx rfl (hb hby d14_42) rfl rfl ?_
    show Steps p.tables e below (T28.setTop (mkF m 43 #[.val (.ref a1), .val (.ref a2)] [(.ref a1)])) _
    refine st30 _ ?_
    show Steps p.tables e below (T30.setTop (mkF m 46 #[.val (.ref a1), .val (.ref a2)] [(.ref b30), (.ref a1)])) _
    refine XS.dup X30.here hx rfl (hb hby d14_46) rfl rfl ?_
    show Steps p.tables e below (T30.setTop (mkF m 47 #[.val (.ref a1), .val (.ref a2)] [(.ref b30), (.ref b30), (.ref a1)])) _
    refine st34.trans ?_
    show Steps p.tables e below (T34.setTop (mkF m 50 #[.val (.ref a1), .val (.ref a2)] [(.ref b30), (.ref a1)])) _
    refine st38 _ ?_
    show Steps p.tables e below (T38.setTop (mkF m 53 #[.val (.ref a1), .val (.ref a2)] [])) _
    refine XS.aloadN X38.here hx rfl (hb hby d14_53) rfl rfl ?_
    show Steps p.tables e below (T38.setTop (mkF m 54 #[.val (.ref a1), .val (.ref a2)] [(.ref a1)])) _
    refine st40 _ ?_
    show Steps p.tables e below (T40.setTop (mkF m 57 #[.val (.ref a1), .val (.ref a2)] [(.ref b40), (.ref a1)])) _
    refine XS.dup X40.here hx rfl (hb hby d14_57) rfl rfl ?_
    show Steps p.tables e below (T40.setTop (mkF m 58 #[.val (.ref a1), .val (.ref a2)] [(.ref b40), (.ref b40), (.ref a1)])) _
    refine st44.trans ?_
    show Steps p.tables e below (T44.setTop (mkF m 61 #[.val (.ref a1), .val (.ref a2)] [(.ref b40), (.ref a1)])) _
    refine st48 _ ?_
    show Steps p.tables e below (T48.setTop (mkF m 64 #[.val (.ref a1), .val (.ref a2)] [])) _
    refine XS.aloadN X48.here hx rfl (hb hby d14_64) rfl rfl ?_
    show Steps p.tables e below (T48.setTop (mkF m 65 #[.val (.ref a1), .val (.ref a2)] [(.ref a1)])) _
    refine XS.bipush X48.here hx rfl (hb hby d14_65) ?_
    show Steps p.tables e below (T48.setTop (mkF m 67 #[.val (.ref a1), .val (.ref a2)] [(.int (16 : Int32)), (.ref a1)])) _
    refine st50 _ ?_
    show Steps p.tables e below (T50.setTop (mkF m 69 #[.val (.ref a1), .val (.ref a2)] [(.ref b50), (.ref a1)])) _
    refine st54 _ ?_
    show Steps p.tables e below (T54.setTop (mkF m 72 #[.val (.ref a1), .val (.ref a2)] [])) _
    refine XS.aloadN X54.here hx rfl (hb hby d14_72) rfl rfl ?_
    show Steps p.tables e below (T54.setTop (mkF m 73 #[.val (.ref a1), .val (.ref a2)] [(.ref a1)])) _
    refine XS.bipush X54.here hx rfl (hb hby d14_73) ?_
    show Steps p.tables e below (T54.setTop (mkF m 75 #[.val (.ref a1), .val (.ref a2)] [(.int (16 : Int32)), (.ref a1)])) _
    refine st56 _ ?_
    show Steps p.tables e below (T56.setTop (mkF m 77 #[.val (.ref a1), .val (.ref a2)] [(.ref b56), (.ref a1)])) _
    refine st60 _ ?_
    show Steps p.tables e below (T60.setTop (mkF m 80 #[.val (.ref a1), .val (.ref a2)] [])) _
    refine XS.aloadN X60.here hx rfl (hb hby d14_80) rfl rfl ?_
    show Steps p.tables e below (T60.setTop (mkF m 81 #[.val (.ref a1), .val (.ref a2)] [(.ref a1)])) _
    refine st62 _ ?_
    show Steps p.tables e below (T62.setTop (mkF m 84 #[.val (.ref a1), .val (.ref a2)] [(.ref b62), (.ref a1)])) _
    refine XS.dup X62.here hx rfl (hb hby d14_84) rfl rfl ?_
    show Steps p.tables e below (T62.setTop (mkF m 85 #[.val (.ref a1), .val (.ref a2)] [(.ref b62), (.ref b62), (.ref a1)])) _
    refine st66.trans ?_
    show Steps p.tables e below (T66.setTop (mkF m 88 #[.val (.ref a1), .val (.ref a2)] [(.ref b62), (.ref a1)])) _
    refine st70 _ ?_
    show Steps p.tables e below (T70.setTop (mkF m 91 #[.val (.ref a1), .val (.ref a2)] [])) _
    refine XS.aloadN X70.here hx rfl (hb hby d14_91) rfl rfl ?_
    show Steps p.tables e below (T70.setTop (mkF m 92 #[.val (.ref a1), .val (.ref a2)] [(.ref a1)])) _
    refine st72 _ ?_
    show Steps p.tables e below (T72.setTop (mkF m 95 #[.val (.ref a1), .val (.ref a2)] [(.ref b72), (.ref a1)])) _
    refine XS.dup X72.here hx rfl (hb hby d14_95) rfl rfl ?_
    show Steps p.tables e below (T72.setTop (mkF m 96 #[.val (.ref a1), .val (.ref a2)] [(.ref b72), (.ref b72), (.ref a1)])) _
    refine st76.trans ?_
    show Steps p.tables e below (T76.setTop (mkF m 99 #[.val (.ref a1), .val (.ref a2)] [(.ref b72), (.ref a1)])) _
    refine st80 _ ?_
    show Steps p.tables e below (T80.setTop (mkF m 102 #[.val (.ref a1), .val (.ref a2)] [])) _
    refine XS.aloadN X80.here hx rfl (hb hby d14_102) rfl rfl ?_
    show Steps p.tables e below (T80.setTop (mkF m 103 #[.val (.ref a1), .val (.ref a2)] [(.ref a1)])) _
    refine XS.aloadN X80.here hx rfl (hb hby d14_103) rfl rfl ?_
    show Steps p.tables e below (T80.setTop (mkF m 104 #[.val (.ref a1), .val (.ref a2)] [(.ref a2), (.ref a1)])) _
    refine st84 _ ?_
    show Steps p.tables e below (T84.setTop (mkF m 107 #[.val (.ref a1), .val (.ref a2)] [])) _
    exact X84.returnOut hx Bd.returns (hb hby d14_107) hr
  · show Q_rm_LK Z a1 a2 v1 v2 v3 v4 v5 v6 v7 v8 v9 v10 v11 v12 h0 n0 _ T84.heap _
    rw [e84]
    exact ⟨b2, b8, k8, rfl, N84, K85, gzb2, gzb8, (Nat.ne_of_lt (Nat.lt_of_lt_of_le (f2.wr W6).lt (Nat.le_of_eq g8.symm))), f86, f87, f88, f89, f90, f91, f92, f93⟩
theorem d19_0 : decode prog_46_method_1_code 0 = .ok (.aload_n 0, 1) := by decide +kernel
theorem d19_1 : decode prog_46_method_1_code 1 = .ok (.invokespecial 1, 3) := by decide +kernel
theorem d19_4 : decode prog_46_method_1_code 4 = .ok (.aload_n 0, 1) := by decide +kernel
theorem d19_5 : decode prog_46_method_1_code 5 = .ok (.new 7, 3) := by decide +kernel
theorem d19_8 : decode prog_46_method_1_code 8 = .ok (.dup, 1) := by decide +kernel
theorem d19_9 : decode prog_46_method_1_code 9 = .ok (.invokespecial 9, 3) := by decide +kernel
theorem d19_12 : decode prog_46_method_1_code 12 = .ok (.putfield 10, 3) := by decide +kernel
theorem d19_15 : decode prog_46_method_1_code 15 = .ok (.aload_n 0, 1) := by decide +kernel
theorem d19_16 : decode prog_46_method_1_code 16 = .ok (.new 7, 3) := by decide +kernel
theorem d19_19 : decode prog_46_method_1_code 19 = .ok (.dup, 1) := by decide +kernel
theorem d19_20 : decode prog_46_method_1_code 20 = .ok (.invokespecial 9, 3) := by decide +kernel
theorem d19_23 : decode prog_46_method_1_code 23 = .ok (.putfield 16, 3) := by decide +kernel
theorem d19_26 : decode prog_46_method_1_code 26 = .ok (.aload_n 0, 1) := by decide +kernel
theorem d19_27 : decode prog_46_method_1_code 27 = .ok (.new 7, 3) := by decide +kernel
theorem d19_30 : decode prog_46_method_1_code 30 = .ok (.dup, 1) := by decide +kernel
theorem d19_31 : decode prog_46_method_1_code 31 = .ok (.invokespecial 9, 3) := by decide +kernel
theorem d19_34 : decode prog_46_method_1_code 34 = .ok (.putfield 19, 3) := by decide +kernel
theorem d19_37 : decode prog_46_method_1_code 37 = .ok (.return_, 1) := by decide +kernel
theorem pn_com_example_concordia_concordia_index_Program : plainName "com/example/concordia/concordia/index/Program" = true := by first | (simp [plainName, overriddenIn]; done) | decide +kernel
theorem ef_rm_PG (m : MethodId) (x0 : Addr) : entryFrame m #[(.ref x0)] 1 = mkF m 0 #[.val (.ref x0)] [] := by first | (simp [entryFrame, mkF, argsToLocals, Value.category]; done) | rfl
def Q_rm_PG (Z : State) (a1 : Addr) (v1 : Value) (v2 : Value) (v3 : Value) (h0 : Heap) (n0 : Nat) (v : Option Value) (h : Heap) (L : List Loc) : Prop := ∃ il : Addr, v = none ∧ Fr n0 L ∧ Keep h0 h [a1] ∧ (h0.size ≤ il) ∧ (Fld Z h a1 "com/example/concordia/concordia/index/Program" "instructions" "Lcom/example/concordia/concordia/expr/IntList;" (.ref il)) ∧ (Fld Z h a1 "com/example/concordia/concordia/index/Program" "lastLiteralFrom" "I" (.int (0 : Int32))) ∧ (Exa Z h il "com/example/concordia/concordia/expr/IntList") ∧ (Fld Z h il "com/example/concordia/concordia/expr/IntList" "size" "I" (.int (0 : Int32)))
set_option maxRecDepth 65536 in
set_option maxHeartbeats 40000000 in
theorem rm_PG (l : Launch) (Z : State) (a0 : Array Value) (hw : ∀ d ∈ tables_1, d.before a0 Z = true) (ws : List Jvm.Cond) (a1 : Addr) (v1 : Value) (v2 : Value) (v3 : Value) (h0 : Heap) (n0 : Nat) (Z0 : n0 ≤ h0.size) (pr0 : Exa Z h0 a1 "com/example/concordia/concordia/index/Program") (pr1 : Fld Z h0 a1 "com/example/concordia/concordia/index/Program" "instructions" "Lcom/example/concordia/concordia/expr/IntList;" v1) (pr2 : Fld Z h0 a1 "com/example/concordia/concordia/index/Program" "registersBefore" "Lcom/example/concordia/concordia/expr/IntList;" v2) (pr3 : Fld Z h0 a1 "com/example/concordia/concordia/index/Program" "openBefore" "Lcom/example/concordia/concordia/expr/IntList;" v3) (pr4 : Fld Z h0 a1 "com/example/concordia/concordia/index/Program" "lastLiteralFrom" "I" (.int (0 : Int32))) (pr5 : n0 ≤ a1) :
    MetFree l (⟨"com/example/concordia/concordia/index/Program", "<init>", "()V"⟩ : MethodName) (head1 (Jvm.Cond.code (⟨"com/example/concordia/concordia/index/Program", "<init>", "()V"⟩ : MethodName) prog_46_method_1_code 1 none :: ws) ({ frames := 2, cells := 6, slots := 54, locals := 26 } : Room)) (fun a U => a = #[(.ref a1)] ∧ Z.Warmed39 U.vm ∧ U.heap = h0) (fun _ _ _ _ _ => True) (fun _ U o U' => ∃ v L, o = .returned v ∧ Q_rm_PG Z a1 v1 v2 v3 h0 n0 v U'.heap L ∧ FrameEnd U o U' L ({ frames := 2, cells := 6, slots := 54, locals := 26 } : Room).cells ({ frames := 2, cells := 6, slots := 54, locals := 26 } : Room).slots) := by
  refine MetFree.of_bodySF (plainFor_of_name pn_com_example_concordia_concordia_index_Program) hisR ?_
  intro p e s m args below meth c s₁ Bd hml0 hP hK
  obtain ⟨rfl, hZ, hh⟩ := hP
  have hx := Bd.exec
  have hby := Bd.bytes
  have hml : c.maxLocals = 1 := hml0
  have hown : s.vm.findClass "com/example/concordia/concordia/index/Program" = some m.cls := findClass_of_methodNamed Bd.named
  have hnm := (name_of_methodNamed Bd.named Bd.method).1
  have X0 : Stand p l e ({ frames := 2, cells := 6, slots := 54, locals := 26 } : Room) s m #[(.ref a1)] below meth c s₁ [] 0 0 := Stand.of_body Bd
  have e0 : s₁.heap = h0 := by rw [← hh, Bd.state]; rfl
  have N0 := Fr.nil n0
  have pre0 : ∀ t, Steps p.tables e below (s₁.setTop (mkF m 0 #[.val (.ref a1)] [])) t → Steps p.tables e below (s₁.setTop (entryFrame m #[(.ref a1)] 1)) t := fun t k => castTop (ef_rm_PG m a1) k
  obtain ⟨T1, X1, e1, st1⟩ := initO X0 hx hZ hown (hw _ (List.mem_of_getElem? (i := 163) rfl)) (hw _ (List.mem_of_getElem? (i := 10) rfl)) (hw _ (List.mem_of_getElem? (i := 11) rfl)) e0 (g := (mkF m 1 #[.val (.ref a1)] [(.ref a1)])) rfl (by rw [hml]; rfl) rfl (hb hby d19_1) (by decide) (W := 0) (by show 2 * 0 + _ ≤ _; exact Nat.le_of_eq rfl) (by decide)
  obtain ⟨T2, h2, X2, e2, E2, A2, D2, -, st2⟩ := newO X1 hx hZ hown (hw _ (List.mem_of_getElem? (i := 164) rfl)) (hw _ (List.mem_of_getElem? (i := 64) rfl)) (hw _ (List.mem_of_getElem? (i := 65) rfl)) e1 (g := (mkF m 5 #[.val (.ref a1)] [(.ref a1)])) rfl (hb hby d19_5) (by decide) (by decide)
  obtain ⟨b2, g2⟩ : ∃ z, z = h0.size := ⟨_, rfl⟩
  rw [← g2] at A2 D2 st2
  have gnb2 : n0 ≤ b2 := Nat.le_trans (Nat.le_trans Z0 (Keep.refl h0 [a1]).1) (Nat.le_of_eq g2.symm)
  have gzb2 : h0.size ≤ b2 := Nat.le_trans (Keep.refl h0 [a1]).1 (Nat.le_of_eq g2.symm)
  have K3 : Keep h0 h2 [a1] := (Keep.refl h0 [a1]).ext E2
  have f4 : Fld Z h2 b2 "com/example/concordia/concordia/expr/IntList" "values" "[I" .null := D2 (Or.inl (hw _ (List.mem_of_getElem? (i := 72) rfl))) (ty := (.array .int)) (by decide)
  have f5 : Fld Z h2 b2 "com/example/concordia/concordia/expr/IntList" "size" "I" (.int (0 : Int32)) := D2 (Or.inl (hw _ (List.mem_of_getElem? (i := 212) rfl))) (ty := .int) (by decide)
  obtain ⟨_, _, ⟨T6, L6, k6, n6⟩, -, X6, ⟨Lc6, hQ6, l6, y6, z6⟩, st6⟩ := X2.specialBack hx (y := (⟨"com/example/concordia/concordia/expr/IntList", "<init>", "()V"⟩ : MethodName)) rfl hown (mvT hZ (hw _ (List.mem_of_getElem? (i := 165) rfl))) (mvT hZ (hw _ (List.mem_of_getElem? (i := 67) rfl))) (mvT hZ (hw _ (List.mem_of_getElem? (i := 68) rfl))) (by decide) (backOf (W := 2) (rm_IL l Z a0 hw [] b2 .null h2 n0 (Nat.le_trans Z0 K3.1) A2 f4 f5 gnb2) hZ (hw _ (List.mem_of_getElem? (i := 68) rfl)) (hw _ (List.mem_of_getElem? (i := 65) rfl)) (by decide) (by decide)) (g := (mkF m 9 #[.val (.ref a1)] [(.ref b2), (.ref b2), (.ref a1)])) rfl (by rw [hml]; rfl) (Steps.refl _) (a := b2) (argsL := []) (rest := [(.ref b2), (.ref a1)]) (lenOf pd__40_41V rfl) rfl (by show 2 * 0 + _ ≤ _; exact Nat.le_of_eq rfl) (hb hby d19_9) (fun _ _ => ⟨rfl, e2, (by decide : 1 + 1 ≤ _), (by decide : 2 + 16 ≤ _)⟩)
  dsimp only [Pt.U, Pt.locs, Pt.cells, Pt.slots] at X6 l6 y6 z6 st6 hQ6
  subst l6 y6 z6
  obtain ⟨rfl, Nq6, Kc6, p6_0⟩ := hQ6
  have K7 : Keep h0 T6.heap [a1] := K3.trans Kc6 (allS (Or.inr gzb2) all0)
  have N6 := Fr.app N0 Nq6
  have f8 : Fld Z T6.heap a1 "com/example/concordia/concordia/index/Program" "instructions" "Lcom/example/concordia/concordia/expr/IntList;" v1 := ((pr1.ext E2).keep Kc6 (ninS (Nat.ne_of_lt (Nat.lt_of_lt_of_le pr0.lt (Nat.le_of_eq g2.symm))) nin0))
  have f9 : Exa Z T6.heap a1 "com/example/concordia/concordia/index/Program" := ((pr0.ext E2).keep Kc6)
  obtain ⟨T10, h10, X10, e10, W10, st10⟩ := putF X6 hx hZ hown (host := "") (Or.inl (hw _ (List.mem_of_getElem? (i := 166) rfl))) Via.refl rfl f8 f9 (Or.inr ⟨(hw _ (List.mem_of_getElem? (i := 167) rfl)), rfl, hnm⟩) (hw _ (List.mem_of_getElem? (i := 158) rfl)) (ty := (.object "com/example/concordia/concordia/expr/IntList")) (by decide) rfl rfl (g := (mkF m 12 #[.val (.ref a1)] [(.ref b2), (.ref a1)])) rfl rfl (hb hby d19_12)
  have N10 := Fr.snoc X10 N6 pr5
  have f10 : Fld Z h10 a1 "com/example/concordia/concordia/index/Program" "instructions" "Lcom/example/concordia/concordia/expr/IntList;" (.ref b2) := f8.same W10
  have K11 : Keep h0 h10 [a1] := K7.wr W10 (Or.inl (List.mem_of_getElem? (i := 0) rfl))
  obtain ⟨T12, h12, X12, e12, E12, A12, D12, -, st12⟩ := newO X10 hx hZ hown (hw _ (List.mem_of_getElem? (i := 164) rfl)) (hw _ (List.mem_of_getElem? (i := 64) rfl)) (hw _ (List.mem_of_getElem? (i := 65) rfl)) e10 (g := (mkF m 16 #[.val (.ref a1)] [(.ref a1)])) rfl (hb hby d19_16) (by decide) (by decide)
  obtain ⟨b12, g12⟩ : ∃ z, z = h10.size := ⟨_, rfl⟩
  rw [← g12] at A12 D12 st12
  have gnb12 : n0 ≤ b12 := Nat.le_trans (Nat.le_trans Z0 K11.1) (Nat.le_of_eq g12.symm)
  have gzb12 : h0.size ≤ b12 := Nat.le_trans K11.1 (Nat.le_of_eq g12.symm)
  have K13 : Keep h0 h12 [a1] := K11.ext E12
  have f14 : Fld Z h12 b12 "com/example/concordia/concordia/expr/IntList" "values" "[I" .null := D12 (Or.inl (hw _ (List.mem_of_getElem? (i := 72) rfl))) (ty := (.array .int)) (by decide)
  have f15 : Fld Z h12 b12 "com/example/concordia/concordia/expr/IntList" "size" "I" (.int (0 : Int32)) := D12 (Or.inl (hw _ (List.mem_of_getElem? (i := 212) rfl))) (ty := .int) (by decide)
  obtain ⟨_, _, ⟨T16, L16, k16, n16⟩, -, X16, ⟨Lc16, hQ16, l16, y16, z16⟩, st16⟩ := X12.specialBack hx (y := (⟨"com/example/concordia/concordia/expr/IntList", "<init>", "()V"⟩ : MethodName)) rfl hown (mvT hZ (hw _ (List.mem_of_getElem? (i := 165) rfl))) (mvT hZ (hw _ (List.mem_of_getElem? (i := 67) rfl))) (mvT hZ (hw _ (List.mem_of_getElem? (i := 68) rfl))) (by decide) (backOf (W := 2) (rm_IL l Z a0 hw [] b12 .null h12 n0 (Nat.le_trans Z0 K13.1) A12 f14 f15 gnb12) hZ (hw _ (List.mem_of_getElem? (i := 68) rfl)) (hw _ (List.mem_of_getElem? (i := 65) rfl)) (by decide) (by decide)) (g := (mkF m 20 #[.val (.ref a1)] [(.ref b12), (.ref b12), (.ref a1)])) rfl (by rw [hml]; rfl) (Steps.refl _) (a := b12) (argsL := []) (rest := [(.ref b12), (.ref a1)]) (lenOf pd__40_41V rfl) rfl (by show 2 * 0 + _ ≤ _; exact Nat.le_of_eq rfl) (hb hby d19_20) (fun _ _ => ⟨rfl, e12, (by decide : 3 + 1 ≤ _), (by decide : 20 + 16 ≤ _)⟩)
  dsimp only [Pt.U, Pt.locs, Pt.cells, Pt.slots] at X16 l16 y16 z16 st16 hQ16
  subst l16 y16 z16
  obtain ⟨rfl, Nq16, Kc16, p16_0⟩ := hQ16
  have K17 : Keep h0 T16.heap [a1] := K13.trans Kc16 (allS (Or.inr gzb12) all0)
  have N16 := Fr.app N10 Nq16
  have f18 : Fld Z T16.heap a1 "com/example/concordia/concordia/index/Program" "registersBefore" "Lcom/example/concordia/concordia/expr/IntList;" v2 := (((((pr2.ext E2).keep Kc6 (ninS (Nat.ne_of_lt (Nat.lt_of_lt_of_le pr0.lt (Nat.le_of_eq g2.symm))) nin0)).other W10 (Or.inr (slot_ne (Or.inr (hw _ (List.mem_of_getElem? (i := 169) rfl))) (Or.inr (hw _ (List.mem_of_getElem? (i := 167) rfl))) (by decide) (t := (.object "com/example/concordia/concordia/expr/IntList")) (t' := (.object "com/example/concordia/concordia/expr/IntList")) (by decide) (by decide)))).ext E12).keep Kc16 (ninS (Nat.ne_of_lt (Nat.lt_of_lt_of_le (f9.wr W10).lt (Nat.le_of_eq g12.symm))) nin0))
  have f19 : Exa Z T16.heap a1 "com/example/concordia/concordia/index/Program" := (((f9.wr W10).ext E12).keep Kc16)
  obtain ⟨T20, h20, X20, e20, W20, st20⟩ := putF X16 hx hZ hown (host := "") (Or.inl (hw _ (List.mem_of_getElem? (i := 168) rfl))) Via.refl rfl f18 f19 (Or.inr ⟨(hw _ (List.mem_of_getElem? (i := 169) rfl)), rfl, hnm⟩) (hw _ (List.mem_of_getElem? (i := 158) rfl)) (ty := (.object "com/example/concordia/concordia/expr/IntList")) (by decide) rfl rfl (g := (mkF m 23 #[.val (.ref a1)] [(.ref b12), (.ref a1)])) rfl rfl (hb hby d19_23)
  have N20 := Fr.snoc X20 N16 pr5
  have f20 : Fld Z h20 a1 "com/example/concordia/concordia/index/Program" "registersBefore" "Lcom/example/concordia/concordia/expr/IntList;" (.ref b12) := f18.same W20
  have K21 : Keep h0 h20 [a1] := K17.wr W20 (Or.inl (List.mem_of_getElem? (i := 0) rfl))
  obtain ⟨T22, h22, X22, e22, E22, A22, D22, -, st22⟩ := newO X20 hx hZ hown (hw _ (List.mem_of_getElem? (i := 164) rfl)) (hw _ (List.mem_of_getElem? (i := 64) rfl)) (hw _ (List.mem_of_getElem? (i := 65) rfl)) e20 (g := (mkF m 27 #[.val (.ref a1)] [(.ref a1)])) rfl (hb hby d19_27) (by decide) (by decide)
  obtain ⟨b22, g22⟩ : ∃ z, z = h20.size := ⟨_, rfl⟩
  rw [← g22] at A22 D22 st22
  have gnb22 : n0 ≤ b22 := Nat.le_trans (Nat.le_trans Z0 K21.1) (Nat.le_of_eq g22.symm)
  have gzb22 : h0.size ≤ b22 := Nat.le_trans K21.1 (Nat.le_of_eq g22.symm)
  have K23 : Keep h0 h22 [a1] := K21.ext E22
  have f24 : Fld Z h22 b22 "com/example/concordia/concordia/expr/IntList" "values" "[I" .null := D22 (Or.inl (hw _ (List.mem_of_getElem? (i := 72) rfl))) (ty := (.array .int)) (by decide)
  have f25 : Fld Z h22 b22 "com/example/concordia/concordia/expr/IntList" "size" "I" (.int (0 : Int32)) := D22 (Or.inl (hw _ (List.mem_of_getElem? (i := 212) rfl))) (ty := .int) (by decide)
  obtain ⟨_, _, ⟨T26, L26, k26, n26⟩, -, X26, ⟨Lc26, hQ26, l26, y26, z26⟩, st26⟩ := X22.specialBack hx (y := (⟨"com/example/concordia/concordia/expr/IntList", "<init>", "()V"⟩ : MethodName)) rfl hown (mvT hZ (hw _ (List.mem_of_getElem? (i := 165) rfl))) (mvT hZ (hw _ (List.mem_of_getElem? (i := 67) rfl))) (mvT hZ (hw _ (List.mem_of_getElem? (i := 68) rfl))) (by decide) (backOf (W := 2) (rm_IL l Z a0 hw [] b22 .null h22 n0 (Nat.le_trans Z0 K23.1) A22 f24 f25 gnb22) hZ (hw _ (List.mem_of_getElem? (i := 68) rfl)) (hw _ (List.mem_of_getElem? (i := 65) rfl)) (by decide) (by decide)) (g := (mkF m 31 #[.val (.ref a1)] [(.ref b22), (.ref b22), (.ref a1)])) rfl (by rw [hml]; rfl) (Steps.refl _) (a := b22) (argsL := []) (rest := [(.ref b22), (.ref a1)]) (lenOf pd__40_41V rfl) rfl (by show 2 * 0 + _ ≤ _; exact Nat.le_of_eq rfl) (hb hby d19_31) (fun _ _ => ⟨rfl, e22, (by decide : 5 + 1 ≤ _), (by decide : 38 + 16 ≤ _)⟩)
  dsimp only [Pt.U, Pt.locs, Pt.cells, Pt.slots] at X26 l26 y26 z26 st26 hQ26
  subst l26 y26 z26
  obtain ⟨rfl, Nq26, Kc26, p26_0⟩ := hQ26
  have K27 : Keep h0 T26.heap [a1] := K23.trans Kc26 (allS (Or.inr gzb22) all0)
  have N26 := Fr.app N20 Nq26
  have f28 : Fld Z T26.heap a1 "com/example/concordia/concordia/index/Program" "openBefore" "Lcom/example/concordia/concordia/expr/IntList;" v3 := ((((((((pr3.ext E2).keep Kc6 (ninS (Nat.ne_of_lt (Nat.lt_of_lt_of_le pr0.lt (Nat.le_of_eq g2.symm))) nin0)).other W10 (Or.inr (slot_ne (Or.inr (hw _ (List.mem_of_getElem? (i := 171) rfl))) (Or.inr (hw _ (List.mem_of_getElem? (i := 167) rfl))) (by decide) (t := (.object "com/example/concordia/concordia/expr/IntList")) (t' := (.object "com/example/concordia/concordia/expr/IntList")) (by decide) (by decide)))).ext E12).keep Kc16 (ninS (Nat.ne_of_lt (Nat.lt_of_lt_of_le (f9.wr W10).lt (Nat.le_of_eq g12.symm))) nin0)).other W20 (Or.inr (slot_ne (Or.inr (hw _ (List.mem_of_getElem? (i := 171) rfl))) (Or.inr (hw _ (List.mem_of_getElem? (i := 169) rfl))) (by decide) (t := (.object "com/example/concordia/concordia/expr/IntList")) (t' := (.object "com/example/concordia/concordia/expr/IntList")) (by decide) (by decide)))).ext E22).keep Kc26 (ninS (Nat.ne_of_lt (Nat.lt_of_lt_of_le (f19.wr W20).lt (Nat.le_of_eq g22.symm))) nin0))
  have f29 : Exa Z T26.heap a1 "com/example/concordia/concordia/index/Program" := (((f19.wr W20).ext E22).keep Kc26)
  obtain ⟨T30, h30, X30, e30, W30, st30⟩ := putF X26 hx hZ hown (host := "") (Or.inl (hw _ (List.mem_of_getElem? (i := 170) rfl))) Via.refl rfl f28 f29 (Or.inr ⟨(hw _ (List.mem_of_getElem? (i := 171) rfl)), rfl, hnm⟩) (hw _ (List.mem_of_getElem? (i := 158) rfl)) (ty := (.object "com/example/concordia/concordia/expr/IntList")) (by decide) rfl rfl (g := (mkF m 34 #[.val (.ref a1)] [(.ref b22), (.ref a1)])) rfl rfl (hb hby d19_34)
  have N30 := Fr.snoc X30 N26 pr5
  have f30 : Fld Z h30 a1 "com/example/concordia/concordia/index/Program" "openBefore" "Lcom/example/concordia/concordia/expr/IntList;" (.ref b22) := f28.same W30
  have K31 : Keep h0 h30 [a1] := K27.wr W30 (Or.inl (List.mem_of_getElem? (i := 0) rfl))
  have f32 : Fld Z h30 a1 "com/example/concordia/concordia/index/Program" "instructions" "Lcom/example/concordia/concordia/expr/IntList;" (.ref b2) := ((((((f10.ext E12).keep Kc16 (ninS (Nat.ne_of_lt (Nat.lt_of_lt_of_le (f9.wr W10).lt (Nat.le_of_eq g12.symm))) nin0)).other W20 (Or.inr (slot_ne (Or.inr (hw _ (List.mem_of_getElem? (i := 167) rfl))) (Or.inr (hw _ (List.mem_of_getElem? (i := 169) rfl))) (by decide) (t := (.object "com/example/concordia/concordia/expr/IntList")) (t' := (.object "com/example/concordia/concordia/expr/IntList")) (by decide) (by decide)))).ext E22).keep Kc26 (ninS (Nat.ne_of_lt (Nat.lt_of_lt_of_le (f19.wr W20).lt (Nat.le_of_eq g22.symm))) nin0)).other W30 (Or.inr (slot_ne (Or.inr (hw _ (List.mem_of_getElem? (i := 167) rfl))) (Or.inr (hw _ (List.mem_of_getElem? (i := 171) rfl))) (by decide) (t := (.object "com/example/concordia/concordia/expr/IntList")) (t' := (.object "com/example/concordia/concordia/expr/IntList")) (by decide) (by decide))))
  have f33 : Fld Z h30 a1 "com/example/concordia/concordia/index/Program" "lastLiteralFrom" "I" (.int (0 : Int32)) := (((((((((pr4.ext E2).keep Kc6 (ninS (Nat.ne_of_lt (Nat.lt_of_lt_of_le pr0.lt (Nat.le_of_eq g2.symm))) nin0)).other W10 (Or.inr (slot_ne (Or.inl (hw _ (List.mem_of_getElem? (i := 196) rfl))) (Or.inr (hw _ (List.mem_of_getElem? (i := 167) rfl))) (by decide) (t := .int) (t' := (.object "com/example/concordia/concordia/expr/IntList")) (by decide) (by decide)))).ext E12).keep Kc16 (ninS (Nat.ne_of_lt (Nat.lt_of_lt_of_le (f9.wr W10).lt (Nat.le_of_eq g12.symm))) nin0)).other W20 (Or.inr (slot_ne (Or.inl (hw _ (List.mem_of_getElem? (i := 196) rfl))) (Or.inr (hw _ (List.mem_of_getElem? (i := 169) rfl))) (by decide) (t := .int) (t' := (.object "com/example/concordia/concordia/expr/IntList")) (by decide) (by decide)))).ext E22).keep Kc26 (ninS (Nat.ne_of_lt (Nat.lt_of_lt_of_le (f19.wr W20).lt (Nat.le_of_eq g22.symm))) nin0)).other W30 (Or.inr (slot_ne (Or.inl (hw _ (List.mem_of_getElem? (i := 196) rfl))) (Or.inr (hw _ (List.mem_of_getElem? (i := 171) rfl))) (by decide) (t := .int) (t' := (.object "com/example/concordia/concordia/expr/IntList")) (by decide) (by decide))))
  have f34 : Exa Z h30 b2 "com/example/concordia/concordia/expr/IntList" := ((((((((A2.keep Kc6).wr W10).ext E12).keep Kc16).wr W20).ext E22).keep Kc26).wr W30)
  have f35 : Fld Z h30 b2 "com/example/concordia/concordia/expr/IntList" "size" "I" (.int (0 : Int32)) := (((((((p6_0.other W10 (Or.inl (Ne.symm (Nat.ne_of_lt (Nat.lt_of_lt_of_le pr0.lt (Nat.le_of_eq g2.symm)))))).ext E12).keep Kc16 (ninS (Nat.ne_of_lt (Nat.lt_of_lt_of_le ((A2.keep Kc6).wr W10).lt (Nat.le_of_eq g12.symm))) nin0)).other W20 (Or.inl (Ne.symm (Nat.ne_of_lt (Nat.lt_of_lt_of_le pr0.lt (Nat.le_of_eq g2.symm)))))).ext E22).keep Kc26 (ninS (Nat.ne_of_lt (Nat.lt_of_lt_of_le (((((A2.keep Kc6).wr W10).ext E12).keep Kc16).wr W20).lt (Nat.le_of_eq g22.symm))) nin0)).other W30 (Or.inl (Ne.symm (Nat.ne_of_lt (Nat.lt_of_lt_of_le pr0.lt (Nat.le_of_eq g2.symm))))))
  have f32 : Fld Z h30 a1 "com/example/concordia/concordia/index/Program" "instructions" "Lcom/example/concordia/concordia/expr/IntList;" (.ref b2) := ((((((f10.ext E12).keep Kc16 (ninS (Nat.ne_of_lt (Nat.lt_of_lt_of_le (f9.wr W10).lt (Nat.le_of_eq g12.symm))) nin0)).other W20 (Or.inr (slot_ne (Or.inr (hw _ (List.mem_of_getElem? (i := 167) rfl))) (Or.inr (hw _ (List.mem_of_getElem? (i := 169) rfl))) (by decide) (t := (.object "com/example/concordia/concordia/expr/IntList")) (t' := (.object "com/example/concordia/concordia/expr/IntList")) (by decide) (by decide)))).ext E22).keep Kc26 (ninS (Nat.ne_of_lt (Nat.lt_of_lt_of_le (f19.wr W20).lt (Nat.le_of_eq g22.symm))) nin0)).other W30 (Or.inr (slot_ne (Or.inr (hw _ (List.mem_of_getElem? (i := 167) rfl))) (Or.inr (hw _ (List.mem_of_getElem? (i := 171) rfl))) (by decide) (t := (.object "com/example/concordia/concordia/expr/IntList")) (t' := (.object "com/example/concordia/concordia/expr/IntList")) (by decide) (by decide))))
  have f33 : Fld Z h30 a1 "com/example/concordia/concordia/index/Program" "lastLiteralFrom" "I" (.int (0 : Int32)) := (((((((((pr4.ext E2).keep Kc6 (ninS (Nat.ne_of_lt (Nat.lt_of_lt_of_le pr0.lt (Nat.le_of_eq g2.symm))) nin0)).other W10 (Or.inr (slot_ne (Or.inl (hw _ (List.mem_of_getElem? (i := 196) rfl))) (Or.inr (hw _ (List.mem_of_getElem? (i := 167) rfl))) (by decide) (t := .int) (t' := (.object "com/example/concordia/concordia/expr/IntList")) (by decide) (by decide)))).ext E12).keep Kc16 (ninS (Nat.ne_of_lt (Nat.lt_of_lt_of_le (f9.wr W10).lt (Nat.le_of_eq g12.symm))) nin0)).other W20 (Or.inr (slot_ne (Or.inl (hw _ (List.mem_of_getElem? (i := 196) rfl))) (Or.inr (hw _ (List.mem_of_getElem? (i := 169) rfl))) (by decide) (t := .int) (t' := (.object "com/example/concordia/concordia/expr/IntList")) (by decide) (by decide)))).ext E22).keep Kc26 (ninS (Nat.ne_of_lt (Nat.lt_of_lt_of_le (f19.wr W20).lt (Nat.le_of_eq g22.symm))) nin0)).other W30 (Or.inr (slot_ne (Or.inl (hw _ (List.mem_of_getElem? (i := 196) rfl))) (Or.inr (hw _ (List.mem_of_getElem? (i := 171) rfl))) (by decide) (t := .int) (t' := (.object "com/example/concordia/concordia/expr/IntList")) (by decide) (by decide))))
  have f34 : Exa Z h30 b2 "com/example/concordia/concordia/expr/IntList" := ((((((((A2.keep Kc6).wr W10).ext E12).keep Kc16).wr W20).ext E22).keep Kc26).wr W30)
  have f35 : Fld Z h30 b2 "com/example/concordia/concordia/expr/IntList" "size" "I" (.int (0 : Int32)) := (((((((p6_0.other W10 (Or.inl (Ne.symm (Nat.ne_of_lt (Nat.lt_of_lt_of_le pr0.lt (Nat.le_of_eq g2.symm)))))).ext E12).keep Kc16 (ninS (Nat.ne_of_lt (Nat.lt_of_lt_of_le ((A2.keep Kc6).wr W10).lt (Nat.le_of_eq g12.symm))) nin0)).other W20 (Or.inl (Ne.symm (Nat.ne_of_lt (Nat.lt_of_lt_of_le pr0.lt (Nat.le_of_eq g2.symm)))))).ext E22).keep Kc26 (ninS (Nat.ne_of_lt (Nat.lt_of_lt_of_le (((((A2.keep Kc6).wr W10).ext E12).keep Kc16).wr W20).lt (Nat.le_of_eq g22.symm))) nin0)).other W30 (Or.inl (Ne.symm (Nat.ne_of_lt (Nat.lt_of_lt_of_le pr0.lt (Nat.le_of_eq g2.symm))))))
  obtain ⟨fs, hr, hrun, hended, hW, hsame⟩ := X30.leave (v := none) (fun _ => rfl)
  refine ⟨_, _, pre0 _ ?_, hrun, hended, _, _, rfl, ?_, ⟨_, rfl⟩, hW, hsame.mono (by decide) (by decide)⟩
  · show Steps p.tables e below (s₁.setTop (mkF m 0 #[.val (.ref a1)] [])) _
    refine XS.aloadN X0.here hx rfl (hb hby d19_0) rfl rfl ?_
    show Steps p.tables e below (s₁.setTop (mkF m 1 #[.val (.ref a1)] [(.ref a1)])) _
    refine st1 _ ?_
    show Steps p.tables e below (T1.setTop (mkF m 4 #[.val (.ref a1)] [])) _
    refine XS.aloadN X1.here hx rfl (hb hby d19_4) rfl rfl ?_
    show Steps p.tables e below (T1.setTop (mkF m 5 #[.val (.ref a1)] [(.ref a1)])) _
    refine st2 _ ?_
    show Steps p.tables e below (T2.setTop (mkF m 8 #[.val (.ref a1)] [(.ref b2), (.ref a1)])) _
    refine XS.dup X2.here hx rfl (hb hby d19_8) rfl rfl ?_
    show Steps p.tables e below (T2.setTop (mkF m 9 #[.val (.ref a1)] [(.ref b2), (.ref b2), (.ref a1)])) _
    refine st6.trans ?_
    show Steps p.tables e below (T6.setTop (mkF m 12 #[.val (.ref a1)] [(.ref b2), (.ref a1)])) _
    refine st10 _ ?_
    show Steps p.tables e below (T10.setTop (mkF m 15 #[.val (.ref a1)] [])) _
    refine XS.aloadN X10.here hx rfl (hb hby d19_15) rfl rfl ?_
    show Steps p.tables e below (T10.setTop (mkF m 16 #[.val (.ref a1)] [(.ref a1)])) _
    refine st12 _ ?_
    show Steps p.tables e below (T12.setTop (mkF m 19 #[.val (.ref a1)] [(.ref b12), (.ref a1)])) _
    refine XS.dup X12.here hx rfl (hb hby d19_19) rfl rfl ?_
    show Steps p.tables e below (T12.setTop (mkF m 20 #[.val (.ref a1)] [(.ref b12), (.ref b12), (.ref a1)])) _
    refine st16.trans ?_
    show Steps p.tables e below (T16.setTop (mkF m 23 #[.val (.ref a1)] [(.ref b12), (.ref a1)])) _
    refine st20 _ ?_
    show Steps p.tables e below (T20.setTop (mkF m 26 #[.val (.ref a1)] [])) _
    refine XS.aloadN X20.here hx rfl (hb hby d19_26) rfl rfl ?_
    show Steps p.tables e below (T20.setTop (mkF m 27 #[.val (.ref a1)] [(.ref a1)])) _
    refine st22 _ ?_
    show Steps p.tables e below (T22.setTop (mkF m 30 #[.val (.ref a1)] [(.ref b22), (.ref a1)])) _
    refine XS.dup X22.here hx rfl (hb hby d19_30) rfl rfl ?_
    show Steps p.tables e below (T22.setTop (mkF m 31 #[.val (.ref a1)] [(.ref b22), (.ref b22), (.ref a1)])) _
    refine st26.trans ?_
    show Steps p.tables e below (T26.setTop (mkF m 34 #[.val (.ref a1)] [(.ref b22), (.ref a1)])) _
    refine st30 _ ?_
    show Steps p.tables e below (T30.setTop (mkF m 37 #[.val (.ref a1)] [])) _
    exact X30.returnOut hx Bd.returns (hb hby d19_37) hr
  · show Q_rm_PG Z a1 v1 v2 v3 h0 n0 _ T30.heap _
    rw [e30]
    exact ⟨b2, rfl, N30, K31, gzb2, f32, f33, f34, f35⟩
theorem d20_0 : decode prog_43_method_9_code 0 = .ok (.aload_n 0, 1) := by decide +kernel
theorem d20_1 : decode prog_43_method_9_code 1 = .ok (.getfield 15, 3) := by decide +kernel
theorem d20_4 : decode prog_43_method_9_code 4 = .ok (.astore_n 1, 1) := by decide +kernel
theorem d20_5 : decode prog_43_method_9_code 5 = .ok (.aload_n 1, 1) := by decide +kernel
theorem d20_6 : decode prog_43_method_9_code 6 = .ok (.arraylength, 1) := by decide +kernel
theorem d20_7 : decode prog_43_method_9_code 7 = .ok (.istore_n 2, 1) := by decide +kernel
theorem d20_8 : decode prog_43_method_9_code 8 = .ok (.iconst 0, 1) := by decide +kernel
theorem d20_9 : decode prog_43_method_9_code 9 = .ok (.istore_n 3, 1) := by decide +kernel
theorem d20_10 : decode prog_43_method_9_code 10 = .ok (.iload_n 3, 1) := by decide +kernel
theorem d20_11 : decode prog_43_method_9_code 11 = .ok (.iload_n 2, 1) := by decide +kernel
theorem d20_12 : decode prog_43_method_9_code 12 = .ok (.if_icmp .ge 22, 3) := by decide +kernel
theorem d20_15 : decode prog_43_method_9_code 15 = .ok (.aload_n 1, 1) := by decide +kernel
theorem d20_16 : decode prog_43_method_9_code 16 = .ok (.iload_n 3, 1) := by decide +kernel
theorem d20_17 : decode prog_43_method_9_code 17 = .ok (.iaload, 1) := by decide +kernel
theorem d20_18 : decode prog_43_method_9_code 18 = .ok (.istore 4, 2) := by decide +kernel
theorem d20_20 : decode prog_43_method_9_code 20 = .ok (.iload 4, 2) := by decide +kernel
theorem d20_22 : decode prog_43_method_9_code 22 = .ok (.iconst (-1), 1) := by decide +kernel
theorem d20_23 : decode prog_43_method_9_code 23 = .ok (.if_icmp .eq 5, 3) := by decide +kernel
theorem d20_26 : decode prog_43_method_9_code 26 = .ok (.iconst 0, 1) := by decide +kernel
theorem d20_27 : decode prog_43_method_9_code 27 = .ok (.ireturn, 1) := by decide +kernel
theorem ef_rm_em0 (m : MethodId) (x0 : Addr) : entryFrame m #[(.ref x0)] 5 = mkF m 0 #[.val (.ref x0), .unset, .unset, .unset, .unset] [] := by first | (simp [entryFrame, mkF, argsToLocals, Value.category]; done) | rfl
def Q_rm_em0 (Z : State) (a1 : Addr) (rt : Addr) (kr : ClassId) (r0 : Int32) (r1 : Int32) (r2 : Int32) (r3 : Int32) (h0 : Heap) (n0 : Nat) (v : Option Value) (h : Heap) (L : List Loc) : Prop := v = some (.int (0 : Int32)) ∧ Fr n0 L ∧ h = h0
set_option maxRecDepth 65536 in
set_option maxHeartbeats 40000000 in
theorem rm_em0 (l : Launch) (Z : State) (a0 : Array Value) (hw : ∀ d ∈ tables_1, d.before a0 Z = true) (ws : List Jvm.Cond) (a1 : Addr) (rt : Addr) (kr : ClassId) (r0 : Int32) (r1 : Int32) (r2 : Int32) (r3 : Int32) (h0 : Heap) (n0 : Nat) (Z0 : n0 ≤ h0.size) (pr0 : Fld Z h0 a1 "com/example/concordia/concordia/index/LinkedCode" "roots" "[I" (.ref rt)) (pr1 : Arv Z h0 rt kr .int (4 : Int32) [(.int r0), (.int r1), (.int r2), (.int r3)] (.int (0 : Int32))) (hr0 : ¬ (r0 = (-1 : Int32))) :
    MetFree l (⟨"com/example/concordia/concordia/index/LinkedCode", "isEmpty", "()Z"⟩ : MethodName) (head1 (Jvm.Cond.code (⟨"com/example/concordia/concordia/index/LinkedCode", "isEmpty", "()Z"⟩ : MethodName) prog_43_method_9_code 5 (some .boolean) :: ws) ({ frames := 0, cells := 0, slots := 0, locals := 0 } : Room)) (fun a U => a = #[(.ref a1)] ∧ Z.Warmed39 U.vm ∧ U.heap = h0) (fun _ _ _ _ _ => True) (fun _ U o U' => ∃ v L, o = .returned v ∧ Q_rm_em0 Z a1 rt kr r0 r1 r2 r3 h0 n0 v U'.heap L ∧ FrameEnd U o U' L ({ frames := 0, cells := 0, slots := 0, locals := 0 } : Room).cells ({ frames := 0, cells := 0, slots := 0, locals := 0 } : Room).slots) := by
  refine MetFree.of_bodySF (plainFor_of_name pn_com_example_concordia_concordia_index_LinkedCode) hisR ?_
  intro p e s m args below meth c s₁ Bd hml0 hP hK
  obtain ⟨rfl, hZ, hh⟩ := hP
  have hx := Bd.exec
  have hby := Bd.bytes
  have hml : c.maxLocals = 5 := hml0
  have hown : s.vm.findClass "com/example/concordia/concordia/index/LinkedCode" = some m.cls := findClass_of_methodNamed Bd.named
  have hnm := (name_of_methodNamed Bd.named Bd.method).1
  have X0 : Stand p l e ({ frames := 0, cells := 0, slots := 0, locals := 0 } : Room) s m #[(.ref a1)] below meth c s₁ [] 0 0 := Stand.of_body Bd
  have e0 : s₁.heap = h0 := by rw [← hh, Bd.state]; rfl
  have N0 := Fr.nil n0
  have pre0 : ∀ t, Steps p.tables e below (s₁.setTop (mkF m 0 #[.val (.ref a1), .unset, .unset, .unset, .unset] [])) t → Steps p.tables e below (s₁.setTop (entryFrame m #[(.ref a1)] 5)) t := fun t k => castTop (ef_rm_em0 m a1) k
  obtain ⟨T1, X1, e1, st1⟩ := getF X0 hx hZ hown (host := "") (Or.inl (hw _ (List.mem_of_getElem? (i := 118) rfl))) Via.refl e0 pr0 (g := (mkF m 1 #[.val (.ref a1), .unset, .unset, .unset, .unset] [(.ref a1)])) rfl rfl (hb hby d20_1)
  obtain ⟨cl2, Ar2, q2, Sz2, Ng2, Hs2, Ft2⟩ := id pr1
  obtain ⟨cl3, Ar3, q3, Sz3, Ng3, Hs3, Ft3⟩ := id pr1
  obtain ⟨fs, hr, hrun, hended, hW, hsame⟩ := X1.leave (v := some (.int (0 : Int32))) (fun h => by rw [Bd.returns] at h; cases h)
  refine ⟨_, _, pre0 _ ?_, hrun, hended, _, _, rfl, ?_, ⟨_, rfl⟩, hW, hsame.mono (by decide) (by decide)⟩
  · show Steps p.tables e below (s₁.setTop (mkF m 0 #[.val (.ref a1), .unset, .unset, .unset, .unset] [])) _
    refine XS.aloadN X0.here hx rfl (hb hby d20_0) rfl rfl ?_
    show Steps p.tables e below (s₁.setTop (mkF m 1 #[.val (.ref a1), .unset, .unset, .unset, .unset] [(.ref a1)])) _
    refine st1 _ ?_
    show Steps p.tables e below (T1.setTop (mkF m 4 #[.val (.ref a1), .unset, .unset, .unset, .unset] [(.ref rt)])) _
    refine XS.astoreN X1.here hx rfl (hb hby d20_4) rfl rfl (l' := #[.val (.ref a1), .val (.ref rt), .unset, .unset, .unset]) rfl ?_
    show Steps p.tables e below (T1.setTop (mkF m 5 #[.val (.ref a1), .val (.ref rt), .unset, .unset, .unset] [])) _
    refine XS.aloadN X1.here hx rfl (hb hby d20_5) rfl rfl ?_
    show Steps p.tables e below (T1.setTop (mkF m 6 #[.val (.ref a1), .val (.ref rt), .unset, .unset, .unset] [(.ref rt)])) _
    refine X1.arraylength hx (by rw [e1]; exact Ar2.1) (State.isArrayOf_alike hZ.alike Ar2.2.1) (g := (mkF m 6 #[.val (.ref a1), .val (.ref rt), .unset, .unset, .unset] [(.ref rt)])) rfl rfl (hb hby d20_6) _ ?_
    rw [len_of Sz2 Ng2]
    show Steps p.tables e below (T1.setTop (mkF m 7 #[.val (.ref a1), .val (.ref rt), .unset, .unset, .unset] [(.int (4 : Int32))])) _
    refine XS.istoreN X1.here hx rfl (hb hby d20_7) rfl (l' := #[.val (.ref a1), .val (.ref rt), .val (.int (4 : Int32)), .unset, .unset]) rfl ?_
    show Steps p.tables e below (T1.setTop (mkF m 8 #[.val (.ref a1), .val (.ref rt), .val (.int (4 : Int32)), .unset, .unset] [])) _
    refine XS.iconst X1.here hx rfl (hb hby d20_8) ?_
    show Steps p.tables e below (T1.setTop (mkF m 9 #[.val (.ref a1), .val (.ref rt), .val (.int (4 : Int32)), .unset, .unset] [(.int (0 : Int32))])) _
    refine XS.istoreN X1.here hx rfl (hb hby d20_9) rfl (l' := #[.val (.ref a1), .val (.ref rt), .val (.int (4 : Int32)), .val (.int (0 : Int32)), .unset]) rfl ?_
    show Steps p.tables e below (T1.setTop (mkF m 10 #[.val (.ref a1), .val (.ref rt), .val (.int (4 : Int32)), .val (.int (0 : Int32)), .unset] [])) _
    refine XS.iloadN X1.here hx rfl (hb hby d20_10) rfl ?_
    show Steps p.tables e below (T1.setTop (mkF m 11 #[.val (.ref a1), .val (.ref rt), .val (.int (4 : Int32)), .val (.int (0 : Int32)), .unset] [(.int (0 : Int32))])) _
    refine XS.iloadN X1.here hx rfl (hb hby d20_11) rfl ?_
    show Steps p.tables e below (T1.setTop (mkF m 12 #[.val (.ref a1), .val (.ref rt), .val (.int (4 : Int32)), .val (.int (0 : Int32)), .unset] [(.int (4 : Int32)), (.int (0 : Int32))])) _
    refine XS.icmpNo X1.here hx rfl (hb hby d20_12) rfl (tlt (by decide : (0 : Int32) < (4 : Int32))).2.1 ?_
    show Steps p.tables e below (T1.setTop (mkF m 15 #[.val (.ref a1), .val (.ref rt), .val (.int (4 : Int32)), .val (.int (0 : Int32)), .unset] [])) _
    refine XS.aloadN X1.here hx rfl (hb hby d20_15) rfl rfl ?_
    show Steps p.tables e below (T1.setTop (mkF m 16 #[.val (.ref a1), .val (.ref rt), .val (.int (4 : Int32)), .val (.int (0 : Int32)), .unset] [(.ref rt)])) _
    refine XS.iloadN X1.here hx rfl (hb hby d20_16) rfl ?_
    show Steps p.tables e below (T1.setTop (mkF m 17 #[.val (.ref a1), .val (.ref rt), .val (.int (4 : Int32)), .val (.int (0 : Int32)), .unset] [(.int (0 : Int32)), (.ref rt)])) _
    refine X1.iaload hx (j := (0 : Int32)) (v := (.int r0)) (by rw [e1]; exact Ar3.1) (State.isArrayOf_alike hZ.alike Ar3.2.1) Ar3.2.2 (inb_of Sz3 ⟨by decide, by decide⟩) (Has.at Hs3 (inb_of Sz3 ⟨by decide, by decide⟩) rfl) (g := (mkF m 17 #[.val (.ref a1), .val (.ref rt), .val (.int (4 : Int32)), .val (.int (0 : Int32)), .unset] [(.int (0 : Int32)), (.ref rt)])) rfl rfl (hb hby d20_17) _ ?_
    show Steps p.tables e below (T1.setTop (mkF m 18 #[.val (.ref a1), .val (.ref rt), .val (.int (4 : Int32)), .val (.int (0 : Int32)), .unset] [(.int r0)])) _
    refine XS.istore X1.here hx rfl (hb hby d20_18) rfl (l' := #[.val (.ref a1), .val (.ref rt), .val (.int (4 : Int32)), .val (.int (0 : Int32)), .val (.int r0)]) rfl ?_
    show Steps p.tables e below (T1.setTop (mkF m 20 #[.val (.ref a1), .val (.ref rt), .val (.int (4 : Int32)), .val (.int (0 : Int32)), .val (.int r0)] [])) _
    refine XS.iload X1.here hx rfl (hb hby d20_20) rfl ?_
    show Steps p.tables e below (T1.setTop (mkF m 22 #[.val (.ref a1), .val (.ref rt), .val (.int (4 : Int32)), .val (.int (0 : Int32)), .val (.int r0)] [(.int r0)])) _
    refine XS.iconst X1.here hx rfl (hb hby d20_22) ?_
    show Steps p.tables e below (T1.setTop (mkF m 23 #[.val (.ref a1), .val (.ref rt), .val (.int (4 : Int32)), .val (.int (0 : Int32)), .val (.int r0)] [(.int (-1 : Int32)), (.int r0)])) _
    refine XS.icmpNo X1.here hx rfl (hb hby d20_23) rfl (feq hr0).1 ?_
    show Steps p.tables e below (T1.setTop (mkF m 26 #[.val (.ref a1), .val (.ref rt), .val (.int (4 : Int32)), .val (.int (0 : Int32)), .val (.int r0)] [])) _
    refine XS.iconst X1.here hx rfl (hb hby d20_26) ?_
    show Steps p.tables e below (T1.setTop (mkF m 27 #[.val (.ref a1), .val (.ref rt), .val (.int (4 : Int32)), .val (.int (0 : Int32)), .val (.int r0)] [(.int (0 : Int32))])) _
    exact retN X1 hx (t := .boolean) Bd.returns (by simp) (hb hby d20_27) hr
  · show Q_rm_em0 Z a1 rt kr r0 r1 r2 r3 h0 n0 _ T1.heap _
    rw [e1]
    exact ⟨rfl, N0, rfl⟩
theorem d20_28 : decode prog_43_method_9_code 28 = .ok (.iinc 3 1, 3) := by decide +kernel
theorem d20_31 : decode prog_43_method_9_code 31 = .ok (.goto (-21), 3) := by decide +kernel
theorem ef_rm_em1 (m : MethodId) (x0 : Addr) : entryFrame m #[(.ref x0)] 5 = mkF m 0 #[.val (.ref x0), .unset, .unset, .unset, .unset] [] := by first | (simp [entryFrame, mkF, argsToLocals, Value.category]; done) | rfl
def Q_rm_em1 (Z : State) (a1 : Addr) (rt : Addr) (kr : ClassId) (r0 : Int32) (r1 : Int32) (r2 : Int32) (r3 : Int32) (h0 : Heap) (n0 : Nat) (v : Option Value) (h : Heap) (L : List Loc) : Prop := v = some (.int (0 : Int32)) ∧ Fr n0 L ∧ h = h0
set_option maxRecDepth 65536 in
set_option maxHeartbeats 40000000 in
theorem rm_em1 (l : Launch) (Z : State) (a0 : Array Value) (hw : ∀ d ∈ tables_1, d.before a0 Z = true) (ws : List Jvm.Cond) (a1 : Addr) (rt : Addr) (kr : ClassId) (r0 : Int32) (r1 : Int32) (r2 : Int32) (r3 : Int32) (h0 : Heap) (n0 : Nat) (Z0 : n0 ≤ h0.size) (pr0 : Fld Z h0 a1 "com/example/concordia/concordia/index/LinkedCode" "roots" "[I" (.ref rt)) (pr1 : Arv Z h0 rt kr .int (4 : Int32) [(.int r0), (.int r1), (.int r2), (.int r3)] (.int (0 : Int32))) (hr0 : r0 = (-1 : Int32)) (hr1 : ¬ (r1 = (-1 : Int32))) :
    MetFree l (⟨"com/example/concordia/concordia/index/LinkedCode", "isEmpty", "()Z"⟩ : MethodName) (head1 (Jvm.Cond.code (⟨"com/example/concordia/concordia/index/LinkedCode", "isEmpty", "()Z"⟩ : MethodName) prog_43_method_9_code 5 (some .boolean) :: ws) ({ frames := 0, cells := 0, slots := 0, locals := 0 } : Room)) (fun a U => a = #[(.ref a1)] ∧ Z.Warmed39 U.vm ∧ U.heap = h0) (fun _ _ _ _ _ => True) (fun _ U o U' => ∃ v L, o = .returned v ∧ Q_rm_em1 Z a1 rt kr r0 r1 r2 r3 h0 n0 v U'.heap L ∧ FrameEnd U o U' L ({ frames := 0, cells := 0, slots := 0, locals := 0 } : Room).cells ({ frames := 0, cells := 0, slots := 0, locals := 0 } : Room).slots) := by
  refine MetFree.of_bodySF (plainFor_of_name pn_com_example_concordia_concordia_index_LinkedCode) hisR ?_
  intro p e s m args below meth c s₁ Bd hml0 hP hK
  obtain ⟨rfl, hZ, hh⟩ := hP
  have hx := Bd.exec
  have hby := Bd.bytes
  have hml : c.maxLocals = 5 := hml0
  have hown : s.vm.findClass "com/example/concordia/concordia/index/LinkedCode" = some m.cls := findClass_of_methodNamed Bd.named
  have hnm := (name_of_methodNamed Bd.named Bd.method).1
  have X0 : Stand p l e ({ frames := 0, cells := 0, slots := 0, locals := 0 } : Room) s m #[(.ref a1)] below meth c s₁ [] 0 0 := Stand.of_body Bd
  have e0 : s₁.heap = h0 := by rw [← hh, Bd.state]; rfl
  have N0 := Fr.nil n0
  have pre0 : ∀ t, Steps p.tables e below (s₁.setTop (mkF m 0 #[.val (.ref a1), .unset, .unset, .unset, .unset] [])) t → Steps p.tables e below (s₁.setTop (entryFrame m #[(.ref a1)] 5)) t := fun t k => castTop (ef_rm_em1 m a1) k
  obtain ⟨T1, X1, e1, st1⟩ := getF X0 hx hZ hown (host := "") (Or.inl (hw _ (List.mem_of_getElem? (i := 118) rfl))) Via.refl e0 pr0 (g := (mkF m 1 #[.val (.ref a1), .unset, .unset, .unset, .unset] [(.ref a1)])) rfl rfl (hb hby d20_1)
  obtain ⟨cl2, Ar2, q2, Sz2, Ng2, Hs2, Ft2⟩ := id pr1
  obtain ⟨cl3, Ar3, q3, Sz3, Ng3, Hs3, Ft3⟩ := id pr1
  obtain ⟨cl4, Ar4, q4, Sz4, Ng4, Hs4, Ft4⟩ := id pr1
  obtain ⟨fs, hr, hrun, hended, hW, hsame⟩ := X1.leave (v := some (.int (0 : Int32))) (fun h => by rw [Bd.returns] at h; cases h)
  refine ⟨_, _, pre0 _ ?_, hrun, hended, _, _, rfl, ?_, ⟨_, rfl⟩, hW, hsame.mono (by decide) (by decide)⟩
  · show Steps p.tables e below (s₁.setTop (mkF m 0 #[.val (.ref a1), .unset, .unset, .unset, .unset] [])) _
    refine XS.aloadN X0.here hx rfl (hb hby d20_0) rfl rfl ?_
    show Steps p.tables e below (s₁.setTop (mkF m 1 #[.val (.ref a1), .unset, .unset, .unset, .unset] [(.ref a1)])) _
    refine st1 _ ?_
    show Steps p.tables e below (T1.setTop (mkF m 4 #[.val (.ref a1), .unset, .unset, .unset, .unset] [(.ref rt)])) _
    refine XS.astoreN X1.here hx rfl (hb hby d20_4) rfl rfl (l' := #[.val (.ref a1), .val (.ref rt), .unset, .unset, .unset]) rfl ?_
    show Steps p.tables e below (T1.setTop (mkF m 5 #[.val (.ref a1), .val (.ref rt), .unset, .unset, .unset] [])) _
    refine XS.aloadN X1.here hx rfl (hb hby d20_5) rfl rfl ?_
    show Steps p.tables e below (T1.setTop (mkF m 6 #[.val (.ref a1), .val (.ref rt), .unset, .unset, .unset] [(.ref rt)])) _
    refine X1.arraylength hx (by rw [e1]; exact Ar2.1) (State.isArrayOf_alike hZ.alike Ar2.2.1) (g := (mkF m 6 #[.val (.ref a1), .val (.ref rt), .unset, .unset, .unset] [(.ref rt)])) rfl rfl (hb hby d20_6) _ ?_
    rw [len_of Sz2 Ng2]
    show Steps p.tables e below (T1.setTop (mkF m 7 #[.val (.ref a1), .val (.ref rt), .unset, .unset, .unset] [(.int (4 : Int32))])) _
    refine XS.istoreN X1.here hx rfl (hb hby d20_7) rfl (l' := #[.val (.ref a1), .val (.ref rt), .val (.int (4 : Int32)), .unset, .unset]) rfl ?_
    show Steps p.tables e below (T1.setTop (mkF m 8 #[.val (.ref a1), .val (.ref rt), .val (.int (4 : Int32)), .unset, .unset] [])) _
    refine XS.iconst X1.here hx rfl (hb hby d20_8) ?_
    show Steps p.tables e below (T1.setTop (mkF m 9 #[.val (.ref a1), .val (.ref rt), .val (.int (4 : Int32)), .unset, .unset] [(.int (0 : Int32))])) _
    refine XS.istoreN X1.here hx rfl (hb hby d20_9) rfl (l' := #[.val (.ref a1), .val (.ref rt), .val (.int (4 : Int32)), .val (.int (0 : Int32)), .unset]) rfl ?_
    show Steps p.tables e below (T1.setTop (mkF m 10 #[.val (.ref a1), .val (.ref rt), .val (.int (4 : Int32)), .val (.int (0 : Int32)), .unset] [])) _
    refine XS.iloadN X1.here hx rfl (hb hby d20_10) rfl ?_
    show Steps p.tables e below (T1.setTop (mkF m 11 #[.val (.ref a1), .val (.ref rt), .val (.int (4 : Int32)), .val (.int (0 : Int32)), .unset] [(.int (0 : Int32))])) _
    refine XS.iloadN X1.here hx rfl (hb hby d20_11) rfl ?_
    show Steps p.tables e below (T1.setTop (mkF m 12 #[.val (.ref a1), .val (.ref rt), .val (.int (4 : Int32)), .val (.int (0 : Int32)), .unset] [(.int (4 : Int32)), (.int (0 : Int32))])) _
    refine XS.icmpNo X1.here hx rfl (hb hby d20_12) rfl (tlt (by decide : (0 : Int32) < (4 : Int32))).2.1 ?_
    show Steps p.tables e below (T1.setTop (mkF m 15 #[.val (.ref a1), .val (.ref rt), .val (.int (4 : Int32)), .val (.int (0 : Int32)), .unset] [])) _
    refine XS.aloadN X1.here hx rfl (hb hby d20_15) rfl rfl ?_
    show Steps p.tables e below (T1.setTop (mkF m 16 #[.val (.ref a1), .val (.ref rt), .val (.int (4 : Int32)), .val (.int (0 : Int32)), .unset] [(.ref rt)])) _
    refine XS.iloadN X1.here hx rfl (hb hby d20_16) rfl ?_
    show Steps p.tables e below (T1.setTop (mkF m 17 #[.val (.ref a1), .val (.ref rt), .val (.int (4 : Int32)), .val (.int (0 : Int32)), .unset] [(.int (0 : Int32)), (.ref rt)])) _
    refine X1.iaload hx (j := (0 : Int32)) (v := (.int r0)) (by rw [e1]; exact Ar3.1) (State.isArrayOf_alike hZ.alike Ar3.2.1) Ar3.2.2 (inb_of Sz3 ⟨by decide, by decide⟩) (Has.at Hs3 (inb_of Sz3 ⟨by decide, by decide⟩) rfl) (g := (mkF m 17 #[.val (.ref a1), .val (.ref rt), .val (.int (4 : Int32)), .val (.int (0 : Int32)), .unset] [(.int (0 : Int32)), (.ref rt)])) rfl rfl (hb hby d20_17) _ ?_
    show Steps p.tables e below (T1.setTop (mkF m 18 #[.val (.ref a1), .val (.ref rt), .val (.int (4 : Int32)), .val (.int (0 : Int32)), .unset] [(.int r0)])) _
    refine XS.istore X1.here hx rfl (hb hby d20_18) rfl (l' := #[.val (.ref a1), .val (.ref rt), .val (.int (4 : Int32)), .val (.int (0 : Int32)), .val (.int r0)]) rfl ?_
    show Steps p.tables e below (T1.setTop (mkF m 20 #[.val (.ref a1), .val (.ref rt), .val (.int (4 : Int32)), .val (.int (0 : Int32)), .val (.int r0)] [])) _
    refine XS.iload X1.here hx rfl (hb hby d20_20) rfl ?_
    show Steps p.tables e below (T1.setTop (mkF m 22 #[.val (.ref a1), .val (.ref rt), .val (.int (4 : Int32)), .val (.int (0 : Int32)), .val (.int r0)] [(.int r0)])) _
    refine XS.iconst X1.here hx rfl (hb hby d20_22) ?_
    show Steps p.tables e below (T1.setTop (mkF m 23 #[.val (.ref a1), .val (.ref rt), .val (.int (4 : Int32)), .val (.int (0 : Int32)), .val (.int r0)] [(.int (-1 : Int32)), (.int r0)])) _
    refine XS.icmpYes X1.here hx rfl (pc0 := 23) (pc' := 28) rfl (hb hby d20_23) rfl (teq hr0).1 (by decide) (by decide) ?_
    show Steps p.tables e below (T1.setTop (mkF m 28 #[.val (.ref a1), .val (.ref rt), .val (.int (4 : Int32)), .val (.int (0 : Int32)), .val (.int r0)] [])) _
    refine XS.iinc X1.here hx rfl (hb hby d20_28) rfl (l' := #[.val (.ref a1), .val (.ref rt), .val (.int (4 : Int32)), .val (.int (1 : Int32)), .val (.int r0)]) rfl ?_
    show Steps p.tables e below (T1.setTop (mkF m 31 #[.val (.ref a1), .val (.ref rt), .val (.int (4 : Int32)), .val (.int (1 : Int32)), .val (.int r0)] [])) _
    refine XS.goto X1.here hx rfl (pc0 := 31) (pc' := 10) rfl (hb hby d20_31) (by decide) (by decide) ?_
    show Steps p.tables e below (T1.setTop (mkF m 10 #[.val (.ref a1), .val (.ref rt), .val (.int (4 : Int32)), .val (.int (1 : Int32)), .val (.int r0)] [])) _
    refine XS.iloadN X1.here hx rfl (hb hby d20_10) rfl ?_
    show Steps p.tables e below (T1.setTop (mkF m 11 #[.val (.ref a1), .val (.ref rt), .val (.int (4 : Int32)), .val (.int (1 : Int32)), .val (.int r0)] [(.int (1 : Int32))])) _
    refine XS.iloadN X1.here hx rfl (hb hby d20_11) rfl ?_
    show Steps p.tables e below (T1.setTop (mkF m 12 #[.val (.ref a1), .val (.ref rt), .val (.int (4 : Int32)), .val (.int (1 : Int32)), .val (.int r0)] [(.int (4 : Int32)), (.int (1 : Int32))])) _
    refine XS.icmpNo X1.here hx rfl (hb hby d20_12) rfl (tlt (by decide : (1 : Int32) < (4 : Int32))).2.1 ?_
    show Steps p.tables e below (T1.setTop (mkF m 15 #[.val (.ref a1), .val (.ref rt), .val (.int (4 : Int32)), .val (.int (1 : Int32)), .val (.int r0)] [])) _
    refine XS.aloadN X1.here hx rfl (hb hby d20_15) rfl rfl ?_
    show Steps p.tables e below (T1.setTop (mkF m 16 #[.val (.ref a1), .val (.ref rt), .val (.int (4 : Int32)), .val (.int (1 : Int32)), .val (.int r0)] [(.ref rt)])) _
    refine XS.iloadN X1.here hx rfl (hb hby d20_16) rfl ?_
    show Steps p.tables e below (T1.setTop (mkF m 17 #[.val (.ref a1), .val (.ref rt), .val (.int (4 : Int32)), .val (.int (1 : Int32)), .val (.int r0)] [(.int (1 : Int32)), (.ref rt)])) _
    refine X1.iaload hx (j := (1 : Int32)) (v := (.int r1)) (by rw [e1]; exact Ar4.1) (State.isArrayOf_alike hZ.alike Ar4.2.1) Ar4.2.2 (inb_of Sz4 ⟨by decide, by decide⟩) (Has.at Hs4 (inb_of Sz4 ⟨by decide, by decide⟩) rfl) (g := (mkF m 17 #[.val (.ref a1), .val (.ref rt), .val (.int (4 : Int32)), .val (.int (1 : Int32)), .val (.int r0)] [(.int (1 : Int32)), (.ref rt)])) rfl rfl (hb hby d20_17) _ ?_
    show Steps p.tables e below (T1.setTop (mkF m 18 #[.val (.ref a1), .val (.ref rt), .val (.int (4 : Int32)), .val (.int (1 : Int32)), .val (.int r0)] [(.int r1)])) _
    refine XS.istore X1.here hx rfl (hb hby d20_18) rfl (l' := #[.val (.ref a1), .val (.ref rt), .val (.int (4 : Int32)), .val (.int (1 : Int32)), .val (.int r1)]) rfl ?_
    show Steps p.tables e below (T1.setTop (mkF m 20 #[.val (.ref a1), .val (.ref rt), .val (.int (4 : Int32)), .val (.int (1 : Int32)), .val (.int r1)] [])) _
    refine XS.iload X1.here hx rfl (hb hby d20_20) rfl ?_
    show Steps p.tables e below (T1.setTop (mkF m 22 #[.val (.ref a1), .val (.ref rt), .val (.int (4 : Int32)), .val (.int (1 : Int32)), .val (.int r1)] [(.int r1)])) _
    refine XS.iconst X1.here hx rfl (hb hby d20_22) ?_
    show Steps p.tables e below (T1.setTop (mkF m 23 #[.val (.ref a1), .val (.ref rt), .val (.int (4 : Int32)), .val (.int (1 : Int32)), .val (.int r1)] [(.int (-1 : Int32)), (.int r1)])) _
    refine XS.icmpNo X1.here hx rfl (hb hby d20_23) rfl (feq hr1).1 ?_
    show Steps p.tables e below (T1.setTop (mkF m 26 #[.val (.ref a1), .val (.ref rt), .val (.int (4 : Int32)), .val (.int (1 : Int32)), .val (.int r1)] [])) _
    refine XS.iconst X1.here hx rfl (hb hby d20_26) ?_
    show Steps p.tables e below (T1.setTop (mkF m 27 #[.val (.ref a1), .val (.ref rt), .val (.int (4 : Int32)), .val (.int (1 : Int32)), .val (.int r1)] [(.int (0 : Int32))])) _
    exact retN X1 hx (t := .boolean) Bd.returns (by simp) (hb hby d20_27) hr
  · show Q_rm_em1 Z a1 rt kr r0 r1 r2 r3 h0 n0 _ T1.heap _
    rw [e1]
    exact ⟨rfl, N0, rfl⟩
theorem ef_rm_em2 (m : MethodId) (x0 : Addr) : entryFrame m #[(.ref x0)] 5 = mkF m 0 #[.val (.ref x0), .unset, .unset, .unset, .unset] [] := by first | (simp [entryFrame, mkF, argsToLocals, Value.category]; done) | rfl
def Q_rm_em2 (Z : State) (a1 : Addr) (rt : Addr) (kr : ClassId) (r0 : Int32) (r1 : Int32) (r2 : Int32) (r3 : Int32) (h0 : Heap) (n0 : Nat) (v : Option Value) (h : Heap) (L : List Loc) : Prop := v = some (.int (0 : Int32)) ∧ Fr n0 L ∧ h = h0
set_option maxRecDepth 65536 in
set_option maxHeartbeats 40000000 in
theorem rm_em2 (l : Launch) (Z : State) (a0 : Array Value) (hw : ∀ d ∈ tables_1, d.before a0 Z = true) (ws : List Jvm.Cond) (a1 : Addr) (rt : Addr) (kr : ClassId) (r0 : Int32) (r1 : Int32) (r2 : Int32) (r3 : Int32) (h0 : Heap) (n0 : Nat) (Z0 : n0 ≤ h0.size) (pr0 : Fld Z h0 a1 "com/example/concordia/concordia/index/LinkedCode" "roots" "[I" (.ref rt)) (pr1 : Arv Z h0 rt kr .int (4 : Int32) [(.int r0), (.int r1), (.int r2), (.int r3)] (.int (0 : Int32))) (hr0 : r0 = (-1 : Int32)) (hr1 : r1 = (-1 : Int32)) (hr2 : ¬ (r2 = (-1 : Int32))) :
    MetFree l (⟨"com/example/concordia/concordia/index/LinkedCode", "isEmpty", "()Z"⟩ : MethodName) (head1 (Jvm.Cond.code (⟨"com/example/concordia/concordia/index/LinkedCode", "isEmpty", "()Z"⟩ : MethodName) prog_43_method_9_code 5 (some .boolean) :: ws) ({ frames := 0, cells := 0, slots := 0, locals := 0 } : Room)) (fun a U => a = #[(.ref a1)] ∧ Z.Warmed39 U.vm ∧ U.heap = h0) (fun _ _ _ _ _ => True) (fun _ U o U' => ∃ v L, o = .returned v ∧ Q_rm_em2 Z a1 rt kr r0 r1 r2 r3 h0 n0 v U'.heap L ∧ FrameEnd U o U' L ({ frames := 0, cells := 0, slots := 0, locals := 0 } : Room).cells ({ frames := 0, cells := 0, slots := 0, locals := 0 } : Room).slots) := by
  refine MetFree.of_bodySF (plainFor_of_name pn_com_example_concordia_concordia_index_LinkedCode) hisR ?_
  intro p e s m args below meth c s₁ Bd hml0 hP hK
  obtain ⟨rfl, hZ, hh⟩ := hP
  have hx := Bd.exec
  have hby := Bd.bytes
  have hml : c.maxLocals = 5 := hml0
  have hown : s.vm.findClass "com/example/concordia/concordia/index/LinkedCode" = some m.cls := findClass_of_methodNamed Bd.named
  have hnm := (name_of_methodNamed Bd.named Bd.method).1
  have X0 : Stand p l e ({ frames := 0, cells := 0, slots := 0, locals := 0 } : Room) s m #[(.ref a1)] below meth c s₁ [] 0 0 := Stand.of_body Bd
  have e0 : s₁.heap = h0 := by rw [← hh, Bd.state]; rfl
  have N0 := Fr.nil n0
  have pre0 : ∀ t, Steps p.tables e below (s₁.setTop (mkF m 0 #[.val (.ref a1), .unset, .unset, .unset, .unset] [])) t → Steps p.tables e below (s₁.setTop (entryFrame m #[(.ref a1)] 5)) t := fun t k => castTop (ef_rm_em2 m a1) k
  obtain ⟨T1, X1, e1, st1⟩ := getF X0 hx hZ hown (host := "") (Or.inl (hw _ (List.mem_of_getElem? (i := 118) rfl))) Via.refl e0 pr0 (g := (mkF m 1 #[.val (.ref a1), .unset, .unset, .unset, .unset] [(.ref a1)])) rfl rfl (hb hby d20_1)
  obtain ⟨cl2, Ar2, q2, Sz2, Ng2, Hs2, Ft2⟩ := id pr1
  obtain ⟨cl3, Ar3, q3, Sz3, Ng3, Hs3, Ft3⟩ := id pr1
  obtain ⟨cl4, Ar4, q4, Sz4, Ng4, Hs4, Ft4⟩ := id pr1
  obtain ⟨cl5, Ar5, q5, Sz5, Ng5, Hs5, Ft5⟩ := id pr1
  obtain ⟨fs, hr, hrun, hended, hW, hsame⟩ := X1.leave (v := some (.int (0 : Int32))) (fun h => by rw [Bd.returns] at h; cases h)
  refine ⟨_, _, pre0 _ ?_, hrun, hended, _, _, rfl, ?_, ⟨_, rfl⟩, hW, hsame.mono (by decide) (by decide)⟩
  · show Steps p.tables e below (s₁.setTop (mkF m 0 #[.val (.ref a1), .unset, .unset, .unset, .unset] [])) _
    refine XS.aloadN X0.here hx rfl (hb hby d20_0) rfl rfl ?_
    show Steps p.tables e below (s₁.setTop (mkF m 1 #[.val (.ref a1), .unset, .unset, .unset, .unset] [(.ref a1)])) _
    refine st1 _ ?_
    show Steps p.tables e below (T1.setTop (mkF m 4 #[.val (.ref a1), .unset, .unset, .unset, .unset] [(.ref rt)])) _
    refine XS.astoreN X1.here hx rfl (hb hby d20_4) rfl rfl (l' := #[.val (.ref a1), .val (.ref rt), .unset, .unset, .unset]) rfl ?_
    show Steps p.tables e below (T1.setTop (mkF m 5 #[.val (.ref a1), .val (.ref rt), .unset, .unset, .unset] [])) _
    refine XS.aloadN X1.here hx rfl (hb hby d20_5) rfl rfl ?_
    show Steps p.tables e below (T1.setTop (mkF m 6 #[.val (.ref a1), .val (.ref rt), .unset, .unset, .unset] [(.ref rt)])) _
    refine X1.arraylength hx (by rw [e1]; exact Ar2.1) (State.isArrayOf_alike hZ.alike Ar2.2.1) (g := (mkF m 6 #[.val (.ref a1), .val (.ref rt), .unset, .unset, .unset] [(.ref rt)])) rfl rfl (hb hby d20_6) _ ?_
    rw [len_of Sz2 Ng2]
    show Steps p.tables e below (T1.setTop (mkF m 7 #[.val (.ref a1), .val (.ref rt), .unset, .unset, .unset] [(.int (4 : Int32))])) _
    refine XS.istoreN X1.here hx rfl (hb hby d20_7) rfl (l' := #[.val (.ref a1), .val (.ref rt), .val (.int (4 : Int32)), .unset, .unset]) rfl ?_
    show Steps p.tables e below (T1.setTop (mkF m 8 #[.val (.ref a1), .val (.ref rt), .val (.int (4 : Int32)), .unset, .unset] [])) _
    refine XS.iconst X1.here hx rfl (hb hby d20_8) ?_
    show Steps p.tables e below (T1.setTop (mkF m 9 #[.val (.ref a1), .val (.ref rt), .val (.int (4 : Int32)), .unset, .unset] [(.int (0 : Int32))])) _
    refine XS.istoreN X1.here hx rfl (hb hby d20_9) rfl (l' := #[.val (.ref a1), .val (.ref rt), .val (.int (4 : Int32)), .val (.int (0 : Int32)), .unset]) rfl ?_
    show Steps p.tables e below (T1.setTop (mkF m 10 #[.val (.ref a1), .val (.ref rt), .val (.int (4 : Int32)), .val (.int (0 : Int32)), .unset] [])) _
    refine XS.iloadN X1.here hx rfl (hb hby d20_10) rfl ?_
    show Steps p.tables e below (T1.setTop (mkF m 11 #[.val (.ref a1), .val (.ref rt), .val (.int (4 : Int32)), .val (.int (0 : Int32)), .unset] [(.int (0 : Int32))])) _
    refine XS.iloadN X1.here hx rfl (hb hby d20_11) rfl ?_
    show Steps p.tables e below (T1.setTop (mkF m 12 #[.val (.ref a1), .val (.ref rt), .val (.int (4 : Int32)), .val (.int (0 : Int32)), .unset] [(.int (4 : Int32)), (.int (0 : Int32))])) _
    refine XS.icmpNo X1.here hx rfl (hb hby d20_12) rfl (tlt (by decide : (0 : Int32) < (4 : Int32))).2.1 ?_
    show Steps p.tables e below (T1.setTop (mkF m 15 #[.val (.ref a1), .val (.ref rt), .val (.int (4 : Int32)), .val (.int (0 : Int32)), .unset] [])) _
    refine XS.aloadN X1.here hx rfl (hb hby d20_15) rfl rfl ?_
    show Steps p.tables e below (T1.setTop (mkF m 16 #[.val (.ref a1), .val (.ref rt), .val (.int (4 : Int32)), .val (.int (0 : Int32)), .unset] [(.ref rt)])) _
    refine XS.iloadN X1.here hx rfl (hb hby d20_16) rfl ?_
    show Steps p.tables e below (T1.setTop (mkF m 17 #[.val (.ref a1), .val (.ref rt), .val (.int (4 : Int32)), .val (.int (0 : Int32)), .unset] [(.int (0 : Int32)), (.ref rt)])) _
    refine X1.iaload hx (j := (0 : Int32)) (v := (.int r0)) (by rw [e1]; exact Ar3.1) (State.isArrayOf_alike hZ.alike Ar3.2.1) Ar3.2.2 (inb_of Sz3 ⟨by decide, by decide⟩) (Has.at Hs3 (inb_of Sz3 ⟨by decide, by decide⟩) rfl) (g := (mkF m 17 #[.val (.ref a1), .val (.ref rt), .val (.int (4 : Int32)), .val (.int (0 : Int32)), .unset] [(.int (0 : Int32)), (.ref rt)])) rfl rfl (hb hby d20_17) _ ?_
    show Steps p.tables e below (T1.setTop (mkF m 18 #[.val (.ref a1), .val (.ref rt), .val (.int (4 : Int32)), .val (.int (0 : Int32)), .unset] [(.int r0)])) _
    refine XS.istore X1.here hx rfl (hb hby d20_18) rfl (l' := #[.val (.ref a1), .val (.ref rt), .val (.int (4 : Int32)), .val (.int (0 : Int32)), .val (.int r0)]) rfl ?_
    show Steps p.tables e below (T1.setTop (mkF m 20 #[.val (.ref a1), .val (.ref rt), .val (.int (4 : Int32)), .val (.int (0 : Int32)), .val (.int r0)] [])) _
    refine XS.iload X1.here hx rfl (hb hby d20_20) rfl ?_
    show Steps p.tables e below (T1.setTop (mkF m 22 #[.val (.ref a1), .val (.ref rt), .val (.int (4 : Int32)), .val (.int (0 : Int32)), .val (.int r0)] [(.int r0)])) _
    refine XS.iconst X1.here hx rfl (hb hby d20_22) ?_
    show Steps p.tables e below (T1.setTop (mkF m 23 #[.val (.ref a1), .val (.ref rt), .val (.int (4 : Int32)), .val (.int (0 : Int32)), .val (.int r0)] [(.int (-1 : Int32)), (.int r0)])) _
    refine XS.icmpYes X1.here hx rfl (pc0 := 23) (pc' := 28) rfl (hb hby d20_23) rfl (teq hr0).1 (by decide) (by decide) ?_
    show Steps p.tables e below (T1.setTop (mkF m 28 #[.val (.ref a1), .val (.ref rt), .val (.int (4 : Int32)), .val (.int (0 : Int32)), .val (.int r0)] [])) _
    refine XS.iinc X1.here hx rfl (hb hby d20_28) rfl (l' := #[.val (.ref a1), .val (.ref rt), .val (.int (4 : Int32)), .val (.int (1 : Int32)), .val (.int r0)]) rfl ?_
    show Steps p.tables e below (T1.setTop (mkF m 31 #[.val (.ref a1), .val (.ref rt), .val (.int (4 : Int32)), .val (.int (1 : Int32)), .val (.int r0)] [])) _
    refine XS.goto X1.here hx rfl (pc0 := 31) (pc' := 10) rfl (hb hby d20_31) (by decide) (by decide) ?_
    show Steps p.tables e below (T1.setTop (mkF m 10 #[.val (.ref a1), .val (.ref rt), .val (.int (4 : Int32)), .val (.int (1 : Int32)), .val (.int r0)] [])) _
    refine XS.iloadN X1.here hx rfl (hb hby d20_10) rfl ?_
    show Steps p.tables e below (T1.setTop (mkF m 11 #[.val (.ref a1), .val (.ref rt), .val (.int (4 : Int32)), .val (.int (1 : Int32)), .val (.int r0)] [(.int (1 : Int32))])) _
    refine XS.iloadN X1.here hx rfl (hb hby d20_11) rfl ?_
    show Steps p.tables e below (T1.setTop (mkF m 12 #[.val (.ref a1), .val (.ref rt), .val (.int (4 : Int32)), .val (.int (1 : Int32)), .val (.int r0)] [(.int (4 : Int32)), (.int (1 : Int32))])) _
    refine XS.icmpNo X1.here hx rfl (hb hby d20_12) rfl (tlt (by decide : (1 : Int32) < (4 : Int32))).2.1 ?_
    show Steps p.tables e below (T1.setTop (mkF m 15 #[.val (.ref a1), .val (.ref rt), .val (.int (4 : Int32)), .val (.int (1 : Int32)), .val (.int r0)] [])) _
    refine XS.aloadN X1.here hx rfl (hb hby d20_15) rfl rfl ?_
    show Steps p.tables e below (T1.setTop (mkF m 16 #[.val (.ref a1), .val (.ref rt), .val (.int (4 : Int32)), .val (.int (1 : Int32)), .val (.int r0)] [(.ref rt)])) _
    refine XS.iloadN X1.here hx rfl (hb hby d20_16) rfl ?_
    show Steps p.tables e below (T1.setTop (mkF m 17 #[.val (.ref a1), .val (.ref rt), .val (.int (4 : Int32)), .val (.int (1 : Int32)), .val (.int r0)] [(.int (1 : Int32)), (.ref rt)])) _
    refine X1.iaload hx (j := (1 : Int32)) (v := (.int r1)) (by rw [e1]; exact Ar4.1) (State.isArrayOf_alike hZ.alike Ar4.2.1) Ar4.2.2 (inb_of Sz4 ⟨by decide, by decide⟩) (Has.at Hs4 (inb_of Sz4 ⟨by decide, by decide⟩) rfl) (g := (mkF m 17 #[.val (.ref a1), .val (.ref rt), .val (.int (4 : Int32)), .val (.int (1 : Int32)), .val (.int r0)] [(.int (1 : Int32)), (.ref rt)])) rfl rfl (hb hby d20_17) _ ?_
    show Steps p.tables e below (T1.setTop (mkF m 18 #[.val (.ref a1), .val (.ref rt), .val (.int (4 : Int32)), .val (.int (1 : Int32)), .val (.int r0)] [(.int r1)])) _
    refine XS.istore X1.here hx rfl (hb hby d20_18) rfl (l' := #[.val (.ref a1), .val (.ref rt), .val (.int (4 : Int32)), .val (.int (1 : Int32)), .val (.int r1)]) rfl ?_
    show Steps p.tables e below (T1.setTop (mkF m 20 #[.val (.ref a1), .val (.ref rt), .val (.int (4 : Int32)), .val (.int (1 : Int32)), .val (.int r1)] [])) _
    refine XS.iload X1.here hx rfl (hb hby d20_20) rfl ?_
    show Steps p.tables e below (T1.setTop (mkF m 22 #[.val (.ref a1), .val (.ref rt), .val (.int (4 : Int32)), .val (.int (1 : Int32)), .val (.int r1)] [(.int r1)])) _
    refine XS.iconst X1.here hx rfl (hb hby d20_22) ?_
    show Steps p.tables e below (T1.setTop (mkF m 23 #[.val (.ref a1), .val (.ref rt), .val (.int (4 : Int32)), .val (.int (1 : Int32)), .val (.int r1)] [(.int (-1 : Int32)), (.int r1)])) _
    refine XS.icmpYes X1.here hx rfl (pc0 := 23) (pc' := 28) rfl (hb hby d20_23) rfl (teq hr1).1 (by decide) (by decide) ?_
    show Steps p.tables e below (T1.setTop (mkF m 28 #[.val (.ref a1), .val (.ref rt), .val (.int (4 : Int32)), .val (.int (1 : Int32)), .val (.int r1)] [])) _
    refine XS.iinc X1.here hx rfl (hb hby d20_28) rfl (l' := #[.val (.ref a1), .val (.ref rt), .val (.int (4 : Int32)), .val (.int (2 : Int32)), .val (.int r1)]) rfl ?_
    show Steps p.tables e below (T1.setTop (mkF m 31 #[.val (.ref a1), .val (.ref rt), .val (.int (4 : Int32)), .val (.int (2 : Int32)), .val (.int r1)] [])) _
    refine XS.goto X1.here hx rfl (pc0 := 31) (pc' := 10) rfl (hb hby d20_31) (by decide) (by decide) ?_
    show Steps p.tables e below (T1.setTop (mkF m 10 #[.val (.ref a1), .val (.ref rt), .val (.int (4 : Int32)), .val (.int (2 : Int32)), .val (.int r1)] [])) _
    refine XS.iloadN X1.here hx rfl (hb hby d20_10) rfl ?_
    show Steps p.tables e below (T1.setTop (mkF m 11 #[.val (.ref a1), .val (.ref rt), .val (.int (4 : Int32)), .val (.int (2 : Int32)), .val (.int r1)] [(.int (2 : Int32))])) _
    refine XS.iloadN X1.here hx rfl (hb hby d20_11) rfl ?_
    show Steps p.tables e below (T1.setTop (mkF m 12 #[.val (.ref a1), .val (.ref rt), .val (.int (4 : Int32)), .val (.int (2 : Int32)), .val (.int r1)] [(.int (4 : Int32)), (.int (2 : Int32))])) _
    refine XS.icmpNo X1.here hx rfl (hb hby d20_12) rfl (tlt (by decide : (2 : Int32) < (4 : Int32))).2.1 ?_
    show Steps p.tables e below (T1.setTop (mkF m 15 #[.val (.ref a1), .val (.ref rt), .val (.int (4 : Int32)), .val (.int (2 : Int32)), .val (.int r1)] [])) _
    refine XS.aloadN X1.here hx rfl (hb hby d20_15) rfl rfl ?_
    show Steps p.tables e below (T1.setTop (mkF m 16 #[.val (.ref a1), .val (.ref rt), .val (.int (4 : Int32)), .val (.int (2 : Int32)), .val (.int r1)] [(.ref rt)])) _
    refine XS.iloadN X1.here hx rfl (hb hby d20_16) rfl ?_
    show Steps p.tables e below (T1.setTop (mkF m 17 #[.val (.ref a1), .val (.ref rt), .val (.int (4 : Int32)), .val (.int (2 : Int32)), .val (.int r1)] [(.int (2 : Int32)), (.ref rt)])) _
    refine X1.iaload hx (j := (2 : Int32)) (v := (.int r2)) (by rw [e1]; exact Ar5.1) (State.isArrayOf_alike hZ.alike Ar5.2.1) Ar5.2.2 (inb_of Sz5 ⟨by decide, by decide⟩) (Has.at Hs5 (inb_of Sz5 ⟨by decide, by decide⟩) rfl) (g := (mkF m 17 #[.val (.ref a1), .val (.ref rt), .val (.int (4 : Int32)), .val (.int (2 : Int32)), .val (.int r1)] [(.int (2 : Int32)), (.ref rt)])) rfl rfl (hb hby d20_17) _ ?_
    show Steps p.tables e below (T1.setTop (mkF m 18 #[.val (.ref a1), .val (.ref rt), .val (.int (4 : Int32)), .val (.int (2 : Int32)), .val (.int r1)] [(.int r2)])) _
    refine XS.istore X1.here hx rfl (hb hby d20_18) rfl (l' := #[.val (.ref a1), .val (.ref rt), .val (.int (4 : Int32)), .val (.int (2 : Int32)), .val (.int r2)]) rfl ?_
    show Steps p.tables e below (T1.setTop (mkF m 20 #[.val (.ref a1), .val (.ref rt), .val (.int (4 : Int32)), .val (.int (2 : Int32)), .val (.int r2)] [])) _
    refine XS.iload X1.here hx rfl (hb hby d20_20) rfl ?_
    show Steps p.tables e below (T1.setTop (mkF m 22 #[.val (.ref a1), .val (.ref rt), .val (.int (4 : Int32)), .val (.int (2 : Int32)), .val (.int r2)] [(.int r2)])) _
    refine XS.iconst X1.here hx rfl (hb hby d20_22) ?_
    show Steps p.tables e below (T1.setTop (mkF m 23 #[.val (.ref a1), .val (.ref rt), .val (.int (4 : Int32)), .val (.int (2 : Int32)), .val (.int r2)] [(.int (-1 : Int32)), (.int r2)])) _
    refine XS.icmpNo X1.here hx rfl (hb hby d20_23) rfl (feq hr2).1 ?_
    show Steps p.tables e below (T1.setTop (mkF m 26 #[.val (.ref a1), .val (.ref rt), .val (.int (4 : Int32)), .val (.int (2 : Int32)), .val (.int r2)] [])) _
    refine XS.iconst X1.here hx rfl (hb hby d20_26) ?_
    show Steps p.tables e below (T1.setTop (mkF m 27 #[.val (.ref a1), .val (.ref rt), .val (.int (4 : Int32)), .val (.int (2 : Int32)), .val (.int r2)] [(.int (0 : Int32))])) _
    exact retN X1 hx (t := .boolean) Bd.returns (by simp) (hb hby d20_27) hr
  · show Q_rm_em2 Z a1 rt kr r0 r1 r2 r3 h0 n0 _ T1.heap _
    rw [e1]
    exact ⟨rfl, N0, rfl⟩
theorem ef_rm_em3 (m : MethodId) (x0 : Addr) : entryFrame m #[(.ref x0)] 5 = mkF m 0 #[.val (.ref x0), .unset, .unset, .unset, .unset] [] := by first | (simp [entryFrame, mkF, argsToLocals, Value.category]; done) | rfl
def Q_rm_em3 (Z : State) (a1 : Addr) (rt : Addr) (kr : ClassId) (r0 : Int32) (r1 : Int32) (r2 : Int32) (r3 : Int32) (h0 : Heap) (n0 : Nat) (v : Option Value) (h : Heap) (L : List Loc) : Prop := v = some (.int (0 : Int32)) ∧ Fr n0 L ∧ h = h0
set_option maxRecDepth 65536 in
set_option maxHeartbeats 40000000 in
theorem rm_em3 (l : Launch) (Z : State) (a0 : Array Value) (hw : ∀ d ∈ tables_1, d.before a0 Z = true) (ws : List Jvm.Cond) (a1 : Addr) (rt : Addr) (kr : ClassId) (r0 : Int32) (r1 : Int32) (r2 : Int32) (r3 : Int32) (h0 : Heap) (n0 : Nat) (Z0 : n0 ≤ h0.size) (pr0 : Fld Z h0 a1 "com/example/concordia/concordia/index/LinkedCode" "roots" "[I" (.ref rt)) (pr1 : Arv Z h0 rt kr .int (4 : Int32) [(.int r0), (.int r1), (.int r2), (.int r3)] (.int (0 : Int32))) (hr0 : r0 = (-1 : Int32)) (hr1 : r1 = (-1 : Int32)) (hr2 : r2 = (-1 : Int32)) (hr3 : ¬ (r3 = (-1 : Int32))) :
    MetFree l (⟨"com/example/concordia/concordia/index/LinkedCode", "isEmpty", "()Z"⟩ : MethodName) (head1 (Jvm.Cond.code (⟨"com/example/concordia/concordia/index/LinkedCode", "isEmpty", "()Z"⟩ : MethodName) prog_43_method_9_code 5 (some .boolean) :: ws) ({ frames := 0, cells := 0, slots := 0, locals := 0 } : Room)) (fun a U => a = #[(.ref a1)] ∧ Z.Warmed39 U.vm ∧ U.heap = h0) (fun _ _ _ _ _ => True) (fun _ U o U' => ∃ v L, o = .returned v ∧ Q_rm_em3 Z a1 rt kr r0 r1 r2 r3 h0 n0 v U'.heap L ∧ FrameEnd U o U' L ({ frames := 0, cells := 0, slots := 0, locals := 0 } : Room).cells ({ frames := 0, cells := 0, slots := 0, locals := 0 } : Room).slots) := by
  refine MetFree.of_bodySF (plainFor_of_name pn_com_example_concordia_concordia_index_LinkedCode) hisR ?_
  intro p e s m args below meth c s₁ Bd hml0 hP hK
  obtain ⟨rfl, hZ, hh⟩ := hP
  have hx := Bd.exec
  have hby := Bd.bytes
  have hml : c.maxLocals = 5 := hml0
  have hown : s.vm.findClass "com/example/concordia/concordia/index/LinkedCode" = some m.cls := findClass_of_methodNamed Bd.named
  have hnm := (name_of_methodNamed Bd.named Bd.method).1
  have X0 : Stand p l e ({ frames := 0, cells := 0, slots := 0, locals := 0 } : Room) s m #[(.ref a1)] below meth c s₁ [] 0 0 := Stand.of_body Bd
  have e0 : s₁.heap = h0 := by rw [← hh, Bd.state]; rfl
  have N0 := Fr.nil n0
  have pre0 : ∀ t, Steps p.tables e below (s₁.setTop (mkF m 0 #[.val (.ref a1), .unset, .unset, .unset, .unset] [])) t → Steps p.tables e below (s₁.setTop (entryFrame m #[(.ref a1)] 5)) t := fun t k => castTop (ef_rm_em3 m a1) k
  obtain ⟨T1, X1, e1, st1⟩ := getF X0 hx hZ hown (host := "") (Or.inl (hw _ (List.mem_of_getElem? (i := 118) rfl))) Via.refl e0 pr0 (g := (mkF m 1 #[.val (.ref a1), .unset, .unset, .unset, .unset] [(.ref a1)])) rfl rfl (hb hby d20_1)
  obtain ⟨cl2, Ar2, q2, Sz2, Ng2, Hs2, Ft2⟩ := id pr1
  obtain ⟨cl3, Ar3, q3, Sz3, Ng3, Hs3, Ft3⟩ := id pr1
  obtain ⟨cl4, Ar4, q4, Sz4, Ng4, Hs4, Ft4⟩ := id pr1
  obtain ⟨cl5, Ar5, q5, Sz5, Ng5, Hs5, Ft5⟩ := id pr1
  obtain ⟨cl6, Ar6, q6, Sz6, Ng6, Hs6, Ft6⟩ := id pr1
  obtain ⟨fs, hr, hrun, hended, hW, hsame⟩ := X1.leave (v := some (.int (0 : Int32))) (fun h => by rw [Bd.returns] at h; cases h)
  refine ⟨_, _, pre0 _ ?_, hrun, hended, _, _, rfl, ?_, ⟨_, rfl⟩, hW, hsame.mono (by decide) (by decide)⟩
  · show Steps p.tables e below (s₁.setTop (mkF m 0 #[.val (.ref a1), .unset, .unset, .unset, .unset] [])) _
    refine XS.aloadN X0.here hx rfl (hb hby d20_0) rfl rfl ?_
    show Steps p.tables e below (s₁.setTop (mkF m 1 #[.val (.ref a1), .unset, .unset, .unset, .unset] [(.ref a1)])) _
    refine st1 _ ?_
    show Steps p.tables e below (T1.setTop (mkF m 4 #[.val (.ref a1), .unset, .unset, .unset, .unset] [(.ref rt)])) _
    refine XS.astoreN X1.here hx rfl (hb hby d20_4) rfl rfl (l' := #[.val (.ref a1), .val (.ref rt), .unset, .unset, .unset]) rfl ?_
    show Steps p.tables e below (T1.setTop (mkF m 5 #[.val (.ref a1), .val (.ref rt), .unset, .unset, .unset] [])) _
    refine XS.aloadN X1.here hx rfl (hb hby d20_5) rfl rfl ?_
    show Steps p.tables e below (T1.setTop (mkF m 6 #[.val (.ref a1), .val (.ref rt), .unset, .unset, .unset] [(.ref rt)])) _
    refine X1.arraylength hx (by rw [e1]; exact Ar2.1) (State.isArrayOf_alike hZ.alike Ar2.2.1) (g := (mkF m 6 #[.val (.ref a1), .val (.ref rt), .unset, .unset, .unset] [(.ref rt)])) rfl rfl (hb hby d20_6) _ ?_
    rw [len_of Sz2 Ng2]
    show Steps p.tables e below (T1.setTop (mkF m 7 #[.val (.ref a1), .val (.ref rt), .unset, .unset, .unset] [(.int (4 : Int32))])) _
    refine XS.istoreN X1.here hx rfl (hb hby d20_7) rfl (l' := #[.val (.ref a1), .val (.ref rt), .val (.int (4 : Int32)), .unset, .unset]) rfl ?_
    show Steps p.tables e below (T1.setTop (mkF m 8 #[.val (.ref a1), .val (.ref rt), .val (.int (4 : Int32)), .unset, .unset] [])) _
    refine XS.iconst X1.here hx rfl (hb hby d20_8) ?_
    show Steps p.tables e below (T1.setTop (mkF m 9 #[.val (.ref a1), .val (.ref rt), .val (.int (4 : Int32)), .unset, .unset] [(.int (0 : Int32))])) _
    refine XS.istoreN X1.here hx rfl (hb hby d20_9) rfl (l' := #[.val (.ref a1), .val (.ref rt), .val (.int (4 : Int32)), .val (.int (0 : Int32)), .unset]) rfl ?_
    show Steps p.tables e below (T1.setTop (mkF m 10 #[.val (.ref a1), .val (.ref rt), .val (.int (4 : Int32)), .val (.int (0 : Int32)), .unset] [])) _
    refine XS.iloadN X1.here hx rfl (hb hby d20_10) rfl ?_
    show Steps p.tables e below (T1.setTop (mkF m 11 #[.val (.ref a1), .val (.ref rt), .val (.int (4 : Int32)), .val (.int (0 : Int32)), .unset] [(.int (0 : Int32))])) _
    refine XS.iloadN X1.here hx rfl (hb hby d20_11) rfl ?_
    show Steps p.tables e below (T1.setTop (mkF m 12 #[.val (.ref a1), .val (.ref rt), .val (.int (4 : Int32)), .val (.int (0 : Int32)), .unset] [(.int (4 : Int32)), (.int (0 : Int32))])) _
    refine XS.icmpNo X1.here hx rfl (hb hby d20_12) rfl (tlt (by decide : (0 : Int32) < (4 : Int32))).2.1 ?_
    show Steps p.tables e below (T1.setTop (mkF m 15 #[.val (.ref a1), .val (.ref rt), .val (.int (4 : Int32)), .val (.int (0 : Int32)), .unset] [])) _
    refine XS.aloadN X1.here hx rfl (hb hby d20_15) rfl rfl ?_
    show Steps p.tables e below (T1.setTop (mkF m 16 #[.val (.ref a1), .val (.ref rt), .val (.int (4 : Int32)), .val (.int (0 : Int32)), .unset] [(.ref rt)])) _
    refine XS.iloadN X1.here hx rfl (hb hby d20_16) rfl ?_
    show Steps p.tables e below (T1.setTop (mkF m 17 #[.val (.ref a1), .val (.ref rt), .val (.int (4 : Int32)), .val (.int (0 : Int32)), .unset] [(.int (0 : Int32)), (.ref rt)])) _
    refine X1.iaload hx (j := (0 : Int32)) (v := (.int r0)) (by rw [e1]; exact Ar3.1) (State.isArrayOf_alike hZ.alike Ar3.2.1) Ar3.2.2 (inb_of Sz3 ⟨by decide, by decide⟩) (Has.at Hs3 (inb_of Sz3 ⟨by decide, by decide⟩) rfl) (g := (mkF m 17 #[.val (.ref a1), .val (.ref rt), .val (.int (4 : Int32)), .val (.int (0 : Int32)), .unset] [(.int (0 : Int32)), (.ref rt)])) rfl rfl (hb hby d20_17) _ ?_
    show Steps p.tables e below (T1.setTop (mkF m 18 #[.val (.ref a1), .val (.ref rt), .val (.int (4 : Int32)), .val (.int (0 : Int32)), .unset] [(.int r0)])) _
    refine XS.istore X1.here hx rfl (hb hby d20_18) rfl (l' := #[.val (.ref a1), .val (.ref rt), .val (.int (4 : Int32)), .val (.int (0 : Int32)), .val (.int r0)]) rfl ?_
    show Steps p.tables e below (T1.setTop (mkF m 20 #[.val (.ref a1), .val (.ref rt), .val (.int (4 : Int32)), .val (.int (0 : Int32)), .val (.int r0)] [])) _
    refine XS.iload X1.here hx rfl (hb hby d20_20) rfl ?_
    show Steps p.tables e below (T1.setTop (mkF m 22 #[.val (.ref a1), .val (.ref rt), .val (.int (4 : Int32)), .val (.int (0 : Int32)), .val (.int r0)] [(.int r0)])) _
    refine XS.iconst X1.here hx rfl (hb hby d20_22) ?_
    show Steps p.tables e below (T1.setTop (mkF m 23 #[.val (.ref a1), .val (.ref rt), .val (.int (4 : Int32)), .val (.int (0 : Int32)), .val (.int r0)] [(.int (-1 : Int32)), (.int r0)])) _
    refine XS.icmpYes X1.here hx rfl (pc0 := 23) (pc' := 28) rfl (hb hby d20_23) rfl (teq hr0).1 (by decide) (by decide) ?_
    show Steps p.tables e below (T1.setTop (mkF m 28 #[.val (.ref a1), .val (.ref rt), .val (.int (4 : Int32)), .val (.int (0 : Int32)), .val (.int r0)] [])) _
    refine XS.iinc X1.here hx rfl (hb hby d20_28) rfl (l' := #[.val (.ref a1), .val (.ref rt), .val (.int (4 : Int32)), .val (.int (1 : Int32)), .val (.int r0)]) rfl ?_
    show Steps p.tables e below (T1.setTop (mkF m 31 #[.val (.ref a1), .val (.ref rt), .val (.int (4 : Int32)), .val (.int (1 : Int32)), .val (.int r0)] [])) _
    refine XS.goto X1.here hx rfl (pc0 := 31) (pc' := 10) rfl (hb hby d20_31) (by decide) (by decide) ?_
    show Steps p.tables e below (T1.setTop (mkF m 10 #[.val (.ref a1), .val (.ref rt), .val (.int (4 : Int32)), .val (.int (1 : Int32)), .val (.int r0)] [])) _
    refine XS.iloadN X1.here hx rfl (hb hby d20_10) rfl ?_
    show Steps p.tables e below (T1.setTop (mkF m 11 #[.val (.ref a1), .val (.ref rt), .val (.int (4 : Int32)), .val (.int (1 : Int32)), .val (.int r0)] [(.int (1 : Int32))])) _
    refine XS.iloadN X1.here hx rfl (hb hby d20_11) rfl ?_
    show Steps p.tables e below (T1.setTop (mkF m 12 #[.val (.ref a1), .val (.ref rt), .val (.int (4 : Int32)), .val (.int (1 : Int32)), .val (.int r0)] [(.int (4 : Int32)), (.int (1 : Int32))])) _
    refine XS.icmpNo X1.here hx rfl (hb hby d20_12) rfl (tlt (by decide : (1 : Int32) < (4 : Int32))).2.1 ?_
    show Steps p.tables e below (T1.setTop (mkF m 15 #[.val (.ref a1), .val (.ref rt), .val (.int (4 : Int32)), .val (.int (1 : Int32)), .val (.int r0)] [])) _
    refine XS.aloadN X1.here hx rfl (hb hby d20_15) rfl rfl ?_
    show Steps p.tables e below (T1.setTop (mkF m 16 #[.val (.ref a1), .val (.ref rt), .val (.int (4 : Int32)), .val (.int (1 : Int32)), .val (.int r0)] [(.ref rt)])) _
    refine XS.iloadN X1.here hx rfl (hb hby d20_16) rfl ?_
    show Steps p.tables e below (T1.setTop (mkF m 17 #[.val (.ref a1), .val (.ref rt), .val (.int (4 : Int32)), .val (.int (1 : Int32)), .val (.int r0)] [(.int (1 : Int32)), (.ref rt)])) _
    refine X1.iaload hx (j := (1 : Int32)) (v := (.int r1)) (by rw [e1]; exact Ar4.1) (State.isArrayOf_alike hZ.alike Ar4.2.1) Ar4.2.2 (inb_of Sz4 ⟨by decide, by decide⟩) (Has.at Hs4 (inb_of Sz4 ⟨by decide, by decide⟩) rfl) (g := (mkF m 17 #[.val (.ref a1), .val (.ref rt), .val (.int (4 : Int32)), .val (.int (1 : Int32)), .val (.int r0)] [(.int (1 : Int32)), (.ref rt)])) rfl rfl (hb hby d20_17) _ ?_
    show Steps p.tables e below (T1.setTop (mkF m 18 #[.val (.ref a1), .val (.ref rt), .val (.int (4 : Int32)), .val (.int (1 : Int32)), .val (.int r0)] [(.int r1)])) _
    refine XS.istore X1.here hx rfl (hb hby d20_18) rfl (l' := #[.val (.ref a1), .val (.ref rt), .val (.int (4 : Int32)), .val (.int (1 : Int32)), .val (.int r1)]) rfl ?_
    show Steps p.tables e below (T1.setTop (mkF m 20 #[.val (.ref a1), .val (.ref rt), .val (.int (4 : Int32)), .val (.int (1 : Int32)), .val (.int r1)] [])) _
    refine XS.iload X1.here hx rfl (hb hby d20_20) rfl ?_
    show Steps p.tables e below (T1.setTop (mkF m 22 #[.val (.ref a1), .val (.ref rt), .val (.int (4 : Int32)), .val (.int (1 : Int32)), .val (.int r1)] [(.int r1)])) _
    refine XS.iconst X1.here hx rfl (hb hby d20_22) ?_
    show Steps p.tables e below (T1.setTop (mkF m 23 #[.val (.ref a1), .val (.ref rt), .val (.int (4 : Int32)), .val (.int (1 : Int32)), .val (.int r1)] [(.int (-1 : Int32)), (.int r1)])) _
    refine XS.icmpYes X1.here hx rfl (pc0 := 23) (pc' := 28) rfl (hb hby d20_23) rfl (teq hr1).1 (by decide) (by decide) ?_
    show Steps p.tables e below (T1.setTop (mkF m 28 #[.val (.ref a1), .val (.ref rt), .val (.int (4 : Int32)), .val (.int (1 : Int32)), .val (.int r1)] [])) _
    refine XS.iinc X1.here hx rfl (hb hby d20_28) rfl (l' := #[.val (.ref a1), .val (.ref rt), .val (.int (4 : Int32)), .val (.int (2 : Int32)), .val (.int r1)]) rfl ?_
    show Steps p.tables e below (T1.setTop (mkF m 31 #[.val (.ref a1), .val (.ref rt), .val (.int (4 : Int32)), .val (.int (2 : Int32)), .val (.int r1)] [])) _
    refine XS.goto X1.here hx rfl (pc0 := 31) (pc' := 10) rfl (hb hby d20_31) (by decide) (by decide) ?_
    show Steps p.tables e below (T1.setTop (mkF m 10 #[.val (.ref a1), .val (.ref rt), .val (.int (4 : Int32)), .val (.int (2 : Int32)), .val (.int r1)] [])) _
    refine XS.iloadN X1.here hx rfl (hb hby d20_10) rfl ?_
    show Steps p.tables e below (T1.setTop (mkF m 11 #[.val (.ref a1), .val (.ref rt), .val (.int (4 : Int32)), .val (.int (2 : Int32)), .val (.int r1)] [(.int (2 : Int32))])) _
    refine XS.iloadN X1.here hx rfl (hb hby d20_11) rfl ?_
    show Steps p.tables e below (T1.setTop (mkF m 12 #[.val (.ref a1), .val (.ref rt), .val (.int (4 : Int32)), .val (.int (2 : Int32)), .val (.int r1)] [(.int (4 : Int32)), (.int (2 : Int32))])) _
    refine XS.icmpNo X1.here hx rfl (hb hby d20_12) rfl (tlt (by decide : (2 : Int32) < (4 : Int32))).2.1 ?_
    show Steps p.tables e below (T1.setTop (mkF m 15 #[.val (.ref a1), .val (.ref rt), .val (.int (4 : Int32)), .val (.int (2 : Int32)), .val (.int r1)] [])) _
    refine XS.aloadN X1.here hx rfl (hb hby d20_15) rfl rfl ?_
    show Steps p.tables e below (T1.setTop (mkF m 16 #[.val (.ref a1), .val (.ref rt), .val (.int (4 : Int32)), .val (.int (2 : Int32)), .val (.int r1)] [(.ref rt)])) _
    refine XS.iloadN X1.here hx rfl (hb hby d20_16) rfl ?_
    show Steps p.tables e below (T1.setTop (mkF m 17 #[.val (.ref a1), .val (.ref rt), .val (.int (4 : Int32)), .val (.int (2 : Int32)), .val (.int r1)] [(.int (2 : Int32)), (.ref rt)])) _
    refine X1.iaload hx (j := (2 : Int32)) (v := (.int r2)) (by rw [e1]; exact Ar5.1) (State.isArrayOf_alike hZ.alike Ar5.2.1) Ar5.2.2 (inb_of Sz5 ⟨by decide, by decide⟩) (Has.at Hs5 (inb_of Sz5 ⟨by decide, by decide⟩) rfl) (g := (mkF m 17 #[.val (.ref a1), .val (.ref rt), .val (.int (4 : Int32)), .val (.int (2 : Int32)), .val (.int r1)] [(.int (2 : Int32)), (.ref rt)])) rfl rfl (hb hby d20_17) _ ?_
    show Steps p.tables e below (T1.setTop (mkF m 18 #[.val (.ref a1), .val (.ref rt), .val (.int (4 : Int32)), .val (.int (2 : Int32)), .val (.int r1)] [(.int r2)])) _
    refine XS.istore X1.here hx rfl (hb hby d20_18) rfl (l' := #[.val (.ref a1), .val (.ref rt), .val (.int (4 : Int32)), .val (.int (2 : Int32)), .val (.int r2)]) rfl ?_
    show Steps p.tables e below (T1.setTop (mkF m 20 #[.val (.ref a1), .val (.ref rt), .val (.int (4 : Int32)), .val (.int (2 : Int32)), .val (.int r2)] [])) _
    refine XS.iload X1.here hx rfl (hb hby d20_20) rfl ?_
    show Steps p.tables e below (T1.setTop (mkF m 22 #[.val (.ref a1), .val (.ref rt), .val (.int (4 : Int32)), .val (.int (2 : Int32)), .val (.int r2)] [(.int r2)])) _
    refine XS.iconst X1.here hx rfl (hb hby d20_22) ?_
    show Steps p.tables e below (T1.setTop (mkF m 23 #[.val (.ref a1), .val (.ref rt), .val (.int (4 : Int32)), .val (.int (2 : Int32)), .val (.int r2)] [(.int (-1 : Int32)), (.int r2)])) _
    refine XS.icmpYes X1.here hx rfl (pc0 := 23) (pc' := 28) rfl (hb hby d20_23) rfl (teq hr2).1 (by decide) (by decide) ?_
    show Steps p.tables e below (T1.setTop (mkF m 28 #[.val (.ref a1), .val (.ref rt), .val (.int (4 : Int32)), .val (.int (2 : Int32)), .val (.int r2)] [])) _
    refine XS.iinc X1.here hx rfl (hb hby d20_28) rfl (l' := #[.val (.ref a1), .val (.ref rt), .val (.int (4 : Int32)), .val (.int (3 : Int32)), .val (.int r2)]) rfl ?_
    show Steps p.tables e below (T1.setTop (mkF m 31 #[.val (.ref a1), .val (.ref rt), .val (.int (4 : Int32)), .val (.int (3 : Int32)), .val (.int r2)] [])) _
    refine XS.goto X1.here hx rfl (pc0 := 31) (pc' := 10) rfl (hb hby d20_31) (by decide) (by decide) ?_
    show Steps p.tables e below (T1.setTop (mkF m 10 #[.val (.ref a1), .val (.ref rt), .val (.int (4 : Int32)), .val (.int (3 : Int32)), .val (.int r2)] [])) _
    refine XS.iloadN X1.here hx rfl (hb hby d20_10) rfl ?_
    show Steps p.tables e below (T1.setTop (mkF m 11 #[.val (.ref a1), .val (.ref rt), .val (.int (4 : Int32)), .val (.int (3 : Int32)), .val (.int r2)] [(.int (3 : Int32))])) _
    refine XS.iloadN X1.here hx rfl (hb hby d20_11) rfl ?_
    show Steps p.tables e below (T1.setTop (mkF m 12 #[.val (.ref a1), .val (.ref rt), .val (.int (4 : Int32)), .val (.int (3 : Int32)), .val (.int r2)] [(.int (4 : Int32)), (.int (3 : Int32))])) _
    refine XS.icmpNo X1.here hx rfl (hb hby d20_12) rfl (tlt (by decide : (3 : Int32) < (4 : Int32))).2.1 ?_
    show Steps p.tables e below (T1.setTop (mkF m 15 #[.val (.ref a1), .val (.ref rt), .val (.int (4 : Int32)), .val (.int (3 : Int32)), .val (.int r2)] [])) _
    refine XS.aloadN X1.here hx rfl (hb hby d20_15) rfl rfl ?_
    show Steps p.tables e below (T1.setTop (mkF m 16 #[.val (.ref a1), .val (.ref rt), .val (.int (4 : Int32)), .val (.int (3 : Int32)), .val (.int r2)] [(.ref rt)])) _
    refine XS.iloadN X1.here hx rfl (hb hby d20_16) rfl ?_
    show Steps p.tables e below (T1.setTop (mkF m 17 #[.val (.ref a1), .val (.ref rt), .val (.int (4 : Int32)), .val (.int (3 : Int32)), .val (.int r2)] [(.int (3 : Int32)), (.ref rt)])) _
    refine X1.iaload hx (j := (3 : Int32)) (v := (.int r3)) (by rw [e1]; exact Ar6.1) (State.isArrayOf_alike hZ.alike Ar6.2.1) Ar6.2.2 (inb_of Sz6 ⟨by decide, by decide⟩) (Has.at Hs6 (inb_of Sz6 ⟨by decide, by decide⟩) rfl) (g := (mkF m 17 #[.val (.ref a1), .val (.ref rt), .val (.int (4 : Int32)), .val (.int (3 : Int32)), .val (.int r2)] [(.int (3 : Int32)), (.ref rt)])) rfl rfl (hb hby d20_17) _ ?_
    show Steps p.tables e below (T1.setTop (mkF m 18 #[.val (.ref a1), .val (.ref rt), .val (.int (4 : Int32)), .val (.int (3 : Int32)), .val (.int r2)] [(.int r3)])) _
    refine XS.istore X1.here hx rfl (hb hby d20_18) rfl (l' := #[.val (.ref a1), .val (.ref rt), .val (.int (4 : Int32)), .val (.int (3 : Int32)), .val (.int r3)]) rfl ?_
    show Steps p.tables e below (T1.setTop (mkF m 20 #[.val (.ref a1), .val (.ref rt), .val (.int (4 : Int32)), .val (.int (3 : Int32)), .val (.int r3)] [])) _
    refine XS.iload X1.here hx rfl (hb hby d20_20) rfl ?_
    show Steps p.tables e below (T1.setTop (mkF m 22 #[.val (.ref a1), .val (.ref rt), .val (.int (4 : Int32)), .val (.int (3 : Int32)), .val (.int r3)] [(.int r3)])) _
    refine XS.iconst X1.here hx rfl (hb hby d20_22) ?_
    show Steps p.tables e below (T1.setTop (mkF m 23 #[.val (.ref a1), .val (.ref rt), .val (.int (4 : Int32)), .val (.int (3 : Int32)), .val (.int r3)] [(.int (-1 : Int32)), (.int r3)])) _
    refine XS.icmpNo X1.here hx rfl (hb hby d20_23) rfl (feq hr3).1 ?_
    show Steps p.tables e below (T1.setTop (mkF m 26 #[.val (.ref a1), .val (.ref rt), .val (.int (4 : Int32)), .val (.int (3 : Int32)), .val (.int r3)] [])) _
    refine XS.iconst X1.here hx rfl (hb hby d20_26) ?_
    show Steps p.tables e below (T1.setTop (mkF m 27 #[.val (.ref a1), .val (.ref rt), .val (.int (4 : Int32)), .val (.int (3 : Int32)), .val (.int r3)] [(.int (0 : Int32))])) _
    exact retN X1 hx (t := .boolean) Bd.returns (by simp) (hb hby d20_27) hr
  · show Q_rm_em3 Z a1 rt kr r0 r1 r2 r3 h0 n0 _ T1.heap _
    rw [e1]
    exact ⟨rfl, N0, rfl⟩
theorem d20_34 : decode prog_43_method_9_code 34 = .ok (.iconst 1, 1) := by decide +kernel
theorem d20_35 : decode prog_43_method_9_code 35 = .ok (.ireturn, 1) := by decide +kernel
theorem ef_rm_em4 (m : MethodId) (x0 : Addr) : entryFrame m #[(.ref x0)] 5 = mkF m 0 #[.val (.ref x0), .unset, .unset, .unset, .unset] [] := by first | (simp [entryFrame, mkF, argsToLocals, Value.category]; done) | rfl
def Q_rm_em4 (Z : State) (a1 : Addr) (rt : Addr) (kr : ClassId) (r0 : Int32) (r1 : Int32) (r2 : Int32) (r3 : Int32) (h0 : Heap) (n0 : Nat) (v : Option Value) (h : Heap) (L : List Loc) : Prop := v = some (.int (1 : Int32)) ∧ Fr n0 L ∧ h = h0
set_option maxRecDepth 65536 in
set_option maxHeartbeats 40000000 in
theorem rm_em4 (l : Launch) (Z : State) (a0 : Array Value) (hw : ∀ d ∈ tables_1, d.before a0 Z = true) (ws : List Jvm.Cond) (a1 : Addr) (rt : Addr) (kr : ClassId) (r0 : Int32) (r1 : Int32) (r2 : Int32) (r3 : Int32) (h0 : Heap) (n0 : Nat) (Z0 : n0 ≤ h0.size) (pr0 : Fld Z h0 a1 "com/example/concordia/concordia/index/LinkedCode" "roots" "[I" (.ref rt)) (pr1 : Arv Z h0 rt kr .int (4 : Int32) [(.int r0), (.int r1), (.int r2), (.int r3)] (.int (0 : Int32))) (hr0 : r0 = (-1 : Int32)) (hr1 : r1 = (-1 : Int32)) (hr2 : r2 = (-1 : Int32)) (hr3 : r3 = (-1 : Int32)) :
    MetFree l (⟨"com/example/concordia/concordia/index/LinkedCode", "isEmpty", "()Z"⟩ : MethodName) (head1 (Jvm.Cond.code (⟨"com/example/concordia/concordia/index/LinkedCode", "isEmpty", "()Z"⟩ : MethodName) prog_43_method_9_code 5 (some .boolean) :: ws) ({ frames := 0, cells := 0, slots := 0, locals := 0 } : Room)) (fun a U => a = #[(.ref a1)] ∧ Z.Warmed39 U.vm ∧ U.heap = h0) (fun _ _ _ _ _ => True) (fun _ U o U' => ∃ v L, o = .returned v ∧ Q_rm_em4 Z a1 rt kr r0 r1 r2 r3 h0 n0 v U'.heap L ∧ FrameEnd U o U' L ({ frames := 0, cells := 0, slots := 0, locals := 0 } : Room).cells ({ frames := 0, cells := 0, slots := 0, locals := 0 } : Room).slots) := by
  refine MetFree.of_bodySF (plainFor_of_name pn_com_example_concordia_concordia_index_LinkedCode) hisR ?_
  intro p e s m args below meth c s₁ Bd hml0 hP hK
  obtain ⟨rfl, hZ, hh⟩ := hP
  have hx := Bd.exec
  have hby := Bd.bytes
  have hml : c.maxLocals = 5 := hml0
  have hown : s.vm.findClass "com/example/concordia/concordia/index/LinkedCode" = some m.cls := findClass_of_methodNamed Bd.named
  have hnm := (name_of_methodNamed Bd.named Bd.method).1
  have X0 : Stand p l e ({ frames := 0, cells := 0, slots := 0, locals := 0 } : Room) s m #[(.ref a1)] below meth c s₁ [] 0 0 := Stand.of_body Bd
  have e0 : s₁.heap = h0 := by rw [← hh, Bd.state]; rfl
  have N0 := Fr.nil n0
  have pre0 : ∀ t, Steps p.tables e below (s₁.setTop (mkF m 0 #[.val (.ref a1), .unset, .unset, .unset, .unset] [])) t → Steps p.tables e below (s₁.setTop (entryFrame m #[(.ref a1)] 5)) t := fun t k => castTop (ef_rm_em4 m a1) k
  obtain ⟨T1, X1, e1, st1⟩ := getF X0 hx hZ hown (host := "") (Or.inl (hw _ (List.mem_of_getElem? (i := 118) rfl))) Via.refl e0 pr0 (g := (mkF m 1 #[.val (.ref a1), .unset, .unset, .unset, .unset] [(.ref a1)])) rfl rfl (hb hby d20_1)
  obtain ⟨cl2, Ar2, q2, Sz2, Ng2, Hs2, Ft2⟩ := id pr1
  obtain ⟨cl3, Ar3, q3, Sz3, Ng3, Hs3, Ft3⟩ := id pr1
  obtain ⟨cl4, Ar4, q4, Sz4, Ng4, Hs4, Ft4⟩ := id pr1
  obtain ⟨cl5, Ar5, q5, Sz5, Ng5, Hs5, Ft5⟩ := id pr1
  obtain ⟨cl6, Ar6, q6, Sz6, Ng6, Hs6, Ft6⟩ := id pr1
  obtain ⟨fs, hr, hrun, hended, hW, hsame⟩ := X1.leave (v := some (.int (1 : Int32))) (fun h => by rw [Bd.returns] at h; cases h)
  refine ⟨_, _, pre0 _ ?_, hrun, hended, _, _, rfl, ?_, ⟨_, rfl⟩, hW, hsame.mono (by decide) (by decide)⟩
  · show Steps p.tables e below (s₁.setTop (mkF m 0 #[.val (.ref a1), .unset, .unset, .unset, .unset] [])) _
    refine XS.aloadN X0.here hx rfl (hb hby d20_0) rfl rfl ?_
    show Steps p.tables e below (s₁.setTop (mkF m 1 #[.val (.ref a1), .unset, .unset, .unset, .unset] [(.ref a1)])) _
    refine st1 _ ?_
    show Steps p.tables e below (T1.setTop (mkF m 4 #[.val (.ref a1), .unset, .unset, .unset, .unset] [(.ref rt)])) _
    refine XS.astoreN X1.here hx rfl (hb hby d20_4) rfl rfl (l' := #[.val (.ref a1), .val (.ref rt), .unset, .unset, .unset]) rfl ?_
    show Steps p.tables e below (T1.setTop (mkF m 5 #[.val (.ref a1), .val (.ref rt), .unset, .unset, .unset] [])) _
    refine XS.aloadN X1.here hx rfl (hb hby d20_5) rfl rfl ?_
    show Steps p.tables e below (T1.setTop (mkF m 6 #[.val (.ref a1), .val (.ref rt), .unset, .unset, .unset] [(.ref rt)])) _
    refine X1.arraylength hx (by rw [e1]; exact Ar2.1) (State.isArrayOf_alike hZ.alike Ar2.2.1) (g := (mkF m 6 #[.val (.ref a1), .val (.ref rt), .unset, .unset, .unset] [(.ref rt)])) rfl rfl (hb hby d20_6) _ ?_
    rw [len_of Sz2 Ng2]
    show Steps p.tables e below (T1.setTop (mkF m 7 #[.val (.ref a1), .val (.ref rt), .unset, .unset, .unset] [(.int (4 : Int32))])) _
    refine XS.istoreN X1.here hx rfl (hb hby d20_7) rfl (l' := #[.val (.ref a1), .val (.ref rt), .val (.int (4 : Int32)), .unset, .unset]) rfl ?_
    show Steps p.tables e below (T1.setTop (mkF m 8 #[.val (.ref a1), .val (.ref rt), .val (.int (4 : Int32)), .unset, .unset] [])) _
    refine XS.iconst X1.here hx rfl (hb hby d20_8) ?_
    show Steps p.tables e below (T1.setTop (mkF m 9 #[.val (.ref a1), .val (.ref rt), .val (.int (4 : Int32)), .unset, .unset] [(.int (0 : Int32))])) _
    refine XS.istoreN X1.here hx rfl (hb hby d20_9) rfl (l' := #[.val (.ref a1), .val (.ref rt), .val (.int (4 : Int32)), .val (.int (0 : Int32)), .unset]) rfl ?_
    show Steps p.tables e below (T1.setTop (mkF m 10 #[.val (.ref a1), .val (.ref rt), .val (.int (4 : Int32)), .val (.int (0 : Int32)), .unset] [])) _
    refine XS.iloadN X1.here hx rfl (hb hby d20_10) rfl ?_
    show Steps p.tables e below (T1.setTop (mkF m 11 #[.val (.ref a1), .val (.ref rt), .val (.int (4 : Int32)), .val (.int (0 : Int32)), .unset] [(.int (0 : Int32))])) _
    refine XS.iloadN X1.here hx rfl (hb hby d20_11) rfl ?_
    show Steps p.tables e below (T1.setTop (mkF m 12 #[.val (.ref a1), .val (.ref rt), .val (.int (4 : Int32)), .val (.int (0 : Int32)), .unset] [(.int (4 : Int32)), (.int (0 : Int32))])) _
    refine XS.icmpNo X1.here hx rfl (hb hby d20_12) rfl (tlt (by decide : (0 : Int32) < (4 : Int32))).2.1 ?_
    show Steps p.tables e below (T1.setTop (mkF m 15 #[.val (.ref a1), .val (.ref rt), .val (.int (4 : Int32)), .val (.int (0 : Int32)), .unset] [])) _
    refine XS.aloadN X1.here hx rfl (hb hby d20_15) rfl rfl ?_
    show Steps p.tables e below (T1.setTop (mkF m 16 #[.val (.ref a1), .val (.ref rt), .val (.int (4 : Int32)), .val (.int (0 : Int32)), .unset] [(.ref rt)])) _
    refine XS.iloadN X1.here hx rfl (hb hby d20_16) rfl ?_
    show Steps p.tables e below (T1.setTop (mkF m 17 #[.val (.ref a1), .val (.ref rt), .val (.int (4 : Int32)), .val (.int (0 : Int32)), .unset] [(.int (0 : Int32)), (.ref rt)])) _
    refine X1.iaload hx (j := (0 : Int32)) (v := (.int r0)) (by rw [e1]; exact Ar3.1) (State.isArrayOf_alike hZ.alike Ar3.2.1) Ar3.2.2 (inb_of Sz3 ⟨by decide, by decide⟩) (Has.at Hs3 (inb_of Sz3 ⟨by decide, by decide⟩) rfl) (g := (mkF m 17 #[.val (.ref a1), .val (.ref rt), .val (.int (4 : Int32)), .val (.int (0 : Int32)), .unset] [(.int (0 : Int32)), (.ref rt)])) rfl rfl (hb hby d20_17) _ ?_
    show Steps p.tables e below (T1.setTop (mkF m 18 #[.val (.ref a1), .val (.ref rt), .val (.int (4 : Int32)), .val (.int (0 : Int32)), .unset] [(.int r0)])) _
    refine XS.istore X1.here hx rfl (hb hby d20_18) rfl (l' := #[.val (.ref a1), .val (.ref rt), .val (.int (4 : Int32)), .val (.int (0 : Int32)), .val (.int r0)]) rfl ?_
    show Steps p.tables e below (T1.setTop (mkF m 20 #[.val (.ref a1), .val (.ref rt), .val (.int (4 : Int32)), .val (.int (0 : Int32)), .val (.int r0)] [])) _
    refine XS.iload X1.here hx rfl (hb hby d20_20) rfl ?_
    show Steps p.tables e below (T1.setTop (mkF m 22 #[.val (.ref a1), .val (.ref rt), .val (.int (4 : Int32)), .val (.int (0 : Int32)), .val (.int r0)] [(.int r0)])) _
    refine XS.iconst X1.here hx rfl (hb hby d20_22) ?_
    show Steps p.tables e below (T1.setTop (mkF m 23 #[.val (.ref a1), .val (.ref rt), .val (.int (4 : Int32)), .val (.int (0 : Int32)), .val (.int r0)] [(.int (-1 : Int32)), (.int r0)])) _
    refine XS.icmpYes X1.here hx rfl (pc0 := 23) (pc' := 28) rfl (hb hby d20_23) rfl (teq hr0).1 (by decide) (by decide) ?_
    show Steps p.tables e below (T1.setTop (mkF m 28 #[.val (.ref a1), .val (.ref rt), .val (.int (4 : Int32)), .val (.int (0 : Int32)), .val (.int r0)] [])) _
    refine XS.iinc X1.here hx rfl (hb hby d20_28) rfl (l' := #[.val (.ref a1), .val (.ref rt), .val (.int (4 : Int32)), .val (.int (1 : Int32)), .val (.int r0)]) rfl ?_
    show Steps p.tables e below (T1.setTop (mkF m 31 #[.val (.ref a1), .val (.ref rt), .val (.int (4 : Int32)), .val (.int (1 : Int32)), .val (.int r0)] [])) _
    refine XS.goto X1.here hx rfl (pc0 := 31) (pc' := 10) rfl (hb hby d20_31) (by decide) (by decide) ?_
    show Steps p.tables e below (T1.setTop (mkF m 10 #[.val (.ref a1), .val (.ref rt), .val (.int (4 : Int32)), .val (.int (1 : Int32)), .val (.int r0)] [])) _
    refine XS.iloadN X1.here hx rfl (hb hby d20_10) rfl ?_
    show Steps p.tables e below (T1.setTop (mkF m 11 #[.val (.ref a1), .val (.ref rt), .val (.int (4 : Int32)), .val (.int (1 : Int32)), .val (.int r0)] [(.int (1 : Int32))])) _
    refine XS.iloadN X1.here hx rfl (hb hby d20_11) rfl ?_
    show Steps p.tables e below (T1.setTop (mkF m 12 #[.val (.ref a1), .val (.ref rt), .val (.int (4 : Int32)), .val (.int (1 : Int32)), .val (.int r0)] [(.int (4 : Int32)), (.int (1 : Int32))])) _
    refine XS.icmpNo X1.here hx rfl (hb hby d20_12) rfl (tlt (by decide : (1 : Int32) < (4 : Int32))).2.1 ?_
    show Steps p.tables e below (T1.setTop (mkF m 15 #[.val (.ref a1), .val (.ref rt), .val (.int (4 : Int32)), .val (.int (1 : Int32)), .val (.int r0)] [])) _
    refine XS.aloadN X1.here hx rfl (hb hby d20_15) rfl rfl ?_
    show Steps p.tables e below (T1.setTop (mkF m 16 #[.val (.ref a1), .val (.ref rt), .val (.int (4 : Int32)), .val (.int (1 : Int32)), .val (.int r0)] [(.ref rt)])) _
    refine XS.iloadN X1.here hx rfl (hb hby d20_16) rfl ?_
    show Steps p.tables e below (T1.setTop (mkF m 17 #[.val (.ref a1), .val (.ref rt), .val (.int (4 : Int32)), .val (.int (1 : Int32)), .val (.int r0)] [(.int (1 : Int32)), (.ref rt)])) _
    refine X1.iaload hx (j := (1 : Int32)) (v := (.int r1)) (by rw [e1]; exact Ar4.1) (State.isArrayOf_alike hZ.alike Ar4.2.1) Ar4.2.2 (inb_of Sz4 ⟨by decide, by decide⟩) (Has.at Hs4 (inb_of Sz4 ⟨by decide, by decide⟩) rfl) (g := (mkF m 17 #[.val (.ref a1), .val (.ref rt), .val (.int (4 : Int32)), .val (.int (1 : Int32)), .val (.int r0)] [(.int (1 : Int32)), (.ref rt)])) rfl rfl (hb hby d20_17) _ ?_
    show Steps p.tables e below (T1.setTop (mkF m 18 #[.val (.ref a1), .val (.ref rt), .val (.int (4 : Int32)), .val (.int (1 : Int32)), .val (.int r0)] [(.int r1)])) _
    refine XS.istore X1.here hx rfl (hb hby d20_18) rfl (l' := #[.val (.ref a1), .val (.ref rt), .val (.int (4 : Int32)), .val (.int (1 : Int32)), .val (.int r1)]) rfl ?_
    show Steps p.tables e below (T1.setTop (mkF m 20 #[.val (.ref a1), .val (.ref rt), .val (.int (4 : Int32)), .val (.int (1 : Int32)), .val (.int r1)] [])) _
    refine XS.iload X1.here hx rfl (hb hby d20_20) rfl ?_
    show Steps p.tables e below (T1.setTop (mkF m 22 #[.val (.ref a1), .val (.ref rt), .val (.int (4 : Int32)), .val (.int (1 : Int32)), .val (.int r1)] [(.int r1)])) _
    refine XS.iconst X1.here hx rfl (hb hby d20_22) ?_
    show Steps p.tables e below (T1.setTop (mkF m 23 #[.val (.ref a1), .val (.ref rt), .val (.int (4 : Int32)), .val (.int (1 : Int32)), .val (.int r1)] [(.int (-1 : Int32)), (.int r1)])) _
    refine XS.icmpYes X1.here hx rfl (pc0 := 23) (pc' := 28) rfl (hb hby d20_23) rfl (teq hr1).1 (by decide) (by decide) ?_
    show Steps p.tables e below (T1.setTop (mkF m 28 #[.val (.ref a1), .val (.ref rt), .val (.int (4 : Int32)), .val (.int (1 : Int32)), .val (.int r1)] [])) _
    refine XS.iinc X1.here hx rfl (hb hby d20_28) rfl (l' := #[.val (.ref a1), .val (.ref rt), .val (.int (4 : Int32)), .val (.int (2 : Int32)), .val (.int r1)]) rfl ?_
    show Steps p.tables e below (T1.setTop (mkF m 31 #[.val (.ref a1), .val (.ref rt), .val (.int (4 : Int32)), .val (.int (2 : Int32)), .val (.int r1)] [])) _
    refine XS.goto X1.here hx rfl (pc0 := 31) (pc' := 10) rfl (hb hby d20_31) (by decide) (by decide) ?_
    show Steps p.tables e below (T1.setTop (mkF m 10 #[.val (.ref a1), .val (.ref rt), .val (.int (4 : Int32)), .val (.int (2 : Int32)), .val (.int r1)] [])) _
    refine XS.iloadN X1.here hx rfl (hb hby d20_10) rfl ?_
    show Steps p.tables e below (T1.setTop (mkF m 11 #[.val (.ref a1), .val (.ref rt), .val (.int (4 : Int32)), .val (.int (2 : Int32)), .val (.int r1)] [(.int (2 : Int32))])) _
    refine XS.iloadN X1.here hx rfl (hb hby d20_11) rfl ?_
    show Steps p.tables e below (T1.setTop (mkF m 12 #[.val (.ref a1), .val (.ref rt), .val (.int (4 : Int32)), .val (.int (2 : Int32)), .val (.int r1)] [(.int (4 : Int32)), (.int (2 : Int32))])) _
    refine XS.icmpNo X1.here hx rfl (hb hby d20_12) rfl (tlt (by decide : (2 : Int32) < (4 : Int32))).2.1 ?_
    show Steps p.tables e below (T1.setTop (mkF m 15 #[.val (.ref a1), .val (.ref rt), .val (.int (4 : Int32)), .val (.int (2 : Int32)), .val (.int r1)] [])) _
    refine XS.aloadN X1.here hx rfl (hb hby d20_15) rfl rfl ?_
    show Steps p.tables e below (T1.setTop (mkF m 16 #[.val (.ref a1), .val (.ref rt), .val (.int (4 : Int32)), .val (.int (2 : Int32)), .val (.int r1)] [(.ref rt)])) _
    refine XS.iloadN X1.here hx rfl (hb hby d20_16) rfl ?_
    show Steps p.tables e below (T1.setTop (mkF m 17 #[.val (.ref a1), .val (.ref rt), .val (.int (4 : Int32)), .val (.int (2 : Int32)), .val (.int r1)] [(.int (2 : Int32)), (.ref rt)])) _
    refine X1.iaload hx (j := (2 : Int32)) (v := (.int r2)) (by rw [e1]; exact Ar5.1) (State.isArrayOf_alike hZ.alike Ar5.2.1) Ar5.2.2 (inb_of Sz5 ⟨by decide, by decide⟩) (Has.at Hs5 (inb_of Sz5 ⟨by decide, by decide⟩) rfl) (g := (mkF m 17 #[.val (.ref a1), .val (.ref rt), .val (.int (4 : Int32)), .val (.int (2 : Int32)), .val (.int r1)] [(.int (2 : Int32)), (.ref rt)])) rfl rfl (hb hby d20_17) _ ?_
    show Steps p.tables e below (T1.setTop (mkF m 18 #[.val (.ref a1), .val (.ref rt), .val (.int (4 : Int32)), .val (.int (2 : Int32)), .val (.int r1)] [(.int r2)])) _
    refine XS.istore X1.here hx rfl (hb hby d20_18) rfl (l' := #[.val (.ref a1), .val (.ref rt), .val (.int (4 : Int32)), .val (.int (2 : Int32)), .val (.int r2)]) rfl ?_
    show Steps p.tables e below (T1.setTop (mkF m 20 #[.val (.ref a1), .val (.ref rt), .val (.int (4 : Int32)), .val (.int (2 : Int32)), .val (.int r2)] [])) _
    refine XS.iload X1.here hx rfl (hb hby d20_20) rfl ?_
    show Steps p.tables e below (T1.setTop (mkF m 22 #[.val (.ref a1), .val (.ref rt), .val (.int (4 : Int32)), .val (.int (2 : Int32)), .val (.int r2)] [(.int r2)])) _
    refine XS.iconst X1.here hx rfl (hb hby d20_22) ?_
    show Steps p.tables e below (T1.setTop (mkF m 23 #[.val (.ref a1), .val (.ref rt), .val (.int (4 : Int32)), .val (.int (2 : Int32)), .val (.int r2)] [(.int (-1 : Int32)), (.int r2)])) _
    refine XS.icmpYes X1.here hx rfl (pc0 := 23) (pc' := 28) rfl (hb hby d20_23) rfl (teq hr2).1 (by decide) (by decide) ?_
    show Steps p.tables e below (T1.setTop (mkF m 28 #[.val (.ref a1), .val (.ref rt), .val (.int (4 : Int32)), .val (.int (2 : Int32)), .val (.int r2)] [])) _
    refine XS.iinc X1.here hx rfl (hb hby d20_28) rfl (l' := #[.val (.ref a1), .val (.ref rt), .val (.int (4 : Int32)), .val (.int (3 : Int32)), .val (.int r2)]) rfl ?_
    show Steps p.tables e below (T1.setTop (mkF m 31 #[.val (.ref a1), .val (.ref rt), .val (.int (4 : Int32)), .val (.int (3 : Int32)), .val (.int r2)] [])) _
    refine XS.goto X1.here hx rfl (pc0 := 31) (pc' := 10) rfl (hb hby d20_31) (by decide) (by decide) ?_
    show Steps p.tables e below (T1.setTop (mkF m 10 #[.val (.ref a1), .val (.ref rt), .val (.int (4 : Int32)), .val (.int (3 : Int32)), .val (.int r2)] [])) _
    refine XS.iloadN X1.here hx rfl (hb hby d20_10) rfl ?_
    show Steps p.tables e below (T1.setTop (mkF m 11 #[.val (.ref a1), .val (.ref rt), .val (.int (4 : Int32)), .val (.int (3 : Int32)), .val (.int r2)] [(.int (3 : Int32))])) _
    refine XS.iloadN X1.here hx rfl (hb hby d20_11) rfl ?_
    show Steps p.tables e below (T1.setTop (mkF m 12 #[.val (.ref a1), .val (.ref rt), .val (.int (4 : Int32)), .val (.int (3 : Int32)), .val (.int r2)] [(.int (4 : Int32)), (.int (3 : Int32))])) _
    refine XS.icmpNo X1.here hx rfl (hb hby d20_12) rfl (tlt (by decide : (3 : Int32) < (4 : Int32))).2.1 ?_
    show Steps p.tables e below (T1.setTop (mkF m 15 #[.val (.ref a1), .val (.ref rt), .val (.int (4 : Int32)), .val (.int (3 : Int32)), .val (.int r2)] [])) _
    refine XS.aloadN X1.here hx rfl (hb hby d20_15) rfl rfl ?_
    show Steps p.tables e below (T1.setTop (mkF m 16 #[.val (.ref a1), .val (.ref rt), .val (.int (4 : Int32)), .val (.int (3 : Int32)), .val (.int r2)] [(.ref rt)])) _
    refine XS.iloadN X1.here hx rfl (hb hby d20_16) rfl ?_
    show Steps p.tables e below (T1.setTop (mkF m 17 #[.val (.ref a1), .val (.ref rt), .val (.int (4 : Int32)), .val (.int (3 : Int32)), .val (.int r2)] [(.int (3 : Int32)), (.ref rt)])) _
    refine X1.iaload hx (j := (3 : Int32)) (v := (.int r3)) (by rw [e1]; exact Ar6.1) (State.isArrayOf_alike hZ.alike Ar6.2.1) Ar6.2.2 (inb_of Sz6 ⟨by decide, by decide⟩) (Has.at Hs6 (inb_of Sz6 ⟨by decide, by decide⟩) rfl) (g := (mkF m 17 #[.val (.ref a1), .val (.ref rt), .val (.int (4 : Int32)), .val (.int (3 : Int32)), .val (.int r2)] [(.int (3 : Int32)), (.ref rt)])) rfl rfl (hb hby d20_17) _ ?_
    show Steps p.tables e below (T1.setTop (mkF m 18 #[.val (.ref a1), .val (.ref rt), .val (.int (4 : Int32)), .val (.int (3 : Int32)), .val (.int r2)] [(.int r3)])) _
    refine XS.istore X1.here hx rfl (hb hby d20_18) rfl (l' := #[.val (.ref a1), .val (.ref rt), .val (.int (4 : Int32)), .val (.int (3 : Int32)), .val (.int r3)]) rfl ?_
    show Steps p.tables e below (T1.setTop (mkF m 20 #[.val (.ref a1), .val (.ref rt), .val (.int (4 : Int32)), .val (.int (3 : Int32)), .val (.int r3)] [])) _
    refine XS.iload X1.here hx rfl (hb hby d20_20) rfl ?_
    show Steps p.tables e below (T1.setTop (mkF m 22 #[.val (.ref a1), .val (.ref rt), .val (.int (4 : Int32)), .val (.int (3 : Int32)), .val (.int r3)] [(.int r3)])) _
    refine XS.iconst X1.here hx rfl (hb hby d20_22) ?_
    show Steps p.tables e below (T1.setTop (mkF m 23 #[.val (.ref a1), .val (.ref rt), .val (.int (4 : Int32)), .val (.int (3 : Int32)), .val (.int r3)] [(.int (-1 : Int32)), (.int r3)])) _
    refine XS.icmpYes X1.here hx rfl (pc0 := 23) (pc' := 28) rfl (hb hby d20_23) rfl (teq hr3).1 (by decide) (by decide) ?_
    show Steps p.tables e below (T1.setTop (mkF m 28 #[.val (.ref a1), .val (.ref rt), .val (.int (4 : Int32)), .val (.int (3 : Int32)), .val (.int r3)] [])) _
    refine XS.iinc X1.here hx rfl (hb hby d20_28) rfl (l' := #[.val (.ref a1), .val (.ref rt), .val (.int (4 : Int32)), .val (.int (4 : Int32)), .val (.int r3)]) rfl ?_
    show Steps p.tables e below (T1.setTop (mkF m 31 #[.val (.ref a1), .val (.ref rt), .val (.int (4 : Int32)), .val (.int (4 : Int32)), .val (.int r3)] [])) _
    refine XS.goto X1.here hx rfl (pc0 := 31) (pc' := 10) rfl (hb hby d20_31) (by decide) (by decide) ?_
    show Steps p.tables e below (T1.setTop (mkF m 10 #[.val (.ref a1), .val (.ref rt), .val (.int (4 : Int32)), .val (.int (4 : Int32)), .val (.int r3)] [])) _
    refine XS.iloadN X1.here hx rfl (hb hby d20_10) rfl ?_
    show Steps p.tables e below (T1.setTop (mkF m 11 #[.val (.ref a1), .val (.ref rt), .val (.int (4 : Int32)), .val (.int (4 : Int32)), .val (.int r3)] [(.int (4 : Int32))])) _
    refine XS.iloadN X1.here hx rfl (hb hby d20_11) rfl ?_
    show Steps p.tables e below (T1.setTop (mkF m 12 #[.val (.ref a1), .val (.ref rt), .val (.int (4 : Int32)), .val (.int (4 : Int32)), .val (.int r3)] [(.int (4 : Int32)), (.int (4 : Int32))])) _
    refine XS.icmpYes X1.here hx rfl (pc0 := 12) (pc' := 34) rfl (hb hby d20_12) rfl (flt (by decide : ¬ ((4 : Int32) < (4 : Int32)))).2.1 (by decide) (by decide) ?_
    show Steps p.tables e below (T1.setTop (mkF m 34 #[.val (.ref a1), .val (.ref rt), .val (.int (4 : Int32)), .val (.int (4 : Int32)), .val (.int r3)] [])) _
    refine XS.iconst X1.here hx rfl (hb hby d20_34) ?_
    show Steps p.tables e below (T1.setTop (mkF m 35 #[.val (.ref a1), .val (.ref rt), .val (.int (4 : Int32)), .val (.int (4 : Int32)), .val (.int r3)] [(.int (1 : Int32))])) _
    exact retN X1 hx (t := .boolean) Bd.returns (by simp) (hb hby d20_35) hr
  · show Q_rm_em4 Z a1 rt kr r0 r1 r2 r3 h0 n0 _ T1.heap _
    rw [e1]
    exact ⟨rfl, N0, rfl⟩
theorem d23_0 : decode prog_46_method_8_code 0 = .ok (.aload_n 0, 1) := by decide +kernel
theorem d23_1 : decode prog_46_method_8_code 1 = .ok (.getfield 59, 3) := by decide +kernel
theorem d23_4 : decode prog_46_method_8_code 4 = .ok (.ireturn, 1) := by decide +kernel
theorem ef_rm_llf (m : MethodId) (x0 : Addr) : entryFrame m #[(.ref x0)] 1 = mkF m 0 #[.val (.ref x0)] [] := by first | (simp [entryFrame, mkF, argsToLocals, Value.category]; done) | rfl
def Q_rm_llf (Z : State) (a1 : Addr) (h0 : Heap) (n0 : Nat) (v : Option Value) (h : Heap) (L : List Loc) : Prop := v = some (.int (0 : Int32)) ∧ Fr n0 L ∧ h = h0
set_option maxRecDepth 65536 in
set_option maxHeartbeats 40000000 in
theorem rm_llf (l : Launch) (Z : State) (a0 : Array Value) (hw : ∀ d ∈ tables_1, d.before a0 Z = true) (ws : List Jvm.Cond) (a1 : Addr) (h0 : Heap) (n0 : Nat) (Z0 : n0 ≤ h0.size) (pr0 : Fld Z h0 a1 "com/example/concordia/concordia/index/Program" "lastLiteralFrom" "I" (.int (0 : Int32))) :
    MetFree l (⟨"com/example/concordia/concordia/index/Program", "lastLiteralFrom", "()I"⟩ : MethodName) (head1 (Jvm.Cond.code (⟨"com/example/concordia/concordia/index/Program", "lastLiteralFrom", "()I"⟩ : MethodName) prog_46_method_8_code 1 (some .int) :: ws) ({ frames := 0, cells := 0, slots := 0, locals := 0 } : Room)) (fun a U => a = #[(.ref a1)] ∧ Z.Warmed39 U.vm ∧ U.heap = h0) (fun _ _ _ _ _ => True) (fun _ U o U' => ∃ v L, o = .returned v ∧ Q_rm_llf Z a1 h0 n0 v U'.heap L ∧ FrameEnd U o U' L ({ frames := 0, cells := 0, slots := 0, locals := 0 } : Room).cells ({ frames := 0, cells := 0, slots := 0, locals := 0 } : Room).slots) := by
  refine MetFree.of_bodySF (plainFor_of_name pn_com_example_concordia_concordia_index_Program) hisR ?_
  intro p e s m args below meth c s₁ Bd hml0 hP hK
  obtain ⟨rfl, hZ, hh⟩ := hP
  have hx := Bd.exec
  have hby := Bd.bytes
  have hml : c.maxLocals = 1 := hml0
  have hown : s.vm.findClass "com/example/concordia/concordia/index/Program" = some m.cls := findClass_of_methodNamed Bd.named
  have hnm := (name_of_methodNamed Bd.named Bd.method).1
  have X0 : Stand p l e ({ frames := 0, cells := 0, slots := 0, locals := 0 } : Room) s m #[(.ref a1)] below meth c s₁ [] 0 0 := Stand.of_body Bd
  have e0 : s₁.heap = h0 := by rw [← hh, Bd.state]; rfl
  have N0 := Fr.nil n0
  have pre0 : ∀ t, Steps p.tables e below (s₁.setTop (mkF m 0 #[.val (.ref a1)] [])) t → Steps p.tables e below (s₁.setTop (entryFrame m #[(.ref a1)] 1)) t := fun t k => castTop (ef_rm_llf m a1) k
  obtain ⟨T1, X1, e1, st1⟩ := getF X0 hx hZ hown (host := "") (Or.inl (hw _ (List.mem_of_getElem? (i := 195) rfl))) Via.refl e0 pr0 (g := (mkF m 1 #[.val (.ref a1)] [(.ref a1)])) rfl rfl (hb hby d23_1)
  obtain ⟨fs, hr, hrun, hended, hW, hsame⟩ := X1.leave (v := some (.int (0 : Int32))) (fun h => by rw [Bd.returns] at h; cases h)
  refine ⟨_, _, pre0 _ ?_, hrun, hended, _, _, rfl, ?_, ⟨_, rfl⟩, hW, hsame.mono (by decide) (by decide)⟩
  · show Steps p.tables e below (s₁.setTop (mkF m 0 #[.val (.ref a1)] [])) _
    refine XS.aloadN X0.here hx rfl (hb hby d23_0) rfl rfl ?_
    show Steps p.tables e below (s₁.setTop (mkF m 1 #[.val (.ref a1)] [(.ref a1)])) _
    refine st1 _ ?_
    show Steps p.tables e below (T1.setTop (mkF m 4 #[.val (.ref a1)] [(.int (0 : Int32))])) _
    exact retI X1 hx Bd.returns (hb hby d23_4) hr
  · show Q_rm_llf Z a1 h0 n0 _ T1.heap _
    rw [e1]
    exact ⟨rfl, N0, rfl⟩
theorem d26_0 : decode prog_22_method_2_code 0 = .ok (.aload_n 0, 1) := by decide +kernel
theorem d26_1 : decode prog_22_method_2_code 1 = .ok (.getfield 13, 3) := by decide +kernel
theorem d26_4 : decode prog_22_method_2_code 4 = .ok (.ireturn, 1) := by decide +kernel
theorem ef_rm_ilsize (m : MethodId) (x0 : Addr) : entryFrame m #[(.ref x0)] 1 = mkF m 0 #[.val (.ref x0)] [] := by first | (simp [entryFrame, mkF, argsToLocals, Value.category]; done) | rfl
def Q_rm_ilsize (Z : State) (a1 : Addr) (h0 : Heap) (n0 : Nat) (v : Option Value) (h : Heap) (L : List Loc) : Prop := v = some (.int (0 : Int32)) ∧ Fr n0 L ∧ h = h0
set_option maxRecDepth 65536 in
set_option maxHeartbeats 40000000 in
theorem rm_ilsize (l : Launch) (Z : State) (a0 : Array Value) (hw : ∀ d ∈ tables_1, d.before a0 Z = true) (ws : List Jvm.Cond) (a1 : Addr) (h0 : Heap) (n0 : Nat) (Z0 : n0 ≤ h0.size) (pr0 : Fld Z h0 a1 "com/example/concordia/concordia/expr/IntList" "size" "I" (.int (0 : Int32))) :
    MetFree l (⟨"com/example/concordia/concordia/expr/IntList", "size", "()I"⟩ : MethodName) (head1 (Jvm.Cond.code (⟨"com/example/concordia/concordia/expr/IntList", "size", "()I"⟩ : MethodName) prog_22_method_2_code 1 (some .int) :: ws) ({ frames := 0, cells := 0, slots := 0, locals := 0 } : Room)) (fun a U => a = #[(.ref a1)] ∧ Z.Warmed39 U.vm ∧ U.heap = h0) (fun _ _ _ _ _ => True) (fun _ U o U' => ∃ v L, o = .returned v ∧ Q_rm_ilsize Z a1 h0 n0 v U'.heap L ∧ FrameEnd U o U' L ({ frames := 0, cells := 0, slots := 0, locals := 0 } : Room).cells ({ frames := 0, cells := 0, slots := 0, locals := 0 } : Room).slots) := by
  refine MetFree.of_bodySF (plainFor_of_name pn_com_example_concordia_concordia_expr_IntList) hisR ?_
  intro p e s m args below meth c s₁ Bd hml0 hP hK
  obtain ⟨rfl, hZ, hh⟩ := hP
  have hx := Bd.exec
  have hby := Bd.bytes
  have hml : c.maxLocals = 1 := hml0
  have hown : s.vm.findClass "com/example/concordia/concordia/expr/IntList" = some m.cls := findClass_of_methodNamed Bd.named
  have hnm := (name_of_methodNamed Bd.named Bd.method).1
  have X0 : Stand p l e ({ frames := 0, cells := 0, slots := 0, locals := 0 } : Room) s m #[(.ref a1)] below meth c s₁ [] 0 0 := Stand.of_body Bd
  have e0 : s₁.heap = h0 := by rw [← hh, Bd.state]; rfl
  have N0 := Fr.nil n0
  have pre0 : ∀ t, Steps p.tables e below (s₁.setTop (mkF m 0 #[.val (.ref a1)] [])) t → Steps p.tables e below (s₁.setTop (entryFrame m #[(.ref a1)] 1)) t := fun t k => castTop (ef_rm_ilsize m a1) k
  obtain ⟨T1, X1, e1, st1⟩ := getF X0 hx hZ hown (host := "") (Or.inl (hw _ (List.mem_of_getElem? (i := 211) rfl))) Via.refl e0 pr0 (g := (mkF m 1 #[.val (.ref a1)] [(.ref a1)])) rfl rfl (hb hby d26_1)
  obtain ⟨fs, hr, hrun, hended, hW, hsame⟩ := X1.leave (v := some (.int (0 : Int32))) (fun h => by rw [Bd.returns] at h; cases h)
  refine ⟨_, _, pre0 _ ?_, hrun, hended, _, _, rfl, ?_, ⟨_, rfl⟩, hW, hsame.mono (by decide) (by decide)⟩
  · show Steps p.tables e below (s₁.setTop (mkF m 0 #[.val (.ref a1)] [])) _
    refine XS.aloadN X0.here hx rfl (hb hby d26_0) rfl rfl ?_
    show Steps p.tables e below (s₁.setTop (mkF m 1 #[.val (.ref a1)] [(.ref a1)])) _
    refine st1 _ ?_
    show Steps p.tables e below (T1.setTop (mkF m 4 #[.val (.ref a1)] [(.int (0 : Int32))])) _
    exact retI X1 hx Bd.returns (hb hby d26_4) hr
  · show Q_rm_ilsize Z a1 h0 n0 _ T1.heap _
    rw [e1]
    exact ⟨rfl, N0, rfl⟩
theorem d25_0 : decode prog_46_method_4_code 0 = .ok (.aload_n 0, 1) := by decide +kernel
theorem d25_1 : decode prog_46_method_4_code 1 = .ok (.getfield 10, 3) := by decide +kernel
theorem d25_4 : decode prog_46_method_4_code 4 = .ok (.invokevirtual 56, 3) := by decide +kernel
theorem pd__40_41I : parseMethodDescriptor "()I" = some ⟨[], some .int⟩ := by decide +kernel
theorem d25_7 : decode prog_46_method_4_code 7 = .ok (.ireturn, 1) := by decide +kernel
theorem ef_rm_pgsize (m : MethodId) (x0 : Addr) : entryFrame m #[(.ref x0)] 1 = mkF m 0 #[.val (.ref x0)] [] := by first | (simp [entryFrame, mkF, argsToLocals, Value.category]; done) | rfl
def Q_rm_pgsize (Z : State) (a1 : Addr) (il : Addr) (h0 : Heap) (n0 : Nat) (v : Option Value) (h : Heap) (L : List Loc) : Prop := v = some (.int (0 : Int32)) ∧ Fr n0 L ∧ h = h0
set_option maxRecDepth 65536 in
set_option maxHeartbeats 40000000 in
theorem rm_pgsize (l : Launch) (Z : State) (a0 : Array Value) (hw : ∀ d ∈ tables_1, d.before a0 Z = true) (ws : List Jvm.Cond) (a1 : Addr) (il : Addr) (h0 : Heap) (n0 : Nat) (Z0 : n0 ≤ h0.size) (pr0 : Fld Z h0 a1 "com/example/concordia/concordia/index/Program" "instructions" "Lcom/example/concordia/concordia/expr/IntList;" (.ref il)) (pr1 : Exa Z h0 il "com/example/concordia/concordia/expr/IntList") (pr2 : Fld Z h0 il "com/example/concordia/concordia/expr/IntList" "size" "I" (.int (0 : Int32))) :
    MetFree l (⟨"com/example/concordia/concordia/index/Program", "size", "()I"⟩ : MethodName) (head1 (Jvm.Cond.code (⟨"com/example/concordia/concordia/index/Program", "size", "()I"⟩ : MethodName) prog_46_method_4_code 1 (some .int) :: ws) ({ frames := 1, cells := 0, slots := 0, locals := 12 } : Room)) (fun a U => a = #[(.ref a1)] ∧ Z.Warmed39 U.vm ∧ U.heap = h0) (fun _ _ _ _ _ => True) (fun _ U o U' => ∃ v L, o = .returned v ∧ Q_rm_pgsize Z a1 il h0 n0 v U'.heap L ∧ FrameEnd U o U' L ({ frames := 1, cells := 0, slots := 0, locals := 12 } : Room).cells ({ frames := 1, cells := 0, slots := 0, locals := 12 } : Room).slots) := by
  refine MetFree.of_bodySF (plainFor_of_name pn_com_example_concordia_concordia_index_Program) hisR ?_
  intro p e s m args below meth c s₁ Bd hml0 hP hK
  obtain ⟨rfl, hZ, hh⟩ := hP
  have hx := Bd.exec
  have hby := Bd.bytes
  have hml : c.maxLocals = 1 := hml0
  have hown : s.vm.findClass "com/example/concordia/concordia/index/Program" = some m.cls := findClass_of_methodNamed Bd.named
  have hnm := (name_of_methodNamed Bd.named Bd.method).1
  have X0 : Stand p l e ({ frames := 1, cells := 0, slots := 0, locals := 12 } : Room) s m #[(.ref a1)] below meth c s₁ [] 0 0 := Stand.of_body Bd
  have e0 : s₁.heap = h0 := by rw [← hh, Bd.state]; rfl
  have N0 := Fr.nil n0
  have pre0 : ∀ t, Steps p.tables e below (s₁.setTop (mkF m 0 #[.val (.ref a1)] [])) t → Steps p.tables e below (s₁.setTop (entryFrame m #[(.ref a1)] 1)) t := fun t k => castTop (ef_rm_pgsize m a1) k
  obtain ⟨T1, X1, e1, st1⟩ := getF X0 hx hZ hown (host := "") (Or.inl (hw _ (List.mem_of_getElem? (i := 166) rfl))) Via.refl e0 pr0 (g := (mkF m 1 #[.val (.ref a1)] [(.ref a1)])) rfl rfl (hb hby d25_1)
  obtain ⟨cq2, kq2, q2a, q2b, q2c⟩ := isOf hZ e1 pr1
  obtain ⟨_, _, ⟨T2, L2, k2, n2⟩, -, X2, ⟨Lc2, hQ2, l2, y2, z2⟩, st2⟩ := X1.virtualBack hx (y := (⟨"com/example/concordia/concordia/expr/IntList", "size", "()I"⟩ : MethodName)) (z := (⟨"com/example/concordia/concordia/expr/IntList", "size", "()I"⟩ : MethodName)) hown (mvT hZ (hw _ (List.mem_of_getElem? (i := 206) rfl))) (mvT hZ (hw _ (List.mem_of_getElem? (i := 207) rfl))) (notFace_of_selects (args := #[]) (mvT hZ (hw _ (List.mem_of_getElem? (i := 209) rfl)))) (mvT hZ (hw _ (List.mem_of_getElem? (i := 209) rfl))) (mvT hZ (hw _ (List.mem_of_getElem? (i := 208) rfl))) (by decide) (backOf (W := 0) (rm_ilsize l Z a0 hw [] il h0 n0 Z0 pr2) hZ (hw _ (List.mem_of_getElem? (i := 210) rfl)) (hw _ (List.mem_of_getElem? (i := 65) rfl)) (by decide) (by decide)) q2a q2c (g := (mkF m 4 #[.val (.ref a1)] [(.ref il)])) rfl (by rw [hml]; rfl) (Steps.refl _) (argsL := []) (rest := []) (lenOf pd__40_41I rfl) rfl (by show 2 * 0 + _ ≤ _; exact Nat.le_of_eq rfl) (hb hby d25_4) (fun _ _ => ⟨rfl, e1, (by decide : 0 + 0 ≤ _), (by decide : 0 + 0 ≤ _)⟩)
  dsimp only [Pt.U, Pt.locs, Pt.cells, Pt.slots] at X2 l2 y2 z2 st2 hQ2
  subst l2 y2 z2
  obtain ⟨rfl, Nq2, e2⟩ := hQ2
  have N2 := Fr.app N0 Nq2
  obtain ⟨fs, hr, hrun, hended, hW, hsame⟩ := X2.leave (v := some (.int (0 : Int32))) (fun h => by rw [Bd.returns] at h; cases h)
  refine ⟨_, _, pre0 _ ?_, hrun, hended, _, _, rfl, ?_, ⟨_, rfl⟩, hW, hsame.mono (by decide) (by decide)⟩
  · show Steps p.tables e below (s₁.setTop (mkF m 0 #[.val (.ref a1)] [])) _
    refine XS.aloadN X0.here hx rfl (hb hby d25_0) rfl rfl ?_
    show Steps p.tables e below (s₁.setTop (mkF m 1 #[.val (.ref a1)] [(.ref a1)])) _
    refine st1 _ ?_
    show Steps p.tables e below (T1.setTop (mkF m 4 #[.val (.ref a1)] [(.ref il)])) _
    refine st2.trans ?_
    show Steps p.tables e below (T2.setTop (mkF m 7 #[.val (.ref a1)] [(.int (0 : Int32))])) _
    exact retI X2 hx Bd.returns (hb hby d25_7) hr
  · show Q_rm_pgsize Z a1 il h0 n0 _ T2.heap _
    rw [e2]
    exact ⟨rfl, N2, rfl⟩
theorem d24_0 : decode jdk_29_method_65_code 0 = .ok (.iload_n 0, 1) := by decide +kernel
theorem d24_1 : decode jdk_29_method_65_code 1 = .ok (.iload_n 1, 1) := by decide +kernel
theorem d24_2 : decode jdk_29_method_65_code 2 = .ok (.if_icmp .lt 7, 3) := by decide +kernel
theorem d24_5 : decode jdk_29_method_65_code 5 = .ok (.iload_n 0, 1) := by decide +kernel
theorem d24_6 : decode jdk_29_method_65_code 6 = .ok (.goto 4, 3) := by decide +kernel
theorem d24_10 : decode jdk_29_method_65_code 10 = .ok (.ireturn, 1) := by decide +kernel
theorem ef_rm_max (m : MethodId) (x0 : Int32) (x1 : Int32) : entryFrame m #[(.int x0), (.int x1)] 2 = mkF m 0 #[.val (.int x0), .val (.int x1)] [] := by first | (simp [entryFrame, mkF, argsToLocals, Value.category]; done) | rfl
def Q_rm_max (Z : State)  (h0 : Heap) (n0 : Nat) (v : Option Value) (h : Heap) (L : List Loc) : Prop := v = some (.int (0 : Int32)) ∧ Fr n0 L ∧ h = h0
set_option maxRecDepth 65536 in
set_option maxHeartbeats 40000000 in
theorem rm_max (l : Launch) (Z : State) (a0 : Array Value) (hw : ∀ d ∈ tables_1, d.before a0 Z = true) (ws : List Jvm.Cond)  (h0 : Heap) (n0 : Nat) (Z0 : n0 ≤ h0.size) :
    MetFree l (⟨"java/lang/Math", "max", "(II)I"⟩ : MethodName) (head1 (Jvm.Cond.code (⟨"java/lang/Math", "max", "(II)I"⟩ : MethodName) jdk_29_method_65_code 2 (some .int) :: ws) ({ frames := 0, cells := 0, slots := 0, locals := 0 } : Room)) (fun a U => a = #[(.int (0 : Int32)), (.int (0 : Int32))] ∧ Z.Warmed39 U.vm ∧ U.heap = h0) (fun _ _ _ _ _ => True) (fun _ U o U' => ∃ v L, o = .returned v ∧ Q_rm_max Z  h0 n0 v U'.heap L ∧ FrameEnd U o U' L ({ frames := 0, cells := 0, slots := 0, locals := 0 } : Room).cells ({ frames := 0, cells := 0, slots := 0, locals := 0 } : Room).slots) := by
  refine MetFree.of_bodySF (Jvm.Free.JP.mathPlain rfl (by decide +kernel)) hisR ?_
  intro p e s m args below meth c s₁ Bd hml0 hP hK
  obtain ⟨rfl, hZ, hh⟩ := hP
  have hx := Bd.exec
  have hby := Bd.bytes
  have hml : c.maxLocals = 2 := hml0
  have hown : s.vm.findClass "java/lang/Math" = some m.cls := findClass_of_methodNamed Bd.named
  have hnm := (name_of_methodNamed Bd.named Bd.method).1
  have X0 : Stand p l e ({ frames := 0, cells := 0, slots := 0, locals := 0 } : Room) s m #[(.int (0 : Int32)), (.int (0 : Int32))] below meth c s₁ [] 0 0 := Stand.of_body Bd
  have e0 : s₁.heap = h0 := by rw [← hh, Bd.state]; rfl
  have N0 := Fr.nil n0
  have pre0 : ∀ t, Steps p.tables e below (s₁.setTop (mkF m 0 #[.val (.int (0 : Int32)), .val (.int (0 : Int32))] [])) t → Steps p.tables e below (s₁.setTop (entryFrame m #[(.int (0 : Int32)), (.int (0 : Int32))] 2)) t := fun t k => castTop (ef_rm_max m (0 : Int32) (0 : Int32)) k
  obtain ⟨fs, hr, hrun, hended, hW, hsame⟩ := X0.leave (v := some (.int (0 : Int32))) (fun h => by rw [Bd.returns] at h; cases h)
  refine ⟨_, _, pre0 _ ?_, hrun, hended, _, _, rfl, ?_, ⟨_, rfl⟩, hW, hsame.mono (by decide) (by decide)⟩
  · show Steps p.tables e below (s₁.setTop (mkF m 0 #[.val (.int (0 : Int32)), .val (.int (0 : Int32))] [])) _
    refine XS.iloadN X0.here hx rfl (hb hby d24_0) rfl ?_
    show Steps p.tables e below (s₁.setTop (mkF m 1 #[.val (.int (0 : Int32)), .val (.int (0 : Int32))] [(.int (0 : Int32))])) _
    refine XS.iloadN X0.here hx rfl (hb hby d24_1) rfl ?_
    show Steps p.tables e below (s₁.setTop (mkF m 2 #[.val (.int (0 : Int32)), .val (.int (0 : Int32))] [(.int (0 : Int32)), (.int (0 : Int32))])) _
    refine XS.icmpNo X0.here hx rfl (hb hby d24_2) rfl (flt (by decide : ¬ ((0 : Int32) < (0 : Int32)))).1 ?_
    show Steps p.tables e below (s₁.setTop (mkF m 5 #[.val (.int (0 : Int32)), .val (.int (0 : Int32))] [])) _
    refine XS.iloadN X0.here hx rfl (hb hby d24_5) rfl ?_
    show Steps p.tables e below (s₁.setTop (mkF m 6 #[.val (.int (0 : Int32)), .val (.int (0 : Int32))] [(.int (0 : Int32))])) _
    refine XS.goto X0.here hx rfl (pc0 := 6) (pc' := 10) rfl (hb hby d24_6) (by decide) (by decide) ?_
    show Steps p.tables e below (s₁.setTop (mkF m 10 #[.val (.int (0 : Int32)), .val (.int (0 : Int32))] [(.int (0 : Int32))])) _
    exact retI X0 hx Bd.returns (hb hby d24_10) hr
  · show Q_rm_max Z  h0 n0 _ s₁.heap _
    rw [e0]
    exact ⟨rfl, N0, rfl⟩
theorem d27_0 : decode prog_26_method_2_code 0 = .ok (.iload_n 1, 1) := by decide +kernel
theorem d27_1 : decode prog_26_method_2_code 1 = .ok (.iconst 5, 1) := by decide +kernel
theorem d27_2 : decode prog_26_method_2_code 2 = .ok (.ishl, 1) := by decide +kernel
theorem d27_3 : decode prog_26_method_2_code 3 = .ok (.iload_n 0, 1) := by decide +kernel
theorem d27_4 : decode prog_26_method_2_code 4 = .ok (.ior, 1) := by decide +kernel
theorem d27_5 : decode prog_26_method_2_code 5 = .ok (.ireturn, 1) := by decide +kernel
theorem ef_rm_instr (m : MethodId) (x0 : Int32) (x1 : Int32) : entryFrame m #[(.int x0), (.int x1)] 2 = mkF m 0 #[.val (.int x0), .val (.int x1)] [] := by first | (simp [entryFrame, mkF, argsToLocals, Value.category]; done) | rfl
def Q_rm_instr (Z : State) (p2 : Int32) (h0 : Heap) (n0 : Nat) (v : Option Value) (h : Heap) (L : List Loc) : Prop := v = some (.int ((p2 <<< ((5 : Int32) &&& 31)) ||| (4 : Int32))) ∧ Fr n0 L ∧ h = h0
set_option maxRecDepth 65536 in
set_option maxHeartbeats 40000000 in
theorem rm_instr (l : Launch) (Z : State) (a0 : Array Value) (hw : ∀ d ∈ tables_1, d.before a0 Z = true) (ws : List Jvm.Cond) (p2 : Int32) (h0 : Heap) (n0 : Nat) (Z0 : n0 ≤ h0.size) :
    MetFree l (⟨"com/example/concordia/concordia/index/Code", "instruction", "(II)I"⟩ : MethodName) (head1 (Jvm.Cond.code (⟨"com/example/concordia/concordia/index/Code", "instruction", "(II)I"⟩ : MethodName) prog_26_method_2_code 2 (some .int) :: ws) ({ frames := 0, cells := 0, slots := 0, locals := 0 } : Room)) (fun a U => a = #[(.int (4 : Int32)), (.int p2)] ∧ Z.Warmed39 U.vm ∧ U.heap = h0) (fun _ _ _ _ _ => True) (fun _ U o U' => ∃ v L, o = .returned v ∧ Q_rm_instr Z p2 h0 n0 v U'.heap L ∧ FrameEnd U o U' L ({ frames := 0, cells := 0, slots := 0, locals := 0 } : Room).cells ({ frames := 0, cells := 0, slots := 0, locals := 0 } : Room).slots) := by
  refine MetFree.of_bodySF (plainFor_of_name pn_com_example_concordia_concordia_index_Code) hisR ?_
  intro p e s m args below meth c s₁ Bd hml0 hP hK
  obtain ⟨rfl, hZ, hh⟩ := hP
  have hx := Bd.exec
  have hby := Bd.bytes
  have hml : c.maxLocals = 2 := hml0
  have hown : s.vm.findClass "com/example/concordia/concordia/index/Code" = some m.cls := findClass_of_methodNamed Bd.named
  have hnm := (name_of_methodNamed Bd.named Bd.method).1
  have X0 : Stand p l e ({ frames := 0, cells := 0, slots := 0, locals := 0 } : Room) s m #[(.int (4 : Int32)), (.int p2)] below meth c s₁ [] 0 0 := Stand.of_body Bd
  have e0 : s₁.heap = h0 := by rw [← hh, Bd.state]; rfl
  have N0 := Fr.nil n0
  have pre0 : ∀ t, Steps p.tables e below (s₁.setTop (mkF m 0 #[.val (.int (4 : Int32)), .val (.int p2)] [])) t → Steps p.tables e below (s₁.setTop (entryFrame m #[(.int (4 : Int32)), (.int p2)] 2)) t := fun t k => castTop (ef_rm_instr m (4 : Int32) p2) k
  obtain ⟨fs, hr, hrun, hended, hW, hsame⟩ := X0.leave (v := some (.int ((p2 <<< ((5 : Int32) &&& 31)) ||| (4 : Int32)))) (fun h => by rw [Bd.returns] at h; cases h)
  refine ⟨_, _, pre0 _ ?_, hrun, hended, _, _, rfl, ?_, ⟨_, rfl⟩, hW, hsame.mono (by decide) (by decide)⟩
  · show Steps p.tables e below (s₁.setTop (mkF m 0 #[.val (.int (4 : Int32)), .val (.int p2)] [])) _
    refine XS.iloadN X0.here hx rfl (hb hby d27_0) rfl ?_
    show Steps p.tables e below (s₁.setTop (mkF m 1 #[.val (.int (4 : Int32)), .val (.int p2)] [(.int p2)])) _
    refine XS.iconst X0.here hx rfl (hb hby d27_1) ?_
    show Steps p.tables e below (s₁.setTop (mkF m 2 #[.val (.int (4 : Int32)), .val (.int p2)] [(.int (5 : Int32)), (.int p2)])) _
    refine XS.ishl X0.here hx rfl (hb hby d27_2) rfl ?_
    show Steps p.tables e below (s₁.setTop (mkF m 3 #[.val (.int (4 : Int32)), .val (.int p2)] [(.int (p2 <<< ((5 : Int32) &&& 31)))])) _
    refine XS.iloadN X0.here hx rfl (hb hby d27_3) rfl ?_
    show Steps p.tables e below (s₁.setTop (mkF m 4 #[.val (.int (4 : Int32)), .val (.int p2)] [(.int (4 : Int32)), (.int (p2 <<< ((5 : Int32) &&& 31)))])) _
    refine XS.ior X0.here hx rfl (hb hby d27_4) rfl ?_
    show Steps p.tables e below (s₁.setTop (mkF m 5 #[.val (.int (4 : Int32)), .val (.int p2)] [(.int ((p2 <<< ((5 : Int32) &&& 31)) ||| (4 : Int32)))])) _
    exact retI X0 hx Bd.returns (hb hby d27_5) hr
  · show Q_rm_instr Z p2 h0 n0 _ s₁.heap _
    rw [e0]
    exact ⟨rfl, N0, rfl⟩
theorem d28_0 : decode prog_43_method_26_code 0 = .ok (.aload_n 0, 1) := by decide +kernel
theorem d28_1 : decode prog_43_method_26_code 1 = .ok (.getfield 168, 3) := by decide +kernel
theorem d28_4 : decode prog_43_method_26_code 4 = .ok (.iconst 2, 1) := by decide +kernel
theorem d28_5 : decode prog_43_method_26_code 5 = .ok (.iadd, 1) := by decide +kernel
theorem d28_6 : decode prog_43_method_26_code 6 = .ok (.aload_n 0, 1) := by decide +kernel
theorem d28_7 : decode prog_43_method_26_code 7 = .ok (.getfield 9, 3) := by decide +kernel
theorem d28_10 : decode prog_43_method_26_code 10 = .ok (.arraylength, 1) := by decide +kernel
theorem d28_11 : decode prog_43_method_26_code 11 = .ok (.if_icmp .le 31, 3) := by decide +kernel
theorem d28_42 : decode prog_43_method_26_code 42 = .ok (.aload_n 0, 1) := by decide +kernel
theorem d28_43 : decode prog_43_method_26_code 43 = .ok (.getfield 168, 3) := by decide +kernel
theorem d28_46 : decode prog_43_method_26_code 46 = .ok (.istore_n 2, 1) := by decide +kernel
theorem d28_47 : decode prog_43_method_26_code 47 = .ok (.aload_n 0, 1) := by decide +kernel
theorem d28_48 : decode prog_43_method_26_code 48 = .ok (.getfield 9, 3) := by decide +kernel
theorem d28_51 : decode prog_43_method_26_code 51 = .ok (.iload_n 2, 1) := by decide +kernel
theorem d28_52 : decode prog_43_method_26_code 52 = .ok (.iload_n 1, 1) := by decide +kernel
theorem d28_53 : decode prog_43_method_26_code 53 = .ok (.iastore, 1) := by decide +kernel
theorem d28_54 : decode prog_43_method_26_code 54 = .ok (.aload_n 0, 1) := by decide +kernel
theorem d28_55 : decode prog_43_method_26_code 55 = .ok (.getfield 9, 3) := by decide +kernel
theorem d28_58 : decode prog_43_method_26_code 58 = .ok (.iload_n 2, 1) := by decide +kernel
theorem d28_59 : decode prog_43_method_26_code 59 = .ok (.iconst 1, 1) := by decide +kernel
theorem d28_60 : decode prog_43_method_26_code 60 = .ok (.iadd, 1) := by decide +kernel
theorem d28_61 : decode prog_43_method_26_code 61 = .ok (.iconst (-1), 1) := by decide +kernel
theorem d28_62 : decode prog_43_method_26_code 62 = .ok (.iastore, 1) := by decide +kernel
theorem d28_63 : decode prog_43_method_26_code 63 = .ok (.aload_n 0, 1) := by decide +kernel
theorem d28_64 : decode prog_43_method_26_code 64 = .ok (.dup, 1) := by decide +kernel
theorem d28_65 : decode prog_43_method_26_code 65 = .ok (.getfield 168, 3) := by decide +kernel
theorem d28_68 : decode prog_43_method_26_code 68 = .ok (.iconst 2, 1) := by decide +kernel
theorem d28_69 : decode prog_43_method_26_code 69 = .ok (.iadd, 1) := by decide +kernel
theorem d28_70 : decode prog_43_method_26_code 70 = .ok (.putfield 168, 3) := by decide +kernel
theorem d28_73 : decode prog_43_method_26_code 73 = .ok (.aload_n 0, 1) := by decide +kernel
theorem d28_74 : decode prog_43_method_26_code 74 = .ok (.dup, 1) := by decide +kernel
theorem d28_75 : decode prog_43_method_26_code 75 = .ok (.getfield 125, 3) := by decide +kernel
theorem d28_78 : decode prog_43_method_26_code 78 = .ok (.iconst 1, 1) := by decide +kernel
theorem d28_79 : decode prog_43_method_26_code 79 = .ok (.iadd, 1) := by decide +kernel
theorem d28_80 : decode prog_43_method_26_code 80 = .ok (.putfield 125, 3) := by decide +kernel
theorem d28_83 : decode prog_43_method_26_code 83 = .ok (.iload_n 2, 1) := by decide +kernel
theorem d28_84 : decode prog_43_method_26_code 84 = .ok (.ireturn, 1) := by decide +kernel
theorem ef_rm_ai (m : MethodId) (x0 : Addr) (x1 : Int32) : entryFrame m #[(.ref x0), (.int x1)] 3 = mkF m 0 #[.val (.ref x0), .val (.int x1), .unset] [] := by first | (simp [entryFrame, mkF, argsToLocals, Value.category]; done) | rfl
def Q_rm_ai (Z : State) (a1 : Addr) (p2 : Int32) (cd : Addr) (sz : Int32) (li : Int32) (rt : Addr) (pg : Addr) (h0 : Heap) (n0 : Nat) (v : Option Value) (h : Heap) (L : List Loc) : Prop := v = some (.int sz) ∧ Fr n0 L ∧ Keep h0 h [a1, cd] ∧ (Fld Z h a1 "com/example/concordia/concordia/index/LinkedCode" "code" "[I" (.ref cd)) ∧ (Fld Z h a1 "com/example/concordia/concordia/index/LinkedCode" "codeSize" "I" (.int (sz + (2 : Int32)))) ∧ (Fld Z h a1 "com/example/concordia/concordia/index/LinkedCode" "liveInstructions" "I" (.int (li + (1 : Int32)))) ∧ (Fld Z h a1 "com/example/concordia/concordia/index/LinkedCode" "roots" "[I" (.ref rt)) ∧ (Fld Z h a1 "com/example/concordia/concordia/index/LinkedCode" "layOutAt" "I" (.int (1024 : Int32))) ∧ (Fld Z h a1 "com/example/concordia/concordia/index/LinkedCode" "program" "Lcom/example/concordia/concordia/index/Program;" (.ref pg))
set_option maxRecDepth 65536 in
set_option maxHeartbeats 40000000 in
theorem rm_ai (l : Launch) (Z : State) (a0 : Array Value) (hw : ∀ d ∈ tables_1, d.before a0 Z = true) (ws : List Jvm.Cond) (a1 : Addr) (p2 : Int32) (cd : Addr) (sz : Int32) (li : Int32) (rt : Addr) (pg : Addr) (h0 : Heap) (n0 : Nat) (Z0 : n0 ≤ h0.size) (pr0 : Exa Z h0 a1 "com/example/concordia/concordia/index/LinkedCode") (pr1 : n0 ≤ a1) (pr2 : n0 ≤ cd) (pr3 : Fld Z h0 a1 "com/example/concordia/concordia/index/LinkedCode" "code" "[I" (.ref cd)) (pr4 : own_Ars Z h0 cd .int (64 : Int32)) (pr5 : Fld Z h0 a1 "com/example/concordia/concordia/index/LinkedCode" "codeSize" "I" (.int sz)) (pr6 : Fld Z h0 a1 "com/example/concordia/concordia/index/LinkedCode" "liveInstructions" "I" (.int li)) (pr7 : Fld Z h0 a1 "com/example/concordia/concordia/index/LinkedCode" "roots" "[I" (.ref rt)) (pr8 : Fld Z h0 a1 "com/example/concordia/concordia/index/LinkedCode" "layOutAt" "I" (.int (1024 : Int32))) (pr9 : Fld Z h0 a1 "com/example/concordia/concordia/index/LinkedCode" "program" "Lcom/example/concordia/concordia/index/Program;" (.ref pg)) (hs1 : ¬ (sz < (0 : Int32))) (hs2 : sz < (64 : Int32)) (hs3 : ¬ ((sz + (1 : Int32)) < (0 : Int32))) (hs4 : (sz + (1 : Int32)) < (64 : Int32)) (hs5 : ¬ ((64 : Int32) < (sz + (2 : Int32)))) :
    MetFree l (⟨"com/example/concordia/concordia/index/LinkedCode", "appendInstruction", "(I)I"⟩ : MethodName) (head1 (Jvm.Cond.code (⟨"com/example/concordia/concordia/index/LinkedCode", "appendInstruction", "(I)I"⟩ : MethodName) prog_43_method_26_code 3 (some .int) :: ws) ({ frames := 0, cells := 0, slots := 0, locals := 0 } : Room)) (fun a U => a = #[(.ref a1), (.int p2)] ∧ Z.Warmed39 U.vm ∧ U.heap = h0) (fun _ _ _ _ _ => True) (fun _ U o U' => ∃ v L, o = .returned v ∧ Q_rm_ai Z a1 p2 cd sz li rt pg h0 n0 v U'.heap L ∧ FrameEnd U o U' L ({ frames := 0, cells := 0, slots := 0, locals := 0 } : Room).cells ({ frames := 0, cells := 0, slots := 0, locals := 0 } : Room).slots) := by
  refine MetFree.of_bodySF (plainFor_of_name pn_com_example_concordia_concordia_index_LinkedCode) hisR ?_
  intro p e s m args below meth c s₁ Bd hml0 hP hK
  obtain ⟨rfl, hZ, hh⟩ := hP
  have hx := Bd.exec
  have hby := Bd.bytes
  have hml : c.maxLocals = 3 := hml0
  have hown : s.vm.findClass "com/example/concordia/concordia/index/LinkedCode" = some m.cls := findClass_of_methodNamed Bd.named
  have hnm := (name_of_methodNamed Bd.named Bd.method).1
  have X0 : Stand p l e ({ frames := 0, cells := 0, slots := 0, locals := 0 } : Room) s m #[(.ref a1), (.int p2)] below meth c s₁ [] 0 0 := Stand.of_body Bd
  have e0 : s₁.heap = h0 := by rw [← hh, Bd.state]; rfl
  have N0 := Fr.nil n0
  have pre0 : ∀ t, Steps p.tables e below (s₁.setTop (mkF m 0 #[.val (.ref a1), .val (.int p2), .unset] [])) t → Steps p.tables e below (s₁.setTop (entryFrame m #[(.ref a1), (.int p2)] 3)) t := fun t k => castTop (ef_rm_ai m a1 p2) k
  obtain ⟨T1, X1, e1, st1⟩ := getF X0 hx hZ hown (host := "") (Or.inl (hw _ (List.mem_of_getElem? (i := 188) rfl))) Via.refl e0 pr5 (g := (mkF m 1 #[.val (.ref a1), .val (.int p2), .unset] [(.ref a1)])) rfl rfl (hb hby d28_1)
  obtain ⟨T2, X2, e2, st2⟩ := getF X1 hx hZ hown (host := "") (Or.inl (hw _ (List.mem_of_getElem? (i := 116) rfl))) Via.refl e1 pr3 (g := (mkF m 7 #[.val (.ref a1), .val (.int p2), .unset] [(.ref a1), (.int (sz + (2 : Int32)))])) rfl rfl (hb hby d28_7)
  obtain ⟨cl3, Ar3, Sz3, Ng3⟩ := id pr4
  obtain ⟨T4, X4, e4, st4⟩ := getF X2 hx hZ hown (host := "") (Or.inl (hw _ (List.mem_of_getElem? (i := 188) rfl))) Via.refl e2 pr5 (g := (mkF m 43 #[.val (.ref a1), .val (.int p2), .unset] [(.ref a1)])) rfl rfl (hb hby d28_43)
  obtain ⟨T5, X5, e5, st5⟩ := getF X4 hx hZ hown (host := "") (Or.inl (hw _ (List.mem_of_getElem? (i := 116) rfl))) Via.refl e4 pr3 (g := (mkF m 48 #[.val (.ref a1), .val (.int p2), .val (.int sz)] [(.ref a1)])) rfl rfl (hb hby d28_48)
  obtain ⟨cl6, Ar6, Sz6, Ng6⟩ := id pr4
  obtain ⟨T7, h7, X7, e7, W7, st7⟩ := stI X5 hx hZ e5 Ar6 (j := sz) (inb_of Sz6 ⟨hs1, hs2⟩) (g := (mkF m 53 #[.val (.ref a1), .val (.int p2), .val (.int sz)] [(.int p2), (.int sz), (.ref cd)])) rfl rfl (hb hby d28_53)
  have N7 := Fr.snoc X7 N0 pr2
  have K8 : Keep h0 h7 [a1, cd] := (Keep.refl h0 [a1, cd]).wr W7 (Or.inl (List.mem_of_getElem? (i := 1) rfl))
  have f9 : Fld Z h7 a1 "com/example/concordia/concordia/index/LinkedCode" "code" "[I" (.ref cd) := (pr3.other W7 (Or.inl (by obtain ⟨_, A_, -⟩ := id pr4; exact ne_arr pr0 (hw _ (List.mem_of_getElem? (i := 1) rfl)) A_)))
  obtain ⟨T10, X10, e10, st10⟩ := getF X7 hx hZ hown (host := "") (Or.inl (hw _ (List.mem_of_getElem? (i := 116) rfl))) Via.refl e7 f9 (g := (mkF m 55 #[.val (.ref a1), .val (.int p2), .val (.int sz)] [(.ref a1)])) rfl rfl (hb hby d28_55)
  have f11 : own_Ars Z h7 cd .int (64 : Int32) := (pr4.wr W7)
  obtain ⟨cl12, Ar12, Sz12, Ng12⟩ := id f11
  obtain ⟨T13, h13, X13, e13, W13, st13⟩ := stI X10 hx hZ e10 Ar12 (j := (sz + (1 : Int32))) (inb_of Sz12 ⟨hs3, hs4⟩) (g := (mkF m 62 #[.val (.ref a1), .val (.int p2), .val (.int sz)] [(.int (-1 : Int32)), (.int (sz + (1 : Int32))), (.ref cd)])) rfl rfl (hb hby d28_62)
  have N13 := Fr.snoc X13 N7 pr2
  have K14 : Keep h0 h13 [a1, cd] := K8.wr W13 (Or.inl (List.mem_of_getElem? (i := 1) rfl))
  have f15 : Fld Z h13 a1 "com/example/concordia/concordia/index/LinkedCode" "codeSize" "I" (.int sz) := ((pr5.other W7 (Or.inl (by obtain ⟨_, A_, -⟩ := id pr4; exact ne_arr pr0 (hw _ (List.mem_of_getElem? (i := 1) rfl)) A_))).other W13 (Or.inl (by obtain ⟨_, A_, -⟩ := id f11; exact ne_arr (pr0.wr W7) (hw _ (List.mem_of_getElem? (i := 1) rfl)) A_)))
  obtain ⟨T16, X16, e16, st16⟩ := getF X13 hx hZ hown (host := "") (Or.inl (hw _ (List.mem_of_getElem? (i := 188) rfl))) Via.refl e13 f15 (g := (mkF m 65 #[.val (.ref a1), .val (.int p2), .val (.int sz)] [(.ref a1), (.ref a1)])) rfl rfl (hb hby d28_65)
  have f17 : Exa Z h13 a1 "com/example/concordia/concordia/index/LinkedCode" := ((pr0.wr W7).wr W13)
  obtain ⟨T18, h18, X18, e18, W18, st18⟩ := putF X16 hx hZ hown (host := "") (Or.inl (hw _ (List.mem_of_getElem? (i := 188) rfl))) Via.refl e16 f15 f17 (Or.inl (hw _ (List.mem_of_getElem? (i := 189) rfl))) (hw _ (List.mem_of_getElem? (i := 1) rfl)) (ty := .int) (by decide) rfl rfl (g := (mkF m 70 #[.val (.ref a1), .val (.int p2), .val (.int sz)] [(.int (sz + (2 : Int32))), (.ref a1)])) rfl rfl (hb hby d28_70)
  have N18 := Fr.snoc X18 N13 pr1
  have f18 : Fld Z h18 a1 "com/example/concordia/concordia/index/LinkedCode" "codeSize" "I" (.int (sz + (2 : Int32))) := f15.same W18
  have K19 : Keep h0 h18 [a1, cd] := K14.wr W18 (Or.inl (List.mem_of_getElem? (i := 0) rfl))
  have f20 : Fld Z h18 a1 "com/example/concordia/concordia/index/LinkedCode" "liveInstructions" "I" (.int li) := (((pr6.other W7 (Or.inl (by obtain ⟨_, A_, -⟩ := id pr4; exact ne_arr pr0 (hw _ (List.mem_of_getElem? (i := 1) rfl)) A_))).other W13 (Or.inl (by obtain ⟨_, A_, -⟩ := id f11; exact ne_arr (pr0.wr W7) (hw _ (List.mem_of_getElem? (i := 1) rfl)) A_))).other W18 (Or.inr (slot_ne (Or.inl (hw _ (List.mem_of_getElem? (i := 222) rfl))) (Or.inl (hw _ (List.mem_of_getElem? (i := 189) rfl))) (by decide) (t := .int) (t' := .int) (by decide) (by decide))))
  obtain ⟨T21, X21, e21, st21⟩ := getF X18 hx hZ hown (host := "") (Or.inl (hw _ (List.mem_of_getElem? (i := 221) rfl))) Via.refl e18 f20 (g := (mkF m 75 #[.val (.ref a1), .val (.int p2), .val (.int sz)] [(.ref a1), (.ref a1)])) rfl rfl (hb hby d28_75)
  have f22 : Exa Z h18 a1 "com/example/concordia/concordia/index/LinkedCode" := (f17.wr W18)
  obtain ⟨T23, h23, X23, e23, W23, st23⟩ := putF X21 hx hZ hown (host := "") (Or.inl (hw _ (List.mem_of_getElem? (i := 221) rfl))) Via.refl e21 f20 f22 (Or.inl (hw _ (List.mem_of_getElem? (i := 222) rfl))) (hw _ (List.mem_of_getElem? (i := 1) rfl)) (ty := .int) (by decide) rfl rfl (g := (mkF m 80 #[.val (.ref a1), .val (.int p2), .val (.int sz)] [(.int (li + (1 : Int32))), (.ref a1)])) rfl rfl (hb hby d28_80)
  have N23 := Fr.snoc X23 N18 pr1
  have f23 : Fld Z h23 a1 "com/example/concordia/concordia/index/LinkedCode" "liveInstructions" "I" (.int (li + (1 : Int32))) := f20.same W23
  have K24 : Keep h0 h23 [a1, cd] := K19.wr W23 (Or.inl (List.mem_of_getElem? (i := 0) rfl))
  have f25 : Fld Z h23 a1 "com/example/concordia/concordia/index/LinkedCode" "code" "[I" (.ref cd) := (((f9.other W13 (Or.inl (by obtain ⟨_, A_, -⟩ := id f11; exact ne_arr (pr0.wr W7) (hw _ (List.mem_of_getElem? (i := 1) rfl)) A_))).other W18 (Or.inr (slot_ne (Or.inl (hw _ (List.mem_of_getElem? (i := 117) rfl))) (Or.inl (hw _ (List.mem_of_getElem? (i := 189) rfl))) (by decide) (t := (.array .int)) (t' := .int) (by decide) (by decide)))).other W23 (Or.inr (slot_ne (Or.inl (hw _ (List.mem_of_getElem? (i := 117) rfl))) (Or.inl (hw _ (List.mem_of_getElem? (i := 222) rfl))) (by decide) (t := (.array .int)) (t' := .int) (by decide) (by decide))))
  have f26 : Fld Z h23 a1 "com/example/concordia/concordia/index/LinkedCode" "codeSize" "I" (.int (sz + (2 : Int32))) := (f18.other W23 (Or.inr (slot_ne (Or.inl (hw _ (List.mem_of_getElem? (i := 189) rfl))) (Or.inl (hw _ (List.mem_of_getElem? (i := 222) rfl))) (by decide) (t := .int) (t' := .int) (by decide) (by decide))))
  have f27 : Fld Z h23 a1 "com/example/concordia/concordia/index/LinkedCode" "roots" "[I" (.ref rt) := ((((pr7.other W7 (Or.inl (by obtain ⟨_, A_, -⟩ := id pr4; exact ne_arr pr0 (hw _ (List.mem_of_getElem? (i := 1) rfl)) A_))).other W13 (Or.inl (by obtain ⟨_, A_, -⟩ := id f11; exact ne_arr (pr0.wr W7) (hw _ (List.mem_of_getElem? (i := 1) rfl)) A_))).other W18 (Or.inr (slot_ne (Or.inr (hw _ (List.mem_of_getElem? (i := 119) rfl))) (Or.inl (hw _ (List.mem_of_getElem? (i := 189) rfl))) (by decide) (t := (.array .int)) (t' := .int) (by decide) (by decide)))).other W23 (Or.inr (slot_ne (Or.inr (hw _ (List.mem_of_getElem? (i := 119) rfl))) (Or.inl (hw _ (List.mem_of_getElem? (i := 222) rfl))) (by decide) (t := (.array .int)) (t' := .int) (by decide) (by decide))))
  have f28 : Fld Z h23 a1 "com/example/concordia/concordia/index/LinkedCode" "layOutAt" "I" (.int (1024 : Int32)) := ((((pr8.other W7 (Or.inl (by obtain ⟨_, A_, -⟩ := id pr4; exact ne_arr pr0 (hw _ (List.mem_of_getElem? (i := 1) rfl)) A_))).other W13 (Or.inl (by obtain ⟨_, A_, -⟩ := id f11; exact ne_arr (pr0.wr W7) (hw _ (List.mem_of_getElem? (i := 1) rfl)) A_))).other W18 (Or.inr (slot_ne (Or.inl (hw _ (List.mem_of_getElem? (i := 121) rfl))) (Or.inl (hw _ (List.mem_of_getElem? (i := 189) rfl))) (by decide) (t := .int) (t' := .int) (by decide) (by decide)))).other W23 (Or.inr (slot_ne (Or.inl (hw _ (List.mem_of_getElem? (i := 121) rfl))) (Or.inl (hw _ (List.mem_of_getElem? (i := 222) rfl))) (by decide) (t := .int) (t' := .int) (by decide) (by decide))))
  have f29 : Fld Z h23 a1 "com/example/concordia/concordia/index/LinkedCode" "program" "Lcom/example/concordia/concordia/index/Program;" (.ref pg) := ((((pr9.other W7 (Or.inl (by obtain ⟨_, A_, -⟩ := id pr4; exact ne_arr pr0 (hw _ (List.mem_of_getElem? (i := 1) rfl)) A_))).other W13 (Or.inl (by obtain ⟨_, A_, -⟩ := id f11; exact ne_arr (pr0.wr W7) (hw _ (List.mem_of_getElem? (i := 1) rfl)) A_))).other W18 (Or.inr (slot_ne (Or.inl (hw _ (List.mem_of_getElem? (i := 183) rfl))) (Or.inl (hw _ (List.mem_of_getElem? (i := 189) rfl))) (by decide) (t := (.object "com/example/concordia/concordia/index/Program")) (t' := .int) (by decide) (by decide)))).other W23 (Or.inr (slot_ne (Or.inl (hw _ (List.mem_of_getElem? (i := 183) rfl))) (Or.inl (hw _ (List.mem_of_getElem? (i := 222) rfl))) (by decide) (t := (.object "com/example/concordia/concordia/index/Program")) (t' := .int) (by decide) (by decide))))
  have f25 : Fld Z h23 a1 "com/example/concordia/concordia/index/LinkedCode" "code" "[I" (.ref cd) := (((f9.other W13 (Or.inl (by obtain ⟨_, A_, -⟩ := id f11; exact ne_arr (pr0.wr W7) (hw _ (List.mem_of_getElem? (i := 1) rfl)) A_))).other W18 (Or.inr (slot_ne (Or.inl (hw _ (List.mem_of_getElem? (i := 117) rfl))) (Or.inl (hw _ (List.mem_of_getElem? (i := 189) rfl))) (by decide) (t := (.array .int)) (t' := .int) (by decide) (by decide)))).other W23 (Or.inr (slot_ne (Or.inl (hw _ (List.mem_of_getElem? (i := 117) rfl))) (Or.inl (hw _ (List.mem_of_getElem? (i := 222) rfl))) (by decide) (t := (.array .int)) (t' := .int) (by decide) (by decide))))
  have f26 : Fld Z h23 a1 "com/example/concordia/concordia/index/LinkedCode" "codeSize" "I" (.int (sz + (2 : Int32))) := (f18.other W23 (Or.inr (slot_ne (Or.inl (hw _ (List.mem_of_getElem? (i := 189) rfl))) (Or.inl (hw _ (List.mem_of_getElem? (i := 222) rfl))) (by decide) (t := .int) (t' := .int) (by decide) (by decide))))
  have f27 : Fld Z h23 a1 "com/example/concordia/concordia/index/LinkedCode" "roots" "[I" (.ref rt) := ((((pr7.other W7 (Or.inl (by obtain ⟨_, A_, -⟩ := id pr4; exact ne_arr pr0 (hw _ (List.mem_of_getElem? (i := 1) rfl)) A_))).other W13 (Or.inl (by obtain ⟨_, A_, -⟩ := id f11; exact ne_arr (pr0.wr W7) (hw _ (List.mem_of_getElem? (i := 1) rfl)) A_))).other W18 (Or.inr (slot_ne (Or.inr (hw _ (List.mem_of_getElem? (i := 119) rfl))) (Or.inl (hw _ (List.mem_of_getElem? (i := 189) rfl))) (by decide) (t := (.array .int)) (t' := .int) (by decide) (by decide)))).other W23 (Or.inr (slot_ne (Or.inr (hw _ (List.mem_of_getElem? (i := 119) rfl))) (Or.inl (hw _ (List.mem_of_getElem? (i := 222) rfl))) (by decide) (t := (.array .int)) (t' := .int) (by decide) (by decide))))
  have f28 : Fld Z h23 a1 "com/example/concordia/concordia/index/LinkedCode" "layOutAt" "I" (.int (1024 : Int32)) := ((((pr8.other W7 (Or.inl (by obtain ⟨_, A_, -⟩ := id pr4; exact ne_arr pr0 (hw _ (List.mem_of_getElem? (i := 1) rfl)) A_))).other W13 (Or.inl (by obtain ⟨_, A_, -⟩ := id f11; exact ne_arr (pr0.wr W7) (hw _ (List.mem_of_getElem? (i := 1) rfl)) A_))).other W18 (Or.inr (slot_ne (Or.inl (hw _ (List.mem_of_getElem? (i := 121) rfl))) (Or.inl (hw _ (List.mem_of_getElem? (i := 189) rfl))) (by decide) (t := .int) (t' := .int) (by decide) (by decide)))).other W23 (Or.inr (slot_ne (Or.inl (hw _ (List.mem_of_getElem? (i := 121) rfl))) (Or.inl (hw _ (List.mem_of_getElem? (i := 222) rfl))) (by decide) (t := .int) (t' := .int) (by decide) (by decide))))
  have f29 : Fld Z h23 a1 "com/example/concordia/concordia/index/LinkedCode" "program" "Lcom/example/concordia/concordia/index/Program;" (.ref pg) := ((((pr9.other W7 (Or.inl (by obtain ⟨_, A_, -⟩ := id pr4; exact ne_arr pr0 (hw _ (List.mem_of_getElem? (i := 1) rfl)) A_))).other W13 (Or.inl (by obtain ⟨_, A_, -⟩ := id f11; exact ne_arr (pr0.wr W7) (hw _ (List.mem_of_getElem? (i := 1) rfl)) A_))).other W18 (Or.inr (slot_ne (Or.inl (hw _ (List.mem_of_getElem? (i := 183) rfl))) (Or.inl (hw _ (List.mem_of_getElem? (i := 189) rfl))) (by decide) (t := (.object "com/example/concordia/concordia/index/Program")) (t' := .int) (by decide) (by decide)))).other W23 (Or.inr (slot_ne (Or.inl (hw _ (List.mem_of_getElem? (i := 183) rfl))) (Or.inl (hw _ (List.mem_of_getElem? (i := 222) rfl))) (by decide) (t := (.object "com/example/concordia/concordia/index/Program")) (t' := .int) (by decide) (by decide))))
  obtain ⟨fs, hr, hrun, hended, hW, hsame⟩ := X23.leave (v := some (.int sz)) (fun h => by rw [Bd.returns] at h; cases h)
  refine ⟨_, _, pre0 _ ?_, hrun, hended, _, _, rfl, ?_, ⟨_, rfl⟩, hW, hsame.mono (by decide) (by decide)⟩
  · show Steps p.tables e below (s₁.setTop (mkF m 0 #[.val (.ref a1), .val (.int p2), .unset] [])) _
    refine XS.aloadN X0.here hx rfl (hb hby d28_0) rfl rfl ?_
    show Steps p.tables e below (s₁.setTop (mkF m 1 #[.val (.ref a1), .val (.int p2), .unset] [(.ref a1)])) _
    refine st1 _ ?_
    show Steps p.tables e below (T1.setTop (mkF m 4 #[.val (.ref a1), .val (.int p2), .unset] [(.int sz)])) _
    refine XS.iconst X1.here hx rfl (hb hby d28_4) ?_
    show Steps p.tables e below (T1.setTop (mkF m 5 #[.val (.ref a1), .val (.int p2), .unset] [(.int (2 : Int32)), (.int sz)])) _
    refine XS.iadd X1.here hx rfl (hb hby d28_5) rfl ?_
    show Steps p.tables e below (T1.setTop (mkF m 6 #[.val (.ref a1), .val (.int p2), .unset] [(.int (sz + (2 : Int32)))])) _
    refine XS.aloadN X1.here hx rfl (hb hby d28_6) rfl rfl ?_
    show Steps p.tables e below (T1.setTop (mkF m 7 #[.val (.ref a1), .val (.int p2), .unset] [(.ref a1), (.int (sz + (2 : Int32)))])) _
    refine st2 _ ?_
    show Steps p.tables e below (T2.setTop (mkF m 10 #[.val (.ref a1), .val (.int p2), .unset] [(.ref cd), (.int (sz + (2 : Int32)))])) _
    refine X2.arraylength hx (by rw [e2]; exact Ar3.1) (State.isArrayOf_alike hZ.alike Ar3.2.1) (g := (mkF m 10 #[.val (.ref a1), .val (.int p2), .unset] [(.ref cd), (.int (sz + (2 : Int32)))])) rfl rfl (hb hby d28_10) _ ?_
    rw [len_of Sz3 Ng3]
    show Steps p.tables e below (T2.setTop (mkF m 11 #[.val (.ref a1), .val (.int p2), .unset] [(.int (64 : Int32)), (.int (sz + (2 : Int32)))])) _
    refine XS.icmpYes X2.here hx rfl (pc0 := 11) (pc' := 42) rfl (hb hby d28_11) rfl (flt hs5).2.2.2 (by decide) (by decide) ?_
    show Steps p.tables e below (T2.setTop (mkF m 42 #[.val (.ref a1), .val (.int p2), .unset] [])) _
    refine XS.aloadN X2.here hx rfl (hb hby d28_42) rfl rfl ?_
    show Steps p.tables e below (T2.setTop (mkF m 43 #[.val (.ref a1), .val (.int p2), .unset] [(.ref a1)])) _
    refine st4 _ ?_
    show Steps p.tables e below (T4.setTop (mkF m 46 #[.val (.ref a1), .val (.int p2), .unset] [(.int sz)])) _
    refine XS.istoreN X4.here hx rfl (hb hby d28_46) rfl (l' := #[.val (.ref a1), .val (.int p2), .val (.int sz)]) rfl ?_
    show Steps p.tables e below (T4.setTop (mkF m 47 #[.val (.ref a1), .val (.int p2), .val (.int sz)] [])) _
    refine XS.aloadN X4.here hx rfl (hb hby d28_47) rfl rfl ?_
    show Steps p.tables e below (T4.setTop (mkF m 48 #[.val (.ref a1), .val (.int p2), .val (.int sz)] [(.ref a1)])) _
    refine st5 _ ?_
    show Steps p.tables e below (T5.setTop (mkF m 51 #[.val (.ref a1), .val (.int p2), .val (.int sz)] [(.ref cd)])) _
    refine XS.iloadN X5.here hx rfl (hb hby d28_51) rfl ?_
    show Steps p.tables e below (T5.setTop (mkF m 52 #[.val (.ref a1), .val (.int p2), .val (.int sz)] [(.int sz), (.ref cd)])) _
    refine XS.iloadN X5.here hx rfl (hb hby d28_52) rfl ?_
    show Steps p.tables e below (T5.setTop (mkF m 53 #[.val (.ref a1), .val (.int p2), .val (.int sz)] [(.int p2), (.int sz), (.ref cd)])) _
    refine st7 _ ?_
    show Steps p.tables e below (T7.setTop (mkF m 54 #[.val (.ref a1), .val (.int p2), .val (.int sz)] [])) _
    refine XS.aloadN X7.here hx rfl (hb hby d28_54) rfl rfl ?_
    show Steps p.tables e below (T7.setTop (mkF m 55 #[.val (.ref a1), .val (.int p2), .val (.int sz)] [(.ref a1)])) _
    refine st10 _ ?_
    show Steps p.tables e below (T10.setTop (mkF m 58 #[.val (.ref a1), .val (.int p2), .val (.int sz)] [(.ref cd)])) _
    refine XS.iloadN X10.here hx rfl (hb hby d28_58) rfl ?_
    show Steps p.tables e below (T10.setTop (mkF m 59 #[.val (.ref a1), .val (.int p2), .val (.int sz)] [(.int sz), (.ref cd)])) _
    refine XS.iconst X10.here hx rfl (hb hby d28_59) ?_
    show Steps p.tables e below (T10.setTop (mkF m 60 #[.val (.ref a1), .val (.int p2), .val (.int sz)] [(.int (1 : Int32)), (.int sz), (.ref cd)])) _
    refine XS.iadd X10.here hx rfl (hb hby d28_60) rfl ?_
    show Steps p.tables e below (T10.setTop (mkF m 61 #[.val (.ref a1), .val (.int p2), .val (.int sz)] [(.int (sz + (1 : Int32))), (.ref cd)])) _
    refine XS.iconst X10.here hx rfl (hb hby d28_61) ?_
    show Steps p.tables e below (T10.setTop (mkF m 62 #[.val (.ref a1), .val (.int p2), .val (.int sz)] [(.int (-1 : Int32)), (.int (sz + (1 : Int32))), (.ref cd)])) _
    refine st13 _ ?_
    show Steps p.tables e below (T13.setTop (mkF m 63 #[.val (.ref a1), .val (.int p2), .val (.int sz)] [])) _
    refine XS.aloadN X13.here hx rfl (hb hby d28_63) rfl rfl ?_
    show Steps p.tables e below (T13.setTop (mkF m 64 #[.val (.ref a1), .val (.int p2), .val (.int sz)] [(.ref a1)])) _
    refine XS.dup X13.here hx rfl (hb hby d28_64) rfl rfl ?_
    show Steps p.tables e below (T13.setTop (mkF m 65 #[.val (.ref a1), .val (.int p2), .val (.int sz)] [(.ref a1), (.ref a1)])) _
    refine st16 _ ?_
    show Steps p.tables e below (T16.setTop (mkF m 68 #[.val (.ref a1), .val (.int p2), .val (.int sz)] [(.int sz), (.ref a1)])) _
    refine XS.iconst X16.here hx rfl (hb hby d28_68) ?_
    show Steps p.tables e below (T16.setTop (mkF m 69 #[.val (.ref a1), .val (.int p2), .val (.int sz)] [(.int (2 : Int32)), (.int sz), (.ref a1)])) _
    refine XS.iadd X16.here hx rfl (hb hby d28_69) rfl ?_
    show Steps p.tables e below (T16.setTop (mkF m 70 #[.val (.ref a1), .val (.int p2), .val (.int sz)] [(.int (sz + (2 : Int32))), (.ref a1)])) _
    refine st18 _ ?_
    show Steps p.tables e below (T18.setTop (mkF m 73 #[.val (.ref a1), .val (.int p2), .val (.int sz)] [])) _
    refine XS.aloadN X18.here hx rfl (hb hby d28_73) rfl rfl ?_
    show Steps p.tables e below (T18.setTop (mkF m 74 #[.val (.ref a1), .val (.int p2), .val (.int sz)] [(.ref a1)])) _
    refine XS.dup X18.here hx rfl (hb hby d28_74) rfl rfl ?_
    show Steps p.tables e below (T18.setTop (mkF m 75 #[.val (.ref a1), .val (.int p2), .val (.int sz)] [(.ref a1), (.ref a1)])) _
    refine st21 _ ?_
    show Steps p.tables e below (T21.setTop (mkF m 78 #[.val (.ref a1), .val (.int p2), .val (.int sz)] [(.int li), (.ref a1)])) _
    refine XS.iconst X21.here hx rfl (hb hby d28_78) ?_
    show Steps p.tables e below (T21.setTop (mkF m 79 #[.val (.ref a1), .val (.int p2), .val (.int sz)] [(.int (1 : Int32)), (.int li), (.ref a1)])) _
    refine XS.iadd X21.here hx rfl (hb hby d28_79) rfl ?_
    show Steps p.tables e below (T21.setTop (mkF m 80 #[.val (.ref a1), .val (.int p2), .val (.int sz)] [(.int (li + (1 : Int32))), (.ref a1)])) _
    refine st23 _ ?_
    show Steps p.tables e below (T23.setTop (mkF m 83 #[.val (.ref a1), .val (.int p2), .val (.int sz)] [])) _
    refine XS.iloadN X23.here hx rfl (hb hby d28_83) rfl ?_
    show Steps p.tables e below (T23.setTop (mkF m 84 #[.val (.ref a1), .val (.int p2), .val (.int sz)] [(.int sz)])) _
    exact retI X23 hx Bd.returns (hb hby d28_84) hr
  · show Q_rm_ai Z a1 p2 cd sz li rt pg h0 n0 _ T23.heap _
    rw [e23]
    exact ⟨rfl, N23, K24, f25, f26, f23, f27, f28, f29⟩
theorem d22_0 : decode prog_43_method_16_code 0 = .ok (.aload_n 0, 1) := by decide +kernel
theorem d22_1 : decode prog_43_method_16_code 1 = .ok (.getfield 168, 3) := by decide +kernel
theorem d22_4 : decode prog_43_method_16_code 4 = .ok (.istore_n 3, 1) := by decide +kernel
theorem d22_5 : decode prog_43_method_16_code 5 = .ok (.iload_n 1, 1) := by decide +kernel
theorem d22_6 : decode prog_43_method_16_code 6 = .ok (.aload_n 0, 1) := by decide +kernel
theorem d22_7 : decode prog_43_method_16_code 7 = .ok (.getfield 61, 3) := by decide +kernel
theorem d22_10 : decode prog_43_method_16_code 10 = .ok (.invokevirtual 80, 3) := by decide +kernel
theorem d22_13 : decode prog_43_method_16_code 13 = .ok (.invokestatic 109, 3) := by decide +kernel
theorem pd__40II_41I : parseMethodDescriptor "(II)I" = some ⟨[.int, .int], some .int⟩ := by decide +kernel
theorem d22_16 : decode prog_43_method_16_code 16 = .ok (.istore 4, 2) := by decide +kernel
theorem d22_18 : decode prog_43_method_16_code 18 = .ok (.iload_n 1, 1) := by decide +kernel
theorem d22_19 : decode prog_43_method_16_code 19 = .ok (.istore 5, 2) := by decide +kernel
theorem d22_21 : decode prog_43_method_16_code 21 = .ok (.iload 5, 2) := by decide +kernel
theorem d22_23 : decode prog_43_method_16_code 23 = .ok (.iload 4, 2) := by decide +kernel
theorem d22_25 : decode prog_43_method_16_code 25 = .ok (.if_icmp .ge 23, 3) := by decide +kernel
theorem d22_48 : decode prog_43_method_16_code 48 = .ok (.iload 4, 2) := by decide +kernel
theorem d22_50 : decode prog_43_method_16_code 50 = .ok (.aload_n 0, 1) := by decide +kernel
theorem d22_51 : decode prog_43_method_16_code 51 = .ok (.getfield 61, 3) := by decide +kernel
theorem d22_54 : decode prog_43_method_16_code 54 = .ok (.invokevirtual 106, 3) := by decide +kernel
theorem d22_57 : decode prog_43_method_16_code 57 = .ok (.iconst 1, 1) := by decide +kernel
theorem d22_58 : decode prog_43_method_16_code 58 = .ok (.isub, 1) := by decide +kernel
theorem d22_59 : decode prog_43_method_16_code 59 = .ok (.if_icmp .ge 29, 3) := by decide +kernel
theorem d22_88 : decode prog_43_method_16_code 88 = .ok (.aload_n 0, 1) := by decide +kernel
theorem d22_89 : decode prog_43_method_16_code 89 = .ok (.iconst 4, 1) := by decide +kernel
theorem d22_90 : decode prog_43_method_16_code 90 = .ok (.iload_n 2, 1) := by decide +kernel
theorem d22_91 : decode prog_43_method_16_code 91 = .ok (.invokestatic 177, 3) := by decide +kernel
theorem d22_94 : decode prog_43_method_16_code 94 = .ok (.invokevirtual 165, 3) := by decide +kernel
theorem d22_97 : decode prog_43_method_16_code 97 = .ok (.pop, 1) := by decide +kernel
theorem d22_98 : decode prog_43_method_16_code 98 = .ok (.iload_n 3, 1) := by decide +kernel
theorem d22_99 : decode prog_43_method_16_code 99 = .ok (.ireturn, 1) := by decide +kernel
theorem ef_rm_ap (m : MethodId) (x0 : Addr) (x1 : Int32) (x2 : Int32) : entryFrame m #[(.ref x0), (.int x1), (.int x2)] 6 = mkF m 0 #[.val (.ref x0), .val (.int x1), .val (.int x2), .unset, .unset, .unset] [] := by first | (simp [entryFrame, mkF, argsToLocals, Value.category]; done) | rfl
def Q_rm_ap (Z : State) (a1 : Addr) (p3 : Int32) (cd : Addr) (sz : Int32) (li : Int32) (rt : Addr) (pg : Addr) (il : Addr) (h0 : Heap) (n0 : Nat) (v : Option Value) (h : Heap) (L : List Loc) : Prop := v = some (.int sz) ∧ Fr n0 L ∧ Keep h0 h [a1, cd] ∧ (Fld Z h a1 "com/example/concordia/concordia/index/LinkedCode" "code" "[I" (.ref cd)) ∧ (Fld Z h a1 "com/example/concordia/concordia/index/LinkedCode" "codeSize" "I" (.int (sz + (2 : Int32)))) ∧ (Fld Z h a1 "com/example/concordia/concordia/index/LinkedCode" "liveInstructions" "I" (.int (li + (1 : Int32)))) ∧ (Fld Z h a1 "com/example/concordia/concordia/index/LinkedCode" "roots" "[I" (.ref rt)) ∧ (Fld Z h a1 "com/example/concordia/concordia/index/LinkedCode" "layOutAt" "I" (.int (1024 : Int32))) ∧ (Fld Z h a1 "com/example/concordia/concordia/index/LinkedCode" "program" "Lcom/example/concordia/concordia/index/Program;" (.ref pg))
set_option maxRecDepth 65536 in
set_option maxHeartbeats 40000000 in
theorem rm_ap (l : Launch) (Z : State) (a0 : Array Value) (hw : ∀ d ∈ tables_1, d.before a0 Z = true) (ws : List Jvm.Cond) (a1 : Addr) (p3 : Int32) (cd : Addr) (sz : Int32) (li : Int32) (rt : Addr) (pg : Addr) (il : Addr) (h0 : Heap) (n0 : Nat) (Z0 : n0 ≤ h0.size) (pr0 : Exa Z h0 a1 "com/example/concordia/concordia/index/LinkedCode") (pr1 : n0 ≤ a1) (pr2 : n0 ≤ cd) (pr3 : Fld Z h0 a1 "com/example/concordia/concordia/index/LinkedCode" "code" "[I" (.ref cd)) (pr4 : own_Ars Z h0 cd .int (64 : Int32)) (pr5 : Fld Z h0 a1 "com/example/concordia/concordia/index/LinkedCode" "codeSize" "I" (.int sz)) (pr6 : Fld Z h0 a1 "com/example/concordia/concordia/index/LinkedCode" "liveInstructions" "I" (.int li)) (pr7 : Fld Z h0 a1 "com/example/concordia/concordia/index/LinkedCode" "roots" "[I" (.ref rt)) (pr8 : Fld Z h0 a1 "com/example/concordia/concordia/index/LinkedCode" "layOutAt" "I" (.int (1024 : Int32))) (pr9 : Fld Z h0 a1 "com/example/concordia/concordia/index/LinkedCode" "program" "Lcom/example/concordia/concordia/index/Program;" (.ref pg)) (pr10 : Exa Z h0 pg "com/example/concordia/concordia/index/Program") (pr11 : Fld Z h0 pg "com/example/concordia/concordia/index/Program" "lastLiteralFrom" "I" (.int (0 : Int32))) (pr12 : Fld Z h0 pg "com/example/concordia/concordia/index/Program" "instructions" "Lcom/example/concordia/concordia/expr/IntList;" (.ref il)) (pr13 : Exa Z h0 il "com/example/concordia/concordia/expr/IntList") (pr14 : Fld Z h0 il "com/example/concordia/concordia/expr/IntList" "size" "I" (.int (0 : Int32))) (hs1 : ¬ (sz < (0 : Int32))) (hs2 : sz < (64 : Int32)) (hs3 : ¬ ((sz + (1 : Int32)) < (0 : Int32))) (hs4 : (sz + (1 : Int32)) < (64 : Int32)) (hs5 : ¬ ((64 : Int32) < (sz + (2 : Int32)))) :
    MetFree l (⟨"com/example/concordia/concordia/index/LinkedCode", "append", "(II)I"⟩ : MethodName) (head1 (Jvm.Cond.code (⟨"com/example/concordia/concordia/index/LinkedCode", "append", "(II)I"⟩ : MethodName) prog_43_method_16_code 6 (some .int) :: ws) ({ frames := 2, cells := 0, slots := 0, locals := 25 } : Room)) (fun a U => a = #[(.ref a1), (.int (0 : Int32)), (.int p3)] ∧ Z.Warmed39 U.vm ∧ U.heap = h0) (fun _ _ _ _ _ => True) (fun _ U o U' => ∃ v L, o = .returned v ∧ Q_rm_ap Z a1 p3 cd sz li rt pg il h0 n0 v U'.heap L ∧ FrameEnd U o U' L ({ frames := 2, cells := 0, slots := 0, locals := 25 } : Room).cells ({ frames := 2, cells := 0, slots := 0, locals := 25 } : Room).slots) := by
  refine MetFree.of_bodySF (plainFor_of_name pn_com_example_concordia_concordia_index_LinkedCode) hisR ?_
  intro p e s m args below meth c s₁ Bd hml0 hP hK
  obtain ⟨rfl, hZ, hh⟩ := hP
  have hx := Bd.exec
  have hby := Bd.bytes
  have hml : c.maxLocals = 6 := hml0
  have hown : s.vm.findClass "com/example/concordia/concordia/index/LinkedCode" = some m.cls := findClass_of_methodNamed Bd.named
  have hnm := (name_of_methodNamed Bd.named Bd.method).1
  have X0 : Stand p l e ({ frames := 2, cells := 0, slots := 0, locals := 25 } : Room) s m #[(.ref a1), (.int (0 : Int32)), (.int p3)] below meth c s₁ [] 0 0 := Stand.of_body Bd
  have e0 : s₁.heap = h0 := by rw [← hh, Bd.state]; rfl
  have N0 := Fr.nil n0
  have pre0 : ∀ t, Steps p.tables e below (s₁.setTop (mkF m 0 #[.val (.ref a1), .val (.int (0 : Int32)), .val (.int p3), .unset, .unset, .unset] [])) t → Steps p.tables e below (s₁.setTop (entryFrame m #[(.ref a1), (.int (0 : Int32)), (.int p3)] 6)) t := fun t k => castTop (ef_rm_ap m a1 (0 : Int32) p3) k
  obtain ⟨T1, X1, e1, st1⟩ := getF X0 hx hZ hown (host := "") (Or.inl (hw _ (List.mem_of_getElem? (i := 188) rfl))) Via.refl e0 pr5 (g := (mkF m 1 #[.val (.ref a1), .val (.int (0 : Int32)), .val (.int p3), .unset, .unset, .unset] [(.ref a1)])) rfl rfl (hb hby d22_1)
  obtain ⟨T2, X2, e2, st2⟩ := getF X1 hx hZ hown (host := "") (Or.inl (hw _ (List.mem_of_getElem? (i := 182) rfl))) Via.refl e1 pr9 (g := (mkF m 7 #[.val (.ref a1), .val (.int (0 : Int32)), .val (.int p3), .val (.int sz), .unset, .unset] [(.ref a1), (.int (0 : Int32))])) rfl rfl (hb hby d22_7)
  obtain ⟨cq3, kq3, q3a, q3b, q3c⟩ := isOf hZ e2 pr10
  obtain ⟨_, _, ⟨T3, L3, k3, n3⟩, -, X3, ⟨Lc3, hQ3, l3, y3, z3⟩, st3⟩ := X2.virtualBack hx (y := (⟨"com/example/concordia/concordia/index/Program", "lastLiteralFrom", "()I"⟩ : MethodName)) (z := (⟨"com/example/concordia/concordia/index/Program", "lastLiteralFrom", "()I"⟩ : MethodName)) hown (mvT hZ (hw _ (List.mem_of_getElem? (i := 190) rfl))) (mvT hZ (hw _ (List.mem_of_getElem? (i := 191) rfl))) (notFace_of_selects (args := #[]) (mvT hZ (hw _ (List.mem_of_getElem? (i := 193) rfl)))) (mvT hZ (hw _ (List.mem_of_getElem? (i := 193) rfl))) (mvT hZ (hw _ (List.mem_of_getElem? (i := 192) rfl))) (by decide) (backOf (W := 1) (rm_llf l Z a0 hw [] pg h0 n0 Z0 pr11) hZ (hw _ (List.mem_of_getElem? (i := 194) rfl)) (hw _ (List.mem_of_getElem? (i := 159) rfl)) (by decide) (by decide)) q3a q3c (g := (mkF m 10 #[.val (.ref a1), .val (.int (0 : Int32)), .val (.int p3), .val (.int sz), .unset, .unset] [(.ref pg), (.int (0 : Int32))])) rfl (by rw [hml]; rfl) (Steps.refl _) (argsL := []) (rest := [(.int (0 : Int32))]) (lenOf pd__40_41I rfl) rfl (by show 2 * 0 + _ ≤ _; exact Nat.le_of_eq rfl) (hb hby d22_10) (fun _ _ => ⟨rfl, e2, (by decide : 0 + 0 ≤ _), (by decide : 0 + 0 ≤ _)⟩)
  dsimp only [Pt.U, Pt.locs, Pt.cells, Pt.slots] at X3 l3 y3 z3 st3 hQ3
  subst l3 y3 z3
  obtain ⟨rfl, Nq3, e3⟩ := hQ3
  have N3 := Fr.app N0 Nq3
  obtain ⟨_, _, ⟨T4, L4, k4, n4⟩, -, X4, ⟨Lc4, hQ4, l4, y4, z4⟩, st4⟩ := Jvm.LawKit.callS X3 hx (y := (⟨"java/lang/Math", "max", "(II)I"⟩ : MethodName)) hown (mvT hZ (hw _ (List.mem_of_getElem? (i := 197) rfl))) (mvT hZ (hw _ (List.mem_of_getElem? (i := 198) rfl))) (mvT hZ (hw _ (List.mem_of_getElem? (i := 199) rfl))) (mvT hZ (hw _ (List.mem_of_getElem? (i := 200) rfl))) (by decide) (backOf (W := 0) (rm_max l Z a0 hw []  h0 n0 Z0) hZ (hw _ (List.mem_of_getElem? (i := 200) rfl)) (hw _ (List.mem_of_getElem? (i := 199) rfl)) (by decide) (by decide)) (g := (mkF m 13 #[.val (.ref a1), .val (.int (0 : Int32)), .val (.int p3), .val (.int sz), .unset, .unset] [(.int (0 : Int32)), (.int (0 : Int32))])) rfl (by rw [hml]; rfl) (argsL := [(.int (0 : Int32)), (.int (0 : Int32))]) (rest := []) (lenOf pd__40II_41I rfl) rfl (by show 2 * 0 + _ ≤ _; exact Nat.le_of_eq rfl) (hb hby d22_13) (fun _ _ => ⟨rfl, e3, (by decide : 0 + 0 ≤ _), (by decide : 0 + 0 ≤ _)⟩)
  dsimp only [Pt.U, Pt.locs, Pt.cells, Pt.slots] at X4 l4 y4 z4 st4 hQ4
  subst l4 y4 z4
  obtain ⟨rfl, Nq4, e4⟩ := hQ4
  have N4 := Fr.app N3 Nq4
  obtain ⟨T5, X5, e5, st5⟩ := getF X4 hx hZ hown (host := "") (Or.inl (hw _ (List.mem_of_getElem? (i := 182) rfl))) Via.refl e4 pr9 (g := (mkF m 51 #[.val (.ref a1), .val (.int (0 : Int32)), .val (.int p3), .val (.int sz), .val (.int (0 : Int32)), .val (.int (0 : Int32))] [(.ref a1), (.int (0 : Int32))])) rfl rfl (hb hby d22_51)
  obtain ⟨cq6, kq6, q6a, q6b, q6c⟩ := isOf hZ e5 pr10
  obtain ⟨_, _, ⟨T6, L6, k6, n6⟩, -, X6, ⟨Lc6, hQ6, l6, y6, z6⟩, st6⟩ := X5.virtualBack hx (y := (⟨"com/example/concordia/concordia/index/Program", "size", "()I"⟩ : MethodName)) (z := (⟨"com/example/concordia/concordia/index/Program", "size", "()I"⟩ : MethodName)) hown (mvT hZ (hw _ (List.mem_of_getElem? (i := 201) rfl))) (mvT hZ (hw _ (List.mem_of_getElem? (i := 202) rfl))) (notFace_of_selects (args := #[]) (mvT hZ (hw _ (List.mem_of_getElem? (i := 204) rfl)))) (mvT hZ (hw _ (List.mem_of_getElem? (i := 204) rfl))) (mvT hZ (hw _ (List.mem_of_getElem? (i := 203) rfl))) (by decide) (backOf (W := 1) (rm_pgsize l Z a0 hw [] pg il h0 n0 Z0 pr12 pr13 pr14) hZ (hw _ (List.mem_of_getElem? (i := 205) rfl)) (hw _ (List.mem_of_getElem? (i := 159) rfl)) (by decide) (by decide)) q6a q6c (g := (mkF m 54 #[.val (.ref a1), .val (.int (0 : Int32)), .val (.int p3), .val (.int sz), .val (.int (0 : Int32)), .val (.int (0 : Int32))] [(.ref pg), (.int (0 : Int32))])) rfl (by rw [hml]; rfl) (Steps.refl _) (argsL := []) (rest := [(.int (0 : Int32))]) (lenOf pd__40_41I rfl) rfl (by show 2 * 0 + _ ≤ _; exact Nat.le_of_eq rfl) (hb hby d22_54) (fun _ _ => ⟨rfl, e5, (by decide : 0 + 0 ≤ _), (by decide : 0 + 0 ≤ _)⟩)
  dsimp only [Pt.U, Pt.locs, Pt.cells, Pt.slots] at X6 l6 y6 z6 st6 hQ6
  subst l6 y6 z6
  obtain ⟨rfl, Nq6, e6⟩ := hQ6
  have N6 := Fr.app N4 Nq6
  obtain ⟨mk7, mM7, hN7, hM7, hG7⟩ := own_named (mvT hZ (hw _ (List.mem_of_getElem? (i := 216) rfl)) (args := #[]))
  obtain ⟨_, _, ⟨T7, L7, k7, n7⟩, -, X7, ⟨Lc7, hQ7, l7, y7, z7⟩, st7⟩ := X6.staticBackUp hx (owner := "com/example/concordia/concordia/index/Code") (x := (⟨"com/example/concordia/concordia/index/LinkedCode", "instruction", "(II)I"⟩ : MethodName)) hown (mvT hZ (hw _ (List.mem_of_getElem? (i := 213) rfl))) (own_same hZ (by decide) (hw _ (List.mem_of_getElem? (i := 214) rfl))) (mvT hZ (hw _ (List.mem_of_getElem? (i := 215) rfl))) (mvT hZ (hw _ (List.mem_of_getElem? (i := 113) rfl))) hN7 hM7 hG7 (by decide) (backOf (W := 1) (rm_instr l Z a0 hw [] p3 h0 n0 Z0) hZ (hw _ (List.mem_of_getElem? (i := 216) rfl)) (hw _ (List.mem_of_getElem? (i := 113) rfl)) (by decide) (by decide)) (g := (mkF m 91 #[.val (.ref a1), .val (.int (0 : Int32)), .val (.int p3), .val (.int sz), .val (.int (0 : Int32)), .val (.int (0 : Int32))] [(.int p3), (.int (4 : Int32)), (.ref a1)])) rfl (by rw [hml]; rfl) (Steps.refl _) (argsL := [(.int (4 : Int32)), (.int p3)]) (rest := [(.ref a1)]) (lenOf pd__40II_41I rfl) rfl (by show 2 * 0 + _ ≤ _; exact Nat.le_of_eq rfl) (hb hby d22_91) (fun _ _ => ⟨rfl, e6, (by decide : 0 + 0 ≤ _), (by decide : 0 + 0 ≤ _)⟩)
  dsimp only [Pt.U, Pt.locs, Pt.cells, Pt.slots] at X7 l7 y7 z7 st7 hQ7
  subst l7 y7 z7
  obtain ⟨rfl, Nq7, e7⟩ := hQ7
  have N7 := Fr.app N6 Nq7
  obtain ⟨cq8, q8, q8'⟩ := (Ins.self pr0).cell
  obtain ⟨_, _, ⟨T8, L8, k8, n8⟩, -, X8, ⟨Lc8, hQ8, l8, y8, z8⟩, st8⟩ := X7.privateBack hx (y := (⟨"com/example/concordia/concordia/index/LinkedCode", "appendInstruction", "(I)I"⟩ : MethodName)) hown (mvT hZ (hw _ (List.mem_of_getElem? (i := 217) rfl))) (mvT hZ (hw _ (List.mem_of_getElem? (i := 218) rfl))) (own_selP (mvT hZ (hw _ (List.mem_of_getElem? (i := 1) rfl)) (args := #[])) (mvP hZ (hw _ (List.mem_of_getElem? (i := 219) rfl)) (args := #[])) (mvT hZ (hw _ (List.mem_of_getElem? (i := 218) rfl))) (by decide)) (Cond.privateMethod_at (mvP hZ (hw _ (List.mem_of_getElem? (i := 219) rfl)) (args := #[]))) (mvT hZ (hw _ (List.mem_of_getElem? (i := 220) rfl))) (by decide) (backOf (W := 0) (rm_ai l Z a0 hw [] a1 ((p3 <<< ((5 : Int32) &&& 31)) ||| (4 : Int32)) cd sz li rt pg h0 n0 Z0 pr0 pr1 pr2 pr3 pr4 pr5 pr6 pr7 pr8 pr9 hs1 hs2 hs3 hs4 hs5) hZ (hw _ (List.mem_of_getElem? (i := 220) rfl)) (hw _ (List.mem_of_getElem? (i := 2) rfl)) (by decide) (by decide)) (g := (mkF m 94 #[.val (.ref a1), .val (.int (0 : Int32)), .val (.int p3), .val (.int sz), .val (.int (0 : Int32)), .val (.int (0 : Int32))] [(.int ((p3 <<< ((5 : Int32) &&& 31)) ||| (4 : Int32))), (.ref a1)])) rfl (by rw [hml]; rfl) (Steps.refl _) (a := a1) (by rw [e7]; exact q8) q8' (argsL := [(.int ((p3 <<< ((5 : Int32) &&& 31)) ||| (4 : Int32)))]) (rest := []) (lenOf pd__40I_41I rfl) rfl (by show 2 * 0 + _ ≤ _; exact Nat.le_of_eq rfl) (hb hby d22_94) (fun _ _ => ⟨rfl, e7, (by decide : 0 + 0 ≤ _), (by decide : 0 + 0 ≤ _)⟩)
  dsimp only [Pt.U, Pt.locs, Pt.cells, Pt.slots] at X8 l8 y8 z8 st8 hQ8
  subst l8 y8 z8
  obtain ⟨rfl, Nq8, Kc8, p8_0, p8_1, p8_2, p8_3, p8_4, p8_5⟩ := hQ8
  have K9 : Keep h0 T8.heap [a1, cd] := (Keep.refl h0 [a1, cd]).trans Kc8 (allS (Or.inl (List.mem_of_getElem? (i := 0) rfl)) (allS (Or.inl (List.mem_of_getElem? (i := 1) rfl)) all0))
  have N8 := Fr.app N7 Nq8
  obtain ⟨fs, hr, hrun, hended, hW, hsame⟩ := X8.leave (v := some (.int sz)) (fun h => by rw [Bd.returns] at h; cases h)
  refine ⟨_, _, pre0 _ ?_, hrun, hended, _, _, rfl, ?_, ⟨_, rfl⟩, hW, hsame.mono (by decide) (by decide)⟩
  · show Steps p.tables e below (s₁.setTop (mkF m 0 #[.val (.ref a1), .val (.int (0 : Int32)), .val (.int p3), .unset, .unset, .unset] [])) _
    refine XS.aloadN X0.here hx rfl (hb hby d22_0) rfl rfl ?_
    show Steps p.tables e below (s₁.setTop (mkF m 1 #[.val (.ref a1), .val (.int (0 : Int32)), .val (.int p3), .unset, .unset, .unset] [(.ref a1)])) _
    refine st1 _ ?_
    show Steps p.tables e below (T1.setTop (mkF m 4 #[.val (.ref a1), .val (.int (0 : Int32)), .val (.int p3), .unset, .unset, .unset] [(.int sz)])) _
    refine XS.istoreN X1.here hx rfl (hb hby d22_4) rfl (l' := #[.val (.ref a1), .val (.int (0 : Int32)), .val (.int p3), .val (.int sz), .unset, .unset]) rfl ?_
    show Steps p.tables e below (T1.setTop (mkF m 5 #[.val (.ref a1), .val (.int (0 : Int32)), .val (.int p3), .val (.int sz), .unset, .unset] [])) _
    refine XS.iloadN X1.here hx rfl (hb hby d22_5) rfl ?_
    show Steps p.tables e below (T1.setTop (mkF m 6 #[.val (.ref a1), .val (.int (0 : Int32)), .val (.int p3), .val (.int sz), .unset, .unset] [(.int (0 : Int32))])) _
    refine XS.aloadN X1.here hx rfl (hb hby d22_6) rfl rfl ?_
    show Steps p.tables e below (T1.setTop (mkF m 7 #[.val (.ref a1), .val (.int (0 : Int32)), .val (.int p3), .val (.int sz), .unset, .unset] [(.ref a1), (.int (0 : Int32))])) _
    refine st2 _ ?_
    show Steps p.tables e below (T2.setTop (mkF m 10 #[.val (.ref a1), .val (.int (0 : Int32)), .val (.int p3), .val (.int sz), .unset, .unset] [(.ref pg), (.int (0 : Int32))])) _
    refine st3.trans ?_
    show Steps p.tables e below (T3.setTop (mkF m 13 #[.val (.ref a1), .val (.int (0 : Int32)), .val (.int p3), .val (.int sz), .unset, .unset] [(.int (0 : Int32)), (.int (0 : Int32))])) _
    refine st4 _ ?_
    show Steps p.tables e below (T4.setTop (mkF m 16 #[.val (.ref a1), .val (.int (0 : Int32)), .val (.int p3), .val (.int sz), .unset, .unset] [(.int (0 : Int32))])) _
    refine XS.istore X4.here hx rfl (hb hby d22_16) rfl (l' := #[.val (.ref a1), .val (.int (0 : Int32)), .val (.int p3), .val (.int sz), .val (.int (0 : Int32)), .unset]) rfl ?_
    show Steps p.tables e below (T4.setTop (mkF m 18 #[.val (.ref a1), .val (.int (0 : Int32)), .val (.int p3), .val (.int sz), .val (.int (0 : Int32)), .unset] [])) _
    refine XS.iloadN X4.here hx rfl (hb hby d22_18) rfl ?_
    show Steps p.tables e below (T4.setTop (mkF m 19 #[.val (.ref a1), .val (.int (0 : Int32)), .val (.int p3), .val (.int sz), .val (.int (0 : Int32)), .unset] [(.int (0 : Int32))])) _
    refine XS.istore X4.here hx rfl (hb hby d22_19) rfl (l' := #[.val (.ref a1), .val (.int (0 : Int32)), .val (.int p3), .val (.int sz), .val (.int (0 : Int32)), .val (.int (0 : Int32))]) rfl ?_
    show Steps p.tables e below (T4.setTop (mkF m 21 #[.val (.ref a1), .val (.int (0 : Int32)), .val (.int p3), .val (.int sz), .val (.int (0 : Int32)), .val (.int (0 : Int32))] [])) _
    refine XS.iload X4.here hx rfl (hb hby d22_21) rfl ?_
    show Steps p.tables e below (T4.setTop (mkF m 23 #[.val (.ref a1), .val (.int (0 : Int32)), .val (.int p3), .val (.int sz), .val (.int (0 : Int32)), .val (.int (0 : Int32))] [(.int (0 : Int32))])) _
    refine XS.iload X4.here hx rfl (hb hby d22_23) rfl ?_
    show Steps p.tables e below (T4.setTop (mkF m 25 #[.val (.ref a1), .val (.int (0 : Int32)), .val (.int p3), .val (.int sz), .val (.int (0 : Int32)), .val (.int (0 : Int32))] [(.int (0 : Int32)), (.int (0 : Int32))])) _
    refine XS.icmpYes X4.here hx rfl (pc0 := 25) (pc' := 48) rfl (hb hby d22_25) rfl (flt (by decide : ¬ ((0 : Int32) < (0 : Int32)))).2.1 (by decide) (by decide) ?_
    show Steps p.tables e below (T4.setTop (mkF m 48 #[.val (.ref a1), .val (.int (0 : Int32)), .val (.int p3), .val (.int sz), .val (.int (0 : Int32)), .val (.int (0 : Int32))] [])) _
    refine XS.iload X4.here hx rfl (hb hby d22_48) rfl ?_
    show Steps p.tables e below (T4.setTop (mkF m 50 #[.val (.ref a1), .val (.int (0 : Int32)), .val (.int p3), .val (.int sz), .val (.int (0 : Int32)), .val (.int (0 : Int32))] [(.int (0 : Int32))])) _
    refine XS.aloadN X4.here hx rfl (hb hby d22_50) rfl rfl ?_
    show Steps p.tables e below (T4.setTop (mkF m 51 #[.val (.ref a1), .val (.int (0 : Int32)), .val (.int p3), .val (.int sz), .val (.int (0 : Int32)), .val (.int (0 : Int32))] [(.ref a1), (.int (0 : Int32))])) _
    refine st5 _ ?_
    show Steps p.tables e below (T5.setTop (mkF m 54 #[.val (.ref a1), .val (.int (0 : Int32)), .val (.int p3), .val (.int sz), .val (.int (0 : Int32)), .val (.int (0 : Int32))] [(.ref pg), (.int (0 : Int32))])) _
    refine st6.trans ?_
    show Steps p.tables e below (T6.setTop (mkF m 57 #[.val (.ref a1), .val (.int (0 : Int32)), .val (.int p3), .val (.int sz), .val (.int (0 : Int32)), .val (.int (0 : Int32))] [(.int (0 : Int32)), (.int (0 : Int32))])) _
    refine XS.iconst X6.here hx rfl (hb hby d22_57) ?_
    show Steps p.tables e below (T6.setTop (mkF m 58 #[.val (.ref a1), .val (.int (0 : Int32)), .val (.int p3), .val (.int sz), .val (.int (0 : Int32)), .val (.int (0 : Int32))] [(.int (1 : Int32)), (.int (0 : Int32)), (.int (0 : Int32))])) _
    refine XS.isub X6.here hx rfl (hb hby d22_58) rfl ?_
    show Steps p.tables e below (T6.setTop (mkF m 59 #[.val (.ref a1), .val (.int (0 : Int32)), .val (.int p3), .val (.int sz), .val (.int (0 : Int32)), .val (.int (0 : Int32))] [(.int (-1 : Int32)), (.int (0 : Int32))])) _
    refine XS.icmpYes X6.here hx rfl (pc0 := 59) (pc' := 88) rfl (hb hby d22_59) rfl (flt (by decide : ¬ ((0 : Int32) < (-1 : Int32)))).2.1 (by decide) (by decide) ?_
    show Steps p.tables e below (T6.setTop (mkF m 88 #[.val (.ref a1), .val (.int (0 : Int32)), .val (.int p3), .val (.int sz), .val (.int (0 : Int32)), .val (.int (0 : Int32))] [])) _
    refine XS.aloadN X6.here hx rfl (hb hby d22_88) rfl rfl ?_
    show Steps p.tables e below (T6.setTop (mkF m 89 #[.val (.ref a1), .val (.int (0 : Int32)), .val (.int p3), .val (.int sz), .val (.int (0 : Int32)), .val (.int (0 : Int32))] [(.ref a1)])) _
    refine XS.iconst X6.here hx rfl (hb hby d22_89) ?_
    show Steps p.tables e below (T6.setTop (mkF m 90 #[.val (.ref a1), .val (.int (0 : Int32)), .val (.int p3), .val (.int sz), .val (.int (0 : Int32)), .val (.int (0 : Int32))] [(.int (4 : Int32)), (.ref a1)])) _
    refine XS.iloadN X6.here hx rfl (hb hby d22_90) rfl ?_
    show Steps p.tables e below (T6.setTop (mkF m 91 #[.val (.ref a1), .val (.int (0 : Int32)), .val (.int p3), .val (.int sz), .val (.int (0 : Int32)), .val (.int (0 : Int32))] [(.int p3), (.int (4 : Int32)), (.ref a1)])) _
    refine st7.trans ?_
    show Steps p.tables e below (T7.setTop (mkF m 94 #[.val (.ref a1), .val (.int (0 : Int32)), .val (.int p3), .val (.int sz), .val (.int (0 : Int32)), .val (.int (0 : Int32))] [(.int ((p3 <<< ((5 : Int32) &&& 31)) ||| (4 : Int32))), (.ref a1)])) _
    refine st8.trans ?_
    show Steps p.tables e below (T8.setTop (mkF m 97 #[.val (.ref a1), .val (.int (0 : Int32)), .val (.int p3), .val (.int sz), .val (.int (0 : Int32)), .val (.int (0 : Int32))] [(.int sz)])) _
    refine XS.pop X8.here hx rfl (hb hby d22_97) rfl rfl ?_
    show Steps p.tables e below (T8.setTop (mkF m 98 #[.val (.ref a1), .val (.int (0 : Int32)), .val (.int p3), .val (.int sz), .val (.int (0 : Int32)), .val (.int (0 : Int32))] [])) _
    refine XS.iloadN X8.here hx rfl (hb hby d22_98) rfl ?_
    show Steps p.tables e below (T8.setTop (mkF m 99 #[.val (.ref a1), .val (.int (0 : Int32)), .val (.int p3), .val (.int sz), .val (.int (0 : Int32)), .val (.int (0 : Int32))] [(.int sz)])) _
    exact retI X8 hx Bd.returns (hb hby d22_99) hr
  · show Q_rm_ap Z a1 p3 cd sz li rt pg il h0 n0 _ T8.heap _
    exact ⟨rfl, N8, K9, p8_0, p8_1, p8_2, p8_3, p8_4, p8_5⟩
theorem d29_0 : decode prog_43_method_28_code 0 = .ok (.aload_n 0, 1) := by decide +kernel
theorem d29_1 : decode prog_43_method_28_code 1 = .ok (.getfield 168, 3) := by decide +kernel
theorem d29_4 : decode prog_43_method_28_code 4 = .ok (.aload_n 0, 1) := by decide +kernel
theorem d29_5 : decode prog_43_method_28_code 5 = .ok (.getfield 18, 3) := by decide +kernel
theorem d29_8 : decode prog_43_method_28_code 8 = .ok (.if_icmp .le 7, 3) := by decide +kernel
theorem d29_15 : decode prog_43_method_28_code 15 = .ok (.return_, 1) := by decide +kernel
theorem ef_rm_lo (m : MethodId) (x0 : Addr) : entryFrame m #[(.ref x0)] 1 = mkF m 0 #[.val (.ref x0)] [] := by first | (simp [entryFrame, mkF, argsToLocals, Value.category]; done) | rfl
def Q_rm_lo (Z : State) (a1 : Addr) (sz : Int32) (h0 : Heap) (n0 : Nat) (v : Option Value) (h : Heap) (L : List Loc) : Prop := v = none ∧ Fr n0 L ∧ h = h0
set_option maxRecDepth 65536 in
set_option maxHeartbeats 40000000 in
theorem rm_lo (l : Launch) (Z : State) (a0 : Array Value) (hw : ∀ d ∈ tables_1, d.before a0 Z = true) (ws : List Jvm.Cond) (a1 : Addr) (sz : Int32) (h0 : Heap) (n0 : Nat) (Z0 : n0 ≤ h0.size) (pr0 : Fld Z h0 a1 "com/example/concordia/concordia/index/LinkedCode" "codeSize" "I" (.int sz)) (pr1 : Fld Z h0 a1 "com/example/concordia/concordia/index/LinkedCode" "layOutAt" "I" (.int (1024 : Int32))) (hs : ¬ ((1024 : Int32) < sz)) :
    MetFree l (⟨"com/example/concordia/concordia/index/LinkedCode", "layOutOnceGrown", "()V"⟩ : MethodName) (head1 (Jvm.Cond.code (⟨"com/example/concordia/concordia/index/LinkedCode", "layOutOnceGrown", "()V"⟩ : MethodName) prog_43_method_28_code 1 none :: ws) ({ frames := 0, cells := 0, slots := 0, locals := 0 } : Room)) (fun a U => a = #[(.ref a1)] ∧ Z.Warmed39 U.vm ∧ U.heap = h0) (fun _ _ _ _ _ => True) (fun _ U o U' => ∃ v L, o = .returned v ∧ Q_rm_lo Z a1 sz h0 n0 v U'.heap L ∧ FrameEnd U o U' L ({ frames := 0, cells := 0, slots := 0, locals := 0 } : Room).cells ({ frames := 0, cells := 0, slots := 0, locals := 0 } : Room).slots) := by
  refine MetFree.of_bodySF (plainFor_of_name pn_com_example_concordia_concordia_index_LinkedCode) hisR ?_
  intro p e s m args below meth c s₁ Bd hml0 hP hK
  obtain ⟨rfl, hZ, hh⟩ := hP
  have hx := Bd.exec
  have hby := Bd.bytes
  have hml : c.maxLocals = 1 := hml0
  have hown : s.vm.findClass "com/example/concordia/concordia/index/LinkedCode" = some m.cls := findClass_of_methodNamed Bd.named
  have hnm := (name_of_methodNamed Bd.named Bd.method).1
  have X0 : Stand p l e ({ frames := 0, cells := 0, slots := 0, locals := 0 } : Room) s m #[(.ref a1)] below meth c s₁ [] 0 0 := Stand.of_body Bd
  have e0 : s₁.heap = h0 := by rw [← hh, Bd.state]; rfl
  have N0 := Fr.nil n0
  have pre0 : ∀ t, Steps p.tables e below (s₁.setTop (mkF m 0 #[.val (.ref a1)] [])) t → Steps p.tables e below (s₁.setTop (entryFrame m #[(.ref a1)] 1)) t := fun t k => castTop (ef_rm_lo m a1) k
  obtain ⟨T1, X1, e1, st1⟩ := getF X0 hx hZ hown (host := "") (Or.inl (hw _ (List.mem_of_getElem? (i := 188) rfl))) Via.refl e0 pr0 (g := (mkF m 1 #[.val (.ref a1)] [(.ref a1)])) rfl rfl (hb hby d29_1)
  obtain ⟨T2, X2, e2, st2⟩ := getF X1 hx hZ hown (host := "") (Or.inl (hw _ (List.mem_of_getElem? (i := 120) rfl))) Via.refl e1 pr1 (g := (mkF m 5 #[.val (.ref a1)] [(.ref a1), (.int sz)])) rfl rfl (hb hby d29_5)
  obtain ⟨fs, hr, hrun, hended, hW, hsame⟩ := X2.leave (v := none) (fun _ => rfl)
  refine ⟨_, _, pre0 _ ?_, hrun, hended, _, _, rfl, ?_, ⟨_, rfl⟩, hW, hsame.mono (by decide) (by decide)⟩
  · show Steps p.tables e below (s₁.setTop (mkF m 0 #[.val (.ref a1)] [])) _
    refine XS.aloadN X0.here hx rfl (hb hby d29_0) rfl rfl ?_
    show Steps p.tables e below (s₁.setTop (mkF m 1 #[.val (.ref a1)] [(.ref a1)])) _
    refine st1 _ ?_
    show Steps p.tables e below (T1.setTop (mkF m 4 #[.val (.ref a1)] [(.int sz)])) _
    refine XS.aloadN X1.here hx rfl (hb hby d29_4) rfl rfl ?_
    show Steps p.tables e below (T1.setTop (mkF m 5 #[.val (.ref a1)] [(.ref a1), (.int sz)])) _
    refine st2 _ ?_
    show Steps p.tables e below (T2.setTop (mkF m 8 #[.val (.ref a1)] [(.int (1024 : Int32)), (.int sz)])) _
    refine XS.icmpYes X2.here hx rfl (pc0 := 8) (pc' := 15) rfl (hb hby d29_8) rfl (flt hs).2.2.2 (by decide) (by decide) ?_
    show Steps p.tables e below (T2.setTop (mkF m 15 #[.val (.ref a1)] [])) _
    exact X2.returnOut hx Bd.returns (hb hby d29_15) hr
  · show Q_rm_lo Z a1 sz h0 n0 _ T2.heap _
    rw [e2]
    exact ⟨rfl, N0, rfl⟩
theorem d21_0 : decode prog_43_method_10_code 0 = .ok (.aload_n 0, 1) := by decide +kernel
theorem d21_1 : decode prog_43_method_10_code 1 = .ok (.aload_n 2, 1) := by decide +kernel
theorem d21_2 : decode prog_43_method_10_code 2 = .ok (.putfield 61, 3) := by decide +kernel
theorem d21_5 : decode prog_43_method_10_code 5 = .ok (.aload_n 0, 1) := by decide +kernel
theorem d21_6 : decode prog_43_method_10_code 6 = .ok (.getfield 15, 3) := by decide +kernel
theorem d21_9 : decode prog_43_method_10_code 9 = .ok (.iload_n 1, 1) := by decide +kernel
theorem d21_10 : decode prog_43_method_10_code 10 = .ok (.iaload, 1) := by decide +kernel
theorem d21_11 : decode prog_43_method_10_code 11 = .ok (.iconst (-1), 1) := by decide +kernel
theorem d21_12 : decode prog_43_method_10_code 12 = .ok (.if_icmp .ne 20, 3) := by decide +kernel
theorem d21_15 : decode prog_43_method_10_code 15 = .ok (.aload_n 0, 1) := by decide +kernel
theorem d21_16 : decode prog_43_method_10_code 16 = .ok (.getfield 15, 3) := by decide +kernel
theorem d21_19 : decode prog_43_method_10_code 19 = .ok (.iload_n 1, 1) := by decide +kernel
theorem d21_20 : decode prog_43_method_10_code 20 = .ok (.aload_n 0, 1) := by decide +kernel
theorem d21_21 : decode prog_43_method_10_code 21 = .ok (.iconst 0, 1) := by decide +kernel
theorem d21_22 : decode prog_43_method_10_code 22 = .ok (.iload_n 3, 1) := by decide +kernel
theorem d21_23 : decode prog_43_method_10_code 23 = .ok (.invokevirtual 65, 3) := by decide +kernel
theorem d21_26 : decode prog_43_method_10_code 26 = .ok (.iastore, 1) := by decide +kernel
theorem d21_27 : decode prog_43_method_10_code 27 = .ok (.aload_n 0, 1) := by decide +kernel
theorem d21_28 : decode prog_43_method_10_code 28 = .ok (.invokevirtual 68, 3) := by decide +kernel
theorem d21_31 : decode prog_43_method_10_code 31 = .ok (.return_, 1) := by decide +kernel
theorem ef_rm_ad0 (m : MethodId) (x0 : Addr) (x1 : Int32) (x2 : Addr) (x3 : Int32) : entryFrame m #[(.ref x0), (.int x1), (.ref x2), (.int x3)] 10 = mkF m 0 #[.val (.ref x0), .val (.int x1), .val (.ref x2), .val (.int x3), .unset, .unset, .unset, .unset, .unset, .unset] [] := by first | (simp [entryFrame, mkF, argsToLocals, Value.category]; done) | rfl
def Q_rm_ad0 (Z : State) (a1 : Addr) (pg : Addr) (p4 : Int32) (cd : Addr) (sz : Int32) (li : Int32) (rt : Addr) (il : Addr) (kr : ClassId) (v1 : Value) (r0 : Int32) (r1 : Int32) (r2 : Int32) (r3 : Int32) (h0 : Heap) (n0 : Nat) (v : Option Value) (h : Heap) (L : List Loc) : Prop := v = none ∧ Fr n0 L ∧ Keep h0 h [a1, cd, rt] ∧ (Fld Z h a1 "com/example/concordia/concordia/index/LinkedCode" "code" "[I" (.ref cd)) ∧ (Fld Z h a1 "com/example/concordia/concordia/index/LinkedCode" "codeSize" "I" (.int (sz + (2 : Int32)))) ∧ (Fld Z h a1 "com/example/concordia/concordia/index/LinkedCode" "liveInstructions" "I" (.int (li + (1 : Int32)))) ∧ (Fld Z h a1 "com/example/concordia/concordia/index/LinkedCode" "roots" "[I" (.ref rt)) ∧ (Fld Z h a1 "com/example/concordia/concordia/index/LinkedCode" "layOutAt" "I" (.int (1024 : Int32))) ∧ (Fld Z h a1 "com/example/concordia/concordia/index/LinkedCode" "program" "Lcom/example/concordia/concordia/index/Program;" (.ref pg)) ∧ (Arv Z h rt kr .int (4 : Int32) [(.int sz), (.int r1), (.int r2), (.int r3)] (.int (0 : Int32)))
set_option maxRecDepth 65536 in
set_option maxHeartbeats 40000000 in
theorem rm_ad0 (l : Launch) (Z : State) (a0 : Array Value) (hw : ∀ d ∈ tables_1, d.before a0 Z = true) (ws : List Jvm.Cond) (a1 : Addr) (pg : Addr) (p4 : Int32) (cd : Addr) (sz : Int32) (li : Int32) (rt : Addr) (il : Addr) (kr : ClassId) (v1 : Value) (r0 : Int32) (r1 : Int32) (r2 : Int32) (r3 : Int32) (h0 : Heap) (n0 : Nat) (Z0 : n0 ≤ h0.size) (pr0 : Exa Z h0 a1 "com/example/concordia/concordia/index/LinkedCode") (pr1 : n0 ≤ a1) (pr2 : n0 ≤ cd) (pr3 : Fld Z h0 a1 "com/example/concordia/concordia/index/LinkedCode" "code" "[I" (.ref cd)) (pr4 : own_Ars Z h0 cd .int (64 : Int32)) (pr5 : Fld Z h0 a1 "com/example/concordia/concordia/index/LinkedCode" "codeSize" "I" (.int sz)) (pr6 : Fld Z h0 a1 "com/example/concordia/concordia/index/LinkedCode" "liveInstructions" "I" (.int li)) (pr7 : Fld Z h0 a1 "com/example/concordia/concordia/index/LinkedCode" "roots" "[I" (.ref rt)) (pr8 : Fld Z h0 a1 "com/example/concordia/concordia/index/LinkedCode" "layOutAt" "I" (.int (1024 : Int32))) (pr9 : Fld Z h0 a1 "com/example/concordia/concordia/index/LinkedCode" "program" "Lcom/example/concordia/concordia/index/Program;" v1) (pr10 : Arv Z h0 rt kr .int (4 : Int32) [(.int r0), (.int r1), (.int r2), (.int r3)] (.int (0 : Int32))) (pr11 : n0 ≤ rt) (pr12 : cd ≠ rt) (pr13 : Exa Z h0 pg "com/example/concordia/concordia/index/Program") (pr14 : Fld Z h0 pg "com/example/concordia/concordia/index/Program" "lastLiteralFrom" "I" (.int (0 : Int32))) (pr15 : Fld Z h0 pg "com/example/concordia/concordia/index/Program" "instructions" "Lcom/example/concordia/concordia/expr/IntList;" (.ref il)) (pr16 : Exa Z h0 il "com/example/concordia/concordia/expr/IntList") (pr17 : Fld Z h0 il "com/example/concordia/concordia/expr/IntList" "size" "I" (.int (0 : Int32))) (hs1 : ¬ (sz < (0 : Int32))) (hs2 : sz < (64 : Int32)) (hs3 : ¬ ((sz + (1 : Int32)) < (0 : Int32))) (hs4 : (sz + (1 : Int32)) < (64 : Int32)) (hs5 : ¬ ((64 : Int32) < (sz + (2 : Int32)))) (hs6 : ¬ ((1024 : Int32) < (sz + (2 : Int32)))) (hrj : r0 = (-1 : Int32)) :
    MetFree l (⟨"com/example/concordia/concordia/index/LinkedCode", "add", "(ILcom/example/concordia/concordia/index/Program;I)V"⟩ : MethodName) (head1 (Jvm.Cond.code (⟨"com/example/concordia/concordia/index/LinkedCode", "add", "(ILcom/example/concordia/concordia/index/Program;I)V"⟩ : MethodName) prog_43_method_10_code 10 none :: ws) ({ frames := 3, cells := 0, slots := 0, locals := 44 } : Room)) (fun a U => a = #[(.ref a1), (.int (0 : Int32)), (.ref pg), (.int p4)] ∧ Z.Warmed39 U.vm ∧ U.heap = h0) (fun _ _ _ _ _ => True) (fun _ U o U' => ∃ v L, o = .returned v ∧ Q_rm_ad0 Z a1 pg p4 cd sz li rt il kr v1 r0 r1 r2 r3 h0 n0 v U'.heap L ∧ FrameEnd U o U' L ({ frames := 3, cells := 0, slots := 0, locals := 44 } : Room).cells ({ frames := 3, cells := 0, slots := 0, locals := 44 } : Room).slots) := by
  refine MetFree.of_bodySF (plainFor_of_name pn_com_example_concordia_concordia_index_LinkedCode) hisR ?_
  intro p e s m args below meth c s₁ Bd hml0 hP hK
  obtain ⟨rfl, hZ, hh⟩ := hP
  have hx := Bd.exec
  have hby := Bd.bytes
  have hml : c.maxLocals = 10 := hml0
  have hown : s.vm.findClass "com/example/concordia/concordia/index/LinkedCode" = some m.cls := findClass_of_methodNamed Bd.named
  have hnm := (name_of_methodNamed Bd.named Bd.method).1
  have X0 : Stand p l e ({ frames := 3, cells := 0, slots := 0, locals := 44 } : Room) s m #[(.ref a1), (.int (0 : Int32)), (.ref pg), (.int p4)] below meth c s₁ [] 0 0 := Stand.of_body Bd
  have e0 : s₁.heap = h0 := by rw [← hh, Bd.state]; rfl
  have N0 := Fr.nil n0
  have pre0 : ∀ t, Steps p.tables e below (s₁.setTop (mkF m 0 #[.val (.ref a1), .val (.int (0 : Int32)), .val (.ref pg), .val (.int p4), .unset, .unset, .unset, .unset, .unset, .unset] [])) t → Steps p.tables e below (s₁.setTop (entryFrame m #[(.ref a1), (.int (0 : Int32)), (.ref pg), (.int p4)] 10)) t := fun t k => castTop (ef_rm_ad0 m a1 (0 : Int32) pg p4) k
  obtain ⟨T1, h1, X1, e1, W1, st1⟩ := putF X0 hx hZ hown (host := "") (Or.inl (hw _ (List.mem_of_getElem? (i := 182) rfl))) Via.refl e0 pr9 pr0 (Or.inl (hw _ (List.mem_of_getElem? (i := 183) rfl))) (hw _ (List.mem_of_getElem? (i := 1) rfl)) (ty := (.object "com/example/concordia/concordia/index/Program")) (by decide) rfl rfl (g := (mkF m 2 #[.val (.ref a1), .val (.int (0 : Int32)), .val (.ref pg), .val (.int p4), .unset, .unset, .unset, .unset, .unset, .unset] [(.ref pg), (.ref a1)])) rfl rfl (hb hby d21_2)
  have N1 := Fr.snoc X1 N0 pr1
  have f1 : Fld Z h1 a1 "com/example/concordia/concordia/index/LinkedCode" "program" "Lcom/example/concordia/concordia/index/Program;" (.ref pg) := pr9.same W1
  have K2 : Keep h0 h1 [a1, cd, rt] := (Keep.refl h0 [a1, cd, rt]).wr W1 (Or.inl (List.mem_of_getElem? (i := 0) rfl))
  have f3 : Fld Z h1 a1 "com/example/concordia/concordia/index/LinkedCode" "roots" "[I" (.ref rt) := (pr7.other W1 (Or.inr (slot_ne (Or.inr (hw _ (List.mem_of_getElem? (i := 119) rfl))) (Or.inl (hw _ (List.mem_of_getElem? (i := 183) rfl))) (by decide) (t := (.array .int)) (t' := (.object "com/example/concordia/concordia/index/Program")) (by decide) (by decide))))
  obtain ⟨T4, X4, e4, st4⟩ := getF X1 hx hZ hown (host := "") (Or.inl (hw _ (List.mem_of_getElem? (i := 118) rfl))) Via.refl e1 f3 (g := (mkF m 6 #[.val (.ref a1), .val (.int (0 : Int32)), .val (.ref pg), .val (.int p4), .unset, .unset, .unset, .unset, .unset, .unset] [(.ref a1)])) rfl rfl (hb hby d21_6)
  have f5 : Arv Z h1 rt kr .int (4 : Int32) [(.int r0), (.int r1), (.int r2), (.int r3)] (.int (0 : Int32)) := (pr10.other W1 (Ne.symm (by obtain ⟨_, A_, -⟩ := id pr10; exact ne_arr pr0 (hw _ (List.mem_of_getElem? (i := 1) rfl)) A_)))
  obtain ⟨cl6, Ar6, q6, Sz6, Ng6, Hs6, Ft6⟩ := id f5
  obtain ⟨T7, X7, e7, st7⟩ := getF X4 hx hZ hown (host := "") (Or.inl (hw _ (List.mem_of_getElem? (i := 118) rfl))) Via.refl e4 f3 (g := (mkF m 16 #[.val (.ref a1), .val (.int (0 : Int32)), .val (.ref pg), .val (.int p4), .unset, .unset, .unset, .unset, .unset, .unset] [(.ref a1)])) rfl rfl (hb hby d21_16)
  have f8 : Exa Z h1 a1 "com/example/concordia/concordia/index/LinkedCode" := (pr0.wr W1)
  have f9 : Fld Z h1 a1 "com/example/concordia/concordia/index/LinkedCode" "code" "[I" (.ref cd) := (pr3.other W1 (Or.inr (slot_ne (Or.inl (hw _ (List.mem_of_getElem? (i := 117) rfl))) (Or.inl (hw _ (List.mem_of_getElem? (i := 183) rfl))) (by decide) (t := (.array .int)) (t' := (.object "com/example/concordia/concordia/index/Program")) (by decide) (by decide))))
  have f10 : own_Ars Z h1 cd .int (64 : Int32) := (pr4.wr W1)
  have f11 : Fld Z h1 a1 "com/example/concordia/concordia/index/LinkedCode" "codeSize" "I" (.int sz) := (pr5.other W1 (Or.inr (slot_ne (Or.inl (hw _ (List.mem_of_getElem? (i := 189) rfl))) (Or.inl (hw _ (List.mem_of_getElem? (i := 183) rfl))) (by decide) (t := .int) (t' := (.object "com/example/concordia/concordia/index/Program")) (by decide) (by decide))))
  have f12 : Fld Z h1 a1 "com/example/concordia/concordia/index/LinkedCode" "liveInstructions" "I" (.int li) := (pr6.other W1 (Or.inr (slot_ne (Or.inl (hw _ (List.mem_of_getElem? (i := 222) rfl))) (Or.inl (hw _ (List.mem_of_getElem? (i := 183) rfl))) (by decide) (t := .int) (t' := (.object "com/example/concordia/concordia/index/Program")) (by decide) (by decide))))
  have f13 : Fld Z h1 a1 "com/example/concordia/concordia/index/LinkedCode" "layOutAt" "I" (.int (1024 : Int32)) := (pr8.other W1 (Or.inr (slot_ne (Or.inl (hw _ (List.mem_of_getElem? (i := 121) rfl))) (Or.inl (hw _ (List.mem_of_getElem? (i := 183) rfl))) (by decide) (t := .int) (t' := (.object "com/example/concordia/concordia/index/Program")) (by decide) (by decide))))
  have f14 : Exa Z h1 pg "com/example/concordia/concordia/index/Program" := (pr13.wr W1)
  have f15 : Fld Z h1 pg "com/example/concordia/concordia/index/Program" "lastLiteralFrom" "I" (.int (0 : Int32)) := (pr14.other W1 (Or.inl (ne_exa pr13 pr0 (by decide))))
  have f16 : Fld Z h1 pg "com/example/concordia/concordia/index/Program" "instructions" "Lcom/example/concordia/concordia/expr/IntList;" (.ref il) := (pr15.other W1 (Or.inl (ne_exa pr13 pr0 (by decide))))
  have f17 : Exa Z h1 il "com/example/concordia/concordia/expr/IntList" := (pr16.wr W1)
  have f18 : Fld Z h1 il "com/example/concordia/concordia/expr/IntList" "size" "I" (.int (0 : Int32)) := (pr17.other W1 (Or.inl (ne_exa pr16 pr0 (by decide))))
  obtain ⟨cq19, q19, q19'⟩ := (Ins.self f8).cell
  obtain ⟨_, _, ⟨T19, L19, k19, n19⟩, -, X19, ⟨Lc19, hQ19, l19, y19, z19⟩, st19⟩ := X7.privateBack hx (y := (⟨"com/example/concordia/concordia/index/LinkedCode", "append", "(II)I"⟩ : MethodName)) hown (mvT hZ (hw _ (List.mem_of_getElem? (i := 184) rfl))) (mvT hZ (hw _ (List.mem_of_getElem? (i := 185) rfl))) (own_selP (mvT hZ (hw _ (List.mem_of_getElem? (i := 1) rfl)) (args := #[])) (mvP hZ (hw _ (List.mem_of_getElem? (i := 186) rfl)) (args := #[])) (mvT hZ (hw _ (List.mem_of_getElem? (i := 185) rfl))) (by decide)) (Cond.privateMethod_at (mvP hZ (hw _ (List.mem_of_getElem? (i := 186) rfl)) (args := #[]))) (mvT hZ (hw _ (List.mem_of_getElem? (i := 187) rfl))) (by decide) (backOf (W := 2) (rm_ap l Z a0 hw [] a1 p4 cd sz li rt pg il h1 n0 (Nat.le_trans Z0 K2.1) f8 pr1 pr2 f9 f10 f11 f12 f3 f13 f1 f14 f15 f16 f17 f18 hs1 hs2 hs3 hs4 hs5) hZ (hw _ (List.mem_of_getElem? (i := 187) rfl)) (hw _ (List.mem_of_getElem? (i := 2) rfl)) (by decide) (by decide)) (g := (mkF m 23 #[.val (.ref a1), .val (.int (0 : Int32)), .val (.ref pg), .val (.int p4), .unset, .unset, .unset, .unset, .unset, .unset] [(.int p4), (.int (0 : Int32)), (.ref a1), (.int (0 : Int32)), (.ref rt)])) rfl (by rw [hml]; rfl) (Steps.refl _) (a := a1) (by rw [e7]; exact q19) q19' (argsL := [(.int (0 : Int32)), (.int p4)]) (rest := [(.int (0 : Int32)), (.ref rt)]) (lenOf pd__40II_41I rfl) rfl (by show 2 * 0 + _ ≤ _; exact Nat.le_of_eq rfl) (hb hby d21_23) (fun _ _ => ⟨rfl, e7, (by decide : 0 + 0 ≤ _), (by decide : 0 + 0 ≤ _)⟩)
  dsimp only [Pt.U, Pt.locs, Pt.cells, Pt.slots] at X19 l19 y19 z19 st19 hQ19
  subst l19 y19 z19
  obtain ⟨rfl, Nq19, Kc19, p19_0, p19_1, p19_2, p19_3, p19_4, p19_5⟩ := hQ19
  have K20 : Keep h0 T19.heap [a1, cd, rt] := K2.trans Kc19 (allS (Or.inl (List.mem_of_getElem? (i := 0) rfl)) (allS (Or.inl (List.mem_of_getElem? (i := 1) rfl)) all0))
  have N19 := Fr.app N1 Nq19
  have f21 : Arv Z T19.heap rt kr .int (4 : Int32) [(.int r0), (.int r1), (.int r2), (.int r3)] (.int (0 : Int32)) := (f5.keep Kc19 (ninS (Ne.symm (by obtain ⟨_, A_, -⟩ := id f5; exact ne_arr f8 (hw _ (List.mem_of_getElem? (i := 1) rfl)) A_)) (ninS (Ne.symm pr12) nin0)))
  obtain ⟨cl22, Ar22, q22, Sz22, Ng22, Hs22, Ft22⟩ := id f21
  obtain ⟨T23, h23, X23, e23, W23, st23⟩ := stI X19 hx hZ rfl Ar22 (j := (0 : Int32)) (inb_of Sz22 ⟨by decide, by decide⟩) (g := (mkF m 26 #[.val (.ref a1), .val (.int (0 : Int32)), .val (.ref pg), .val (.int p4), .unset, .unset, .unset, .unset, .unset, .unset] [(.int sz), (.int (0 : Int32)), (.ref rt)])) rfl rfl (hb hby d21_26)
  have N23 := Fr.snoc X23 N19 pr11
  have f23 : Arv Z h23 rt kr .int (4 : Int32) [(.int sz), (.int r1), (.int r2), (.int r3)] (.int (0 : Int32)) := Arv.set Ar22 q22 Sz22 Ng22 Hs22 Ft22 rfl W23 0 rfl (Nat.le_of_ble_eq_true rfl)
  have K24 : Keep h0 h23 [a1, cd, rt] := K20.wr W23 (Or.inl (List.mem_of_getElem? (i := 2) rfl))
  have f25 : Fld Z h23 a1 "com/example/concordia/concordia/index/LinkedCode" "codeSize" "I" (.int (sz + (2 : Int32))) := (p19_1.other W23 (Or.inl (by obtain ⟨_, A_, -⟩ := id f21; exact ne_arr (f8.keep Kc19) (hw _ (List.mem_of_getElem? (i := 1) rfl)) A_)))
  have f26 : Fld Z h23 a1 "com/example/concordia/concordia/index/LinkedCode" "layOutAt" "I" (.int (1024 : Int32)) := (p19_4.other W23 (Or.inl (by obtain ⟨_, A_, -⟩ := id f21; exact ne_arr (f8.keep Kc19) (hw _ (List.mem_of_getElem? (i := 1) rfl)) A_)))
  have f28 : Exa Z h23 a1 "com/example/concordia/concordia/index/LinkedCode" := ((f8.keep Kc19).wr W23)
  obtain ⟨cq27, q27, q27'⟩ := (Ins.self f28).cell
  obtain ⟨_, _, ⟨T27, L27, k27, n27⟩, -, X27, ⟨Lc27, hQ27, l27, y27, z27⟩, st27⟩ := X23.privateBack hx (y := (⟨"com/example/concordia/concordia/index/LinkedCode", "layOutOnceGrown", "()V"⟩ : MethodName)) hown (mvT hZ (hw _ (List.mem_of_getElem? (i := 223) rfl))) (mvT hZ (hw _ (List.mem_of_getElem? (i := 224) rfl))) (own_selP (mvT hZ (hw _ (List.mem_of_getElem? (i := 1) rfl)) (args := #[])) (mvP hZ (hw _ (List.mem_of_getElem? (i := 225) rfl)) (args := #[])) (mvT hZ (hw _ (List.mem_of_getElem? (i := 224) rfl))) (by decide)) (Cond.privateMethod_at (mvP hZ (hw _ (List.mem_of_getElem? (i := 225) rfl)) (args := #[]))) (mvT hZ (hw _ (List.mem_of_getElem? (i := 226) rfl))) (by decide) (backOf (W := 0) (rm_lo l Z a0 hw [] a1 (sz + (2 : Int32)) h23 n0 (Nat.le_trans Z0 K24.1) f25 f26 hs6) hZ (hw _ (List.mem_of_getElem? (i := 226) rfl)) (hw _ (List.mem_of_getElem? (i := 2) rfl)) (by decide) (by decide)) (g := (mkF m 28 #[.val (.ref a1), .val (.int (0 : Int32)), .val (.ref pg), .val (.int p4), .unset, .unset, .unset, .unset, .unset, .unset] [(.ref a1)])) rfl (by rw [hml]; rfl) (Steps.refl _) (a := a1) (by rw [e23]; exact q27) q27' (argsL := []) (rest := []) (lenOf pd__40_41V rfl) rfl (by show 2 * 0 + _ ≤ _; exact Nat.le_of_eq rfl) (hb hby d21_28) (fun _ _ => ⟨rfl, e23, (by decide : 0 + 0 ≤ _), (by decide : 0 + 0 ≤ _)⟩)
  dsimp only [Pt.U, Pt.locs, Pt.cells, Pt.slots] at X27 l27 y27 z27 st27 hQ27
  subst l27 y27 z27
  obtain ⟨rfl, Nq27, e27⟩ := hQ27
  have N27 := Fr.app N23 Nq27
  have f29 : Fld Z h23 a1 "com/example/concordia/concordia/index/LinkedCode" "code" "[I" (.ref cd) := (p19_0.other W23 (Or.inl (by obtain ⟨_, A_, -⟩ := id f21; exact ne_arr (f8.keep Kc19) (hw _ (List.mem_of_getElem? (i := 1) rfl)) A_)))
  have f30 : Fld Z h23 a1 "com/example/concordia/concordia/index/LinkedCode" "liveInstructions" "I" (.int (li + (1 : Int32))) := (p19_2.other W23 (Or.inl (by obtain ⟨_, A_, -⟩ := id f21; exact ne_arr (f8.keep Kc19) (hw _ (List.mem_of_getElem? (i := 1) rfl)) A_)))
  have f31 : Fld Z h23 a1 "com/example/concordia/concordia/index/LinkedCode" "roots" "[I" (.ref rt) := (p19_3.other W23 (Or.inl (by obtain ⟨_, A_, -⟩ := id f21; exact ne_arr (f8.keep Kc19) (hw _ (List.mem_of_getElem? (i := 1) rfl)) A_)))
  have f32 : Fld Z h23 a1 "com/example/concordia/concordia/index/LinkedCode" "program" "Lcom/example/concordia/concordia/index/Program;" (.ref pg) := (p19_5.other W23 (Or.inl (by obtain ⟨_, A_, -⟩ := id f21; exact ne_arr (f8.keep Kc19) (hw _ (List.mem_of_getElem? (i := 1) rfl)) A_)))
  have f29 : Fld Z h23 a1 "com/example/concordia/concordia/index/LinkedCode" "code" "[I" (.ref cd) := (p19_0.other W23 (Or.inl (by obtain ⟨_, A_, -⟩ := id f21; exact ne_arr (f8.keep Kc19) (hw _ (List.mem_of_getElem? (i := 1) rfl)) A_)))
  have f30 : Fld Z h23 a1 "com/example/concordia/concordia/index/LinkedCode" "liveInstructions" "I" (.int (li + (1 : Int32))) := (p19_2.other W23 (Or.inl (by obtain ⟨_, A_, -⟩ := id f21; exact ne_arr (f8.keep Kc19) (hw _ (List.mem_of_getElem? (i := 1) rfl)) A_)))
  have f31 : Fld Z h23 a1 "com/example/concordia/concordia/index/LinkedCode" "roots" "[I" (.ref rt) := (p19_3.other W23 (Or.inl (by obtain ⟨_, A_, -⟩ := id f21; exact ne_arr (f8.keep Kc19) (hw _ (List.mem_of_getElem? (i := 1) rfl)) A_)))
  have f32 : Fld Z h23 a1 "com/example/concordia/concordia/index/LinkedCode" "program" "Lcom/example/concordia/concordia/index/Program;" (.ref pg) := (p19_5.other W23 (Or.inl (by obtain ⟨_, A_, -⟩ := id f21; exact ne_arr (f8.keep Kc19) (hw _ (List.mem_of_getElem? (i := 1) rfl)) A_)))
  obtain ⟨fs, hr, hrun, hended, hW, hsame⟩ := X27.leave (v := none) (fun _ => rfl)
  refine ⟨_, _, pre0 _ ?_, hrun, hended, _, _, rfl, ?_, ⟨_, rfl⟩, hW, hsame.mono (by decide) (by decide)⟩
  · show Steps p.tables e below (s₁.setTop (mkF m 0 #[.val (.ref a1), .val (.int (0 : Int32)), .val (.ref pg), .val (.int p4), .unset, .unset, .unset, .unset, .unset, .unset] [])) _
    refine XS.aloadN X0.here hx rfl (hb hby d21_0) rfl rfl ?_
    show Steps p.tables e below (s₁.setTop (mkF m 1 #[.val (.ref a1), .val (.int (0 : Int32)), .val (.ref pg), .val (.int p4), .unset, .unset, .unset, .unset, .unset, .unset] [(.ref a1)])) _
    refine XS.aloadN X0.here hx rfl (hb hby d21_1) rfl rfl ?_
    show Steps p.tables e below (s₁.setTop (mkF m 2 #[.val (.ref a1), .val (.int (0 : Int32)), .val (.ref pg), .val (.int p4), .unset, .unset, .unset, .unset, .unset, .unset] [(.ref pg), (.ref a1)])) _
    refine st1 _ ?_
    show Steps p.tables e below (T1.setTop (mkF m 5 #[.val (.ref a1), .val (.int (0 : Int32)), .val (.ref pg), .val (.int p4), .unset, .unset, .unset, .unset, .unset, .unset] [])) _
    refine XS.aloadN X1.here hx rfl (hb hby d21_5) rfl rfl ?_
    show Steps p.tables e below (T1.setTop (mkF m 6 #[.val (.ref a1), .val (.int (0 : Int32)), .val (.ref pg), .val (.int p4), .unset, .unset, .unset, .unset, .unset, .unset] [(.ref a1)])) _
    refine st4 _ ?_
    show Steps p.tables e below (T4.setTop (mkF m 9 #[.val (.ref a1), .val (.int (0 : Int32)), .val (.ref pg), .val (.int p4), .unset, .unset, .unset, .unset, .unset, .unset] [(.ref rt)])) _
    refine XS.iloadN X4.here hx rfl (hb hby d21_9) rfl ?_
    show Steps p.tables e below (T4.setTop (mkF m 10 #[.val (.ref a1), .val (.int (0 : Int32)), .val (.ref pg), .val (.int p4), .unset, .unset, .unset, .unset, .unset, .unset] [(.int (0 : Int32)), (.ref rt)])) _
    refine X4.iaload hx (j := (0 : Int32)) (v := (.int r0)) (by rw [e4]; exact Ar6.1) (State.isArrayOf_alike hZ.alike Ar6.2.1) Ar6.2.2 (inb_of Sz6 ⟨by decide, by decide⟩) (Has.at Hs6 (inb_of Sz6 ⟨by decide, by decide⟩) rfl) (g := (mkF m 10 #[.val (.ref a1), .val (.int (0 : Int32)), .val (.ref pg), .val (.int p4), .unset, .unset, .unset, .unset, .unset, .unset] [(.int (0 : Int32)), (.ref rt)])) rfl rfl (hb hby d21_10) _ ?_
    show Steps p.tables e below (T4.setTop (mkF m 11 #[.val (.ref a1), .val (.int (0 : Int32)), .val (.ref pg), .val (.int p4), .unset, .unset, .unset, .unset, .unset, .unset] [(.int r0)])) _
    refine XS.iconst X4.here hx rfl (hb hby d21_11) ?_
    show Steps p.tables e below (T4.setTop (mkF m 12 #[.val (.ref a1), .val (.int (0 : Int32)), .val (.ref pg), .val (.int p4), .unset, .unset, .unset, .unset, .unset, .unset] [(.int (-1 : Int32)), (.int r0)])) _
    refine XS.icmpNo X4.here hx rfl (hb hby d21_12) rfl (teq hrj).2 ?_
    show Steps p.tables e below (T4.setTop (mkF m 15 #[.val (.ref a1), .val (.int (0 : Int32)), .val (.ref pg), .val (.int p4), .unset, .unset, .unset, .unset, .unset, .unset] [])) _
    refine XS.aloadN X4.here hx rfl (hb hby d21_15) rfl rfl ?_
    show Steps p.tables e below (T4.setTop (mkF m 16 #[.val (.ref a1), .val (.int (0 : Int32)), .val (.ref pg), .val (.int p4), .unset, .unset, .unset, .unset, .unset, .unset] [(.ref a1)])) _
    refine st7 _ ?_
    show Steps p.tables e below (T7.setTop (mkF m 19 #[.val (.ref a1), .val (.int (0 : Int32)), .val (.ref pg), .val (.int p4), .unset, .unset, .unset, .unset, .unset, .unset] [(.ref rt)])) _
    refine XS.iloadN X7.here hx rfl (hb hby d21_19) rfl ?_
    show Steps p.tables e below (T7.setTop (mkF m 20 #[.val (.ref a1), .val (.int (0 : Int32)), .val (.ref pg), .val (.int p4), .unset, .unset, .unset, .unset, .unset, .unset] [(.int (0 : Int32)), (.ref rt)])) _
    refine XS.aloadN X7.here hx rfl (hb hby d21_20) rfl rfl ?_
    show Steps p.tables e below (T7.setTop (mkF m 21 #[.val (.ref a1), .val (.int (0 : Int32)), .val (.ref pg), .val (.int p4), .unset, .unset, .unset, .unset, .unset, .unset] [(.ref a1), (.int (0 : Int32)), (.ref rt)])) _
    refine XS.iconst X7.here hx rfl (hb hby d21_21) ?_
    show Steps p.tables e below (T7.setTop (mkF m 22 #[.val (.ref a1), .val (.int (0 : Int32)), .val (.ref pg), .val (.int p4), .unset, .unset, .unset, .unset, .unset, .unset] [(.int (0 : Int32)), (.ref a1), (.int (0 : Int32)), (.ref rt)])) _
    refine XS.iloadN X7.here hx rfl (hb hby d21_22) rfl ?_
    show Steps p.tables e below (T7.setTop (mkF m 23 #[.val (.ref a1), .val (.int (0 : Int32)), .val (.ref pg), .val (.int p4), .unset, .unset, .unset, .unset, .unset, .unset] [(.int p4), (.int (0 : Int32)), (.ref a1), (.int (0 : Int32)), (.ref rt)])) _
    refine st19.trans ?_
    show Steps p.tables e below (T19.setTop (mkF m 26 #[.val (.ref a1), .val (.int (0 : Int32)), .val (.ref pg), .val (.int p4), .unset, .unset, .unset, .unset, .unset, .unset] [(.int sz), (.int (0 : Int32)), (.ref rt)])) _
    refine st23 _ ?_
    show Steps p.tables e below (T23.setTop (mkF m 27 #[.val (.ref a1), .val (.int (0 : Int32)), .val (.ref pg), .val (.int p4), .unset, .unset, .unset, .unset, .unset, .unset] [])) _
    refine XS.aloadN X23.here hx rfl (hb hby d21_27) rfl rfl ?_
    show Steps p.tables e below (T23.setTop (mkF m 28 #[.val (.ref a1), .val (.int (0 : Int32)), .val (.ref pg), .val (.int p4), .unset, .unset, .unset, .unset, .unset, .unset] [(.ref a1)])) _
    refine st27.trans ?_
    show Steps p.tables e below (T27.setTop (mkF m 31 #[.val (.ref a1), .val (.int (0 : Int32)), .val (.ref pg), .val (.int p4), .unset, .unset, .unset, .unset, .unset, .unset] [])) _
    exact X27.returnOut hx Bd.returns (hb hby d21_31) hr
  · show Q_rm_ad0 Z a1 pg p4 cd sz li rt il kr v1 r0 r1 r2 r3 h0 n0 _ T27.heap _
    rw [e27]
    exact ⟨rfl, N27, K24, f29, f25, f30, f31, f26, f32, f23⟩
theorem ef_rm_ad1 (m : MethodId) (x0 : Addr) (x1 : Int32) (x2 : Addr) (x3 : Int32) : entryFrame m #[(.ref x0), (.int x1), (.ref x2), (.int x3)] 10 = mkF m 0 #[.val (.ref x0), .val (.int x1), .val (.ref x2), .val (.int x3), .unset, .unset, .unset, .unset, .unset, .unset] [] := by first | (simp [entryFrame, mkF, argsToLocals, Value.category]; done) | rfl
def Q_rm_ad1 (Z : State) (a1 : Addr) (pg : Addr) (p4 : Int32) (cd : Addr) (sz : Int32) (li : Int32) (rt : Addr) (il : Addr) (kr : ClassId) (v1 : Value) (r0 : Int32) (r1 : Int32) (r2 : Int32) (r3 : Int32) (h0 : Heap) (n0 : Nat) (v : Option Value) (h : Heap) (L : List Loc) : Prop := v = none ∧ Fr n0 L ∧ Keep h0 h [a1, cd, rt] ∧ (Fld Z h a1 "com/example/concordia/concordia/index/LinkedCode" "code" "[I" (.ref cd)) ∧ (Fld Z h a1 "com/example/concordia/concordia/index/LinkedCode" "codeSize" "I" (.int (sz + (2 : Int32)))) ∧ (Fld Z h a1 "com/example/concordia/concordia/index/LinkedCode" "liveInstructions" "I" (.int (li + (1 : Int32)))) ∧ (Fld Z h a1 "com/example/concordia/concordia/index/LinkedCode" "roots" "[I" (.ref rt)) ∧ (Fld Z h a1 "com/example/concordia/concordia/index/LinkedCode" "layOutAt" "I" (.int (1024 : Int32))) ∧ (Fld Z h a1 "com/example/concordia/concordia/index/LinkedCode" "program" "Lcom/example/concordia/concordia/index/Program;" (.ref pg)) ∧ (Arv Z h rt kr .int (4 : Int32) [(.int r0), (.int sz), (.int r2), (.int r3)] (.int (0 : Int32)))
set_option maxRecDepth 65536 in
set_option maxHeartbeats 40000000 in
theorem rm_ad1 (l : Launch) (Z : State) (a0 : Array Value) (hw : ∀ d ∈ tables_1, d.before a0 Z = true) (ws : List Jvm.Cond) (a1 : Addr) (pg : Addr) (p4 : Int32) (cd : Addr) (sz : Int32) (li : Int32) (rt : Addr) (il : Addr) (kr : ClassId) (v1 : Value) (r0 : Int32) (r1 : Int32) (r2 : Int32) (r3 : Int32) (h0 : Heap) (n0 : Nat) (Z0 : n0 ≤ h0.size) (pr0 : Exa Z h0 a1 "com/example/concordia/concordia/index/LinkedCode") (pr1 : n0 ≤ a1) (pr2 : n0 ≤ cd) (pr3 : Fld Z h0 a1 "com/example/concordia/concordia/index/LinkedCode" "code" "[I" (.ref cd)) (pr4 : own_Ars Z h0 cd .int (64 : Int32)) (pr5 : Fld Z h0 a1 "com/example/concordia/concordia/index/LinkedCode" "codeSize" "I" (.int sz)) (pr6 : Fld Z h0 a1 "com/example/concordia/concordia/index/LinkedCode" "liveInstructions" "I" (.int li)) (pr7 : Fld Z h0 a1 "com/example/concordia/concordia/index/LinkedCode" "roots" "[I" (.ref rt)) (pr8 : Fld Z h0 a1 "com/example/concordia/concordia/index/LinkedCode" "layOutAt" "I" (.int (1024 : Int32))) (pr9 : Fld Z h0 a1 "com/example/concordia/concordia/index/LinkedCode" "program" "Lcom/example/concordia/concordia/index/Program;" v1) (pr10 : Arv Z h0 rt kr .int (4 : Int32) [(.int r0), (.int r1), (.int r2), (.int r3)] (.int (0 : Int32))) (pr11 : n0 ≤ rt) (pr12 : cd ≠ rt) (pr13 : Exa Z h0 pg "com/example/concordia/concordia/index/Program") (pr14 : Fld Z h0 pg "com/example/concordia/concordia/index/Program" "lastLiteralFrom" "I" (.int (0 : Int32))) (pr15 : Fld Z h0 pg "com/example/concordia/concordia/index/Program" "instructions" "Lcom/example/concordia/concordia/expr/IntList;" (.ref il)) (pr16 : Exa Z h0 il "com/example/concordia/concordia/expr/IntList") (pr17 : Fld Z h0 il "com/example/concordia/concordia/expr/IntList" "size" "I" (.int (0 : Int32))) (hs1 : ¬ (sz < (0 : Int32))) (hs2 : sz < (64 : Int32)) (hs3 : ¬ ((sz + (1 : Int32)) < (0 : Int32))) (hs4 : (sz + (1 : Int32)) < (64 : Int32)) (hs5 : ¬ ((64 : Int32) < (sz + (2 : Int32)))) (hs6 : ¬ ((1024 : Int32) < (sz + (2 : Int32)))) (hrj : r1 = (-1 : Int32)) :
    MetFree l (⟨"com/example/concordia/concordia/index/LinkedCode", "add", "(ILcom/example/concordia/concordia/index/Program;I)V"⟩ : MethodName) (head1 (Jvm.Cond.code (⟨"com/example/concordia/concordia/index/LinkedCode", "add", "(ILcom/example/concordia/concordia/index/Program;I)V"⟩ : MethodName) prog_43_method_10_code 10 none :: ws) ({ frames := 3, cells := 0, slots := 0, locals := 44 } : Room)) (fun a U => a = #[(.ref a1), (.int (1 : Int32)), (.ref pg), (.int p4)] ∧ Z.Warmed39 U.vm ∧ U.heap = h0) (fun _ _ _ _ _ => True) (fun _ U o U' => ∃ v L, o = .returned v ∧ Q_rm_ad1 Z a1 pg p4 cd sz li rt il kr v1 r0 r1 r2 r3 h0 n0 v U'.heap L ∧ FrameEnd U o U' L ({ frames := 3, cells := 0, slots := 0, locals := 44 } : Room).cells ({ frames := 3, cells := 0, slots := 0, locals := 44 } : Room).slots) := by
  refine MetFree.of_bodySF (plainFor_of_name pn_com_example_concordia_concordia_index_LinkedCode) hisR ?_
  intro p e s m args below meth c s₁ Bd hml0 hP hK
  obtain ⟨rfl, hZ, hh⟩ := hP
  have hx := Bd.exec
  have hby := Bd.bytes
  have hml : c.maxLocals = 10 := hml0
  have hown : s.vm.findClass "com/example/concordia/concordia/index/LinkedCode" = some m.cls := findClass_of_methodNamed Bd.named
  have hnm := (name_of_methodNamed Bd.named Bd.method).1
  have X0 : Stand p l e ({ frames := 3, cells := 0, slots := 0, locals := 44 } : Room) s m #[(.ref a1), (.int (1 : Int32)), (.ref pg), (.int p4)] below meth c s₁ [] 0 0 := Stand.of_body Bd
  have e0 : s₁.heap = h0 := by rw [← hh, Bd.state]; rfl
  have N0 := Fr.nil n0
  have pre0 : ∀ t, Steps p.tables e below (s₁.setTop (mkF m 0 #[.val (.ref a1), .val (.int (1 : Int32)), .val (.ref pg), .val (.int p4), .unset, .unset, .unset, .unset, .unset, .unset] [])) t → Steps p.tables e below (s₁.setTop (entryFrame m #[(.ref a1), (.int (1 : Int32)), (.ref pg), (.int p4)] 10)) t := fun t k => castTop (ef_rm_ad1 m a1 (1 : Int32) pg p4) k
  obtain ⟨T1, h1, X1, e1, W1, st1⟩ := putF X0 hx hZ hown (host := "") (Or.inl (hw _ (List.mem_of_getElem? (i := 182) rfl))) Via.refl e0 pr9 pr0 (Or.inl (hw _ (List.mem_of_getElem? (i := 183) rfl))) (hw _ (List.mem_of_getElem? (i := 1) rfl)) (ty := (.object "com/example/concordia/concordia/index/Program")) (by decide) rfl rfl (g := (mkF m 2 #[.val (.ref a1), .val (.int (1 : Int32)), .val (.ref pg), .val (.int p4), .unset, .unset, .unset, .unset, .unset, .unset] [(.ref pg), (.ref a1)])) rfl rfl (hb hby d21_2)
  have N1 := Fr.snoc X1 N0 pr1
  have f1 : Fld Z h1 a1 "com/example/concordia/concordia/index/LinkedCode" "program" "Lcom/example/concordia/concordia/index/Program;" (.ref pg) := pr9.same W1
  have K2 : Keep h0 h1 [a1, cd, rt] := (Keep.refl h0 [a1, cd, rt]).wr W1 (Or.inl (List.mem_of_getElem? (i := 0) rfl))
  have f3 : Fld Z h1 a1 "com/example/concordia/concordia/index/LinkedCode" "roots" "[I" (.ref rt) := (pr7.other W1 (Or.inr (slot_ne (Or.inr (hw _ (List.mem_of_getElem? (i := 119) rfl))) (Or.inl (hw _ (List.mem_of_getElem? (i := 183) rfl))) (by decide) (t := (.array .int)) (t' := (.object "com/example/concordia/concordia/index/Program")) (by decide) (by decide))))
  obtain ⟨T4, X4, e4, st4⟩ := getF X1 hx hZ hown (host := "") (Or.inl (hw _ (List.mem_of_getElem? (i := 118) rfl))) Via.refl e1 f3 (g := (mkF m 6 #[.val (.ref a1), .val (.int (1 : Int32)), .val (.ref pg), .val (.int p4), .unset, .unset, .unset, .unset, .unset, .unset] [(.ref a1)])) rfl rfl (hb hby d21_6)
  have f5 : Arv Z h1 rt kr .int (4 : Int32) [(.int r0), (.int r1), (.int r2), (.int r3)] (.int (0 : Int32)) := (pr10.other W1 (Ne.symm (by obtain ⟨_, A_, -⟩ := id pr10; exact ne_arr pr0 (hw _ (List.mem_of_getElem? (i := 1) rfl)) A_)))
  obtain ⟨cl6, Ar6, q6, Sz6, Ng6, Hs6, Ft6⟩ := id f5
  obtain ⟨T7, X7, e7, st7⟩ := getF X4 hx hZ hown (host := "") (Or.inl (hw _ (List.mem_of_getElem? (i := 118) rfl))) Via.refl e4 f3 (g := (mkF m 16 #[.val (.ref a1), .val (.int (1 : Int32)), .val (.ref pg), .val (.int p4), .unset, .unset, .unset, .unset, .unset, .unset] [(.ref a1)])) rfl rfl (hb hby d21_16)
  have f8 : Exa Z h1 a1 "com/example/concordia/concordia/index/LinkedCode" := (pr0.wr W1)
  have f9 : Fld Z h1 a1 "com/example/concordia/concordia/index/LinkedCode" "code" "[I" (.ref cd) := (pr3.other W1 (Or.inr (slot_ne (Or.inl (hw _ (List.mem_of_getElem? (i := 117) rfl))) (Or.inl (hw _ (List.mem_of_getElem? (i := 183) rfl))) (by decide) (t := (.array .int)) (t' := (.object "com/example/concordia/concordia/index/Program")) (by decide) (by decide))))
  have f10 : own_Ars Z h1 cd .int (64 : Int32) := (pr4.wr W1)
  have f11 : Fld Z h1 a1 "com/example/concordia/concordia/index/LinkedCode" "codeSize" "I" (.int sz) := (pr5.other W1 (Or.inr (slot_ne (Or.inl (hw _ (List.mem_of_getElem? (i := 189) rfl))) (Or.inl (hw _ (List.mem_of_getElem? (i := 183) rfl))) (by decide) (t := .int) (t' := (.object "com/example/concordia/concordia/index/Program")) (by decide) (by decide))))
  have f12 : Fld Z h1 a1 "com/example/concordia/concordia/index/LinkedCode" "liveInstructions" "I" (.int li) := (pr6.other W1 (Or.inr (slot_ne (Or.inl (hw _ (List.mem_of_getElem? (i := 222) rfl))) (Or.inl (hw _ (List.mem_of_getElem? (i := 183) rfl))) (by decide) (t := .int) (t' := (.object "com/example/concordia/concordia/index/Program")) (by decide) (by decide))))
  have f13 : Fld Z h1 a1 "com/example/concordia/concordia/index/LinkedCode" "layOutAt" "I" (.int (1024 : Int32)) := (pr8.other W1 (Or.inr (slot_ne (Or.inl (hw _ (List.mem_of_getElem? (i := 121) rfl))) (Or.inl (hw _ (List.mem_of_getElem? (i := 183) rfl))) (by decide) (t := .int) (t' := (.object "com/example/concordia/concordia/index/Program")) (by decide) (by decide))))
  have f14 : Exa Z h1 pg "com/example/concordia/concordia/index/Program" := (pr13.wr W1)
  have f15 : Fld Z h1 pg "com/example/concordia/concordia/index/Program" "lastLiteralFrom" "I" (.int (0 : Int32)) := (pr14.other W1 (Or.inl (ne_exa pr13 pr0 (by decide))))
  have f16 : Fld Z h1 pg "com/example/concordia/concordia/index/Program" "instructions" "Lcom/example/concordia/concordia/expr/IntList;" (.ref il) := (pr15.other W1 (Or.inl (ne_exa pr13 pr0 (by decide))))
  have f17 : Exa Z h1 il "com/example/concordia/concordia/expr/IntList" := (pr16.wr W1)
  have f18 : Fld Z h1 il "com/example/concordia/concordia/expr/IntList" "size" "I" (.int (0 : Int32)) := (pr17.other W1 (Or.inl (ne_exa pr16 pr0 (by decide))))
  obtain ⟨cq19, q19, q19'⟩ := (Ins.self f8).cell
  obtain ⟨_, _, ⟨T19, L19, k19, n19⟩, -, X19, ⟨Lc19, hQ19, l19, y19, z19⟩, st19⟩ := X7.privateBack hx (y := (⟨"com/example/concordia/concordia/index/LinkedCode", "append", "(II)I"⟩ : MethodName)) hown (mvT hZ (hw _ (List.mem_of_getElem? (i := 184) rfl))) (mvT hZ (hw _ (List.mem_of_getElem? (i := 185) rfl))) (own_selP (mvT hZ (hw _ (List.mem_of_getElem? (i := 1) rfl)) (args := #[])) (mvP hZ (hw _ (List.mem_of_getElem? (i := 186) rfl)) (args := #[])) (mvT hZ (hw _ (List.mem_of_getElem? (i := 185) rfl))) (by decide)) (Cond.privateMethod_at (mvP hZ (hw _ (List.mem_of_getElem? (i := 186) rfl)) (args := #[]))) (mvT hZ (hw _ (List.mem_of_getElem? (i := 187) rfl))) (by decide) (backOf (W := 2) (rm_ap l Z a0 hw [] a1 p4 cd sz li rt pg il h1 n0 (Nat.le_trans Z0 K2.1) f8 pr1 pr2 f9 f10 f11 f12 f3 f13 f1 f14 f15 f16 f17 f18 hs1 hs2 hs3 hs4 hs5) hZ (hw _ (List.mem_of_getElem? (i := 187) rfl)) (hw _ (List.mem_of_getElem? (i := 2) rfl)) (by decide) (by decide)) (g := (mkF m 23 #[.val (.ref a1), .val (.int (1 : Int32)), .val (.ref pg), .val (.int p4), .unset, .unset, .unset, .unset, .unset, .unset] [(.int p4), (.int (0 : Int32)), (.ref a1), (.int (1 : Int32)), (.ref rt)])) rfl (by rw [hml]; rfl) (Steps.refl _) (a := a1) (by rw [e7]; exact q19) q19' (argsL := [(.int (0 : Int32)), (.int p4)]) (rest := [(.int (1 : Int32)), (.ref rt)]) (lenOf pd__40II_41I rfl) rfl (by show 2 * 0 + _ ≤ _; exact Nat.le_of_eq rfl) (hb hby d21_23) (fun _ _ => ⟨rfl, e7, (by decide : 0 + 0 ≤ _), (by decide : 0 + 0 ≤ _)⟩)
  dsimp only [Pt.U, Pt.locs, Pt.cells, Pt.slots] at X19 l19 y19 z19 st19 hQ19
  subst l19 y19 z19
  obtain ⟨rfl, Nq19, Kc19, p19_0, p19_1, p19_2, p19_3, p19_4, p19_5⟩ := hQ19
  have K20 : Keep h0 T19.heap [a1, cd, rt] := K2.trans Kc19 (allS (Or.inl (List.mem_of_getElem? (i := 0) rfl)) (allS (Or.inl (List.mem_of_getElem? (i := 1) rfl)) all0))
  have N19 := Fr.app N1 Nq19
  have f21 : Arv Z T19.heap rt kr .int (4 : Int32) [(.int r0), (.int r1), (.int r2), (.int r3)] (.int (0 : Int32)) := (f5.keep Kc19 (ninS (Ne.symm (by obtain ⟨_, A_, -⟩ := id f5; exact ne_arr f8 (hw _ (List.mem_of_getElem? (i := 1) rfl)) A_)) (ninS (Ne.symm pr12) nin0)))
  obtain ⟨cl22, Ar22, q22, Sz22, Ng22, Hs22, Ft22⟩ := id f21
  obtain ⟨T23, h23, X23, e23, W23, st23⟩ := stI X19 hx hZ rfl Ar22 (j := (1 : Int32)) (inb_of Sz22 ⟨by decide, by decide⟩) (g := (mkF m 26 #[.val (.ref a1), .val (.int (1 : Int32)), .val (.ref pg), .val (.int p4), .unset, .unset, .unset, .unset, .unset, .unset] [(.int sz), (.int (1 : Int32)), (.ref rt)])) rfl rfl (hb hby d21_26)
  have N23 := Fr.snoc X23 N19 pr11
  have f23 : Arv Z h23 rt kr .int (4 : Int32) [(.int r0), (.int sz), (.int r2), (.int r3)] (.int (0 : Int32)) := Arv.set Ar22 q22 Sz22 Ng22 Hs22 Ft22 rfl W23 1 rfl (Nat.le_of_ble_eq_true rfl)
  have K24 : Keep h0 h23 [a1, cd, rt] := K20.wr W23 (Or.inl (List.mem_of_getElem? (i := 2) rfl))
  have f25 : Fld Z h23 a1 "com/example/concordia/concordia/index/LinkedCode" "codeSize" "I" (.int (sz + (2 : Int32))) := (p19_1.other W23 (Or.inl (by obtain ⟨_, A_, -⟩ := id f21; exact ne_arr (f8.keep Kc19) (hw _ (List.mem_of_getElem? (i := 1) rfl)) A_)))
  have f26 : Fld Z h23 a1 "com/example/concordia/concordia/index/LinkedCode" "layOutAt" "I" (.int (1024 : Int32)) := (p19_4.other W23 (Or.inl (by obtain ⟨_, A_, -⟩ := id f21; exact ne_arr (f8.keep Kc19) (hw _ (List.mem_of_getElem? (i := 1) rfl)) A_)))
  have f28 : Exa Z h23 a1 "com/example/concordia/concordia/index/LinkedCode" := ((f8.keep Kc19).wr W23)
  obtain ⟨cq27, q27, q27'⟩ := (Ins.self f28).cell
  obtain ⟨_, _, ⟨T27, L27, k27, n27⟩, -, X27, ⟨Lc27, hQ27, l27, y27, z27⟩, st27⟩ := X23.privateBack hx (y := (⟨"com/example/concordia/concordia/index/LinkedCode", "layOutOnceGrown", "()V"⟩ : MethodName)) hown (mvT hZ (hw _ (List.mem_of_getElem? (i := 223) rfl))) (mvT hZ (hw _ (List.mem_of_getElem? (i := 224) rfl))) (own_selP (mvT hZ (hw _ (List.mem_of_getElem? (i := 1) rfl)) (args := #[])) (mvP hZ (hw _ (List.mem_of_getElem? (i := 225) rfl)) (args := #[])) (mvT hZ (hw _ (List.mem_of_getElem? (i := 224) rfl))) (by decide)) (Cond.privateMethod_at (mvP hZ (hw _ (List.mem_of_getElem? (i := 225) rfl)) (args := #[]))) (mvT hZ (hw _ (List.mem_of_getElem? (i := 226) rfl))) (by decide) (backOf (W := 0) (rm_lo l Z a0 hw [] a1 (sz + (2 : Int32)) h23 n0 (Nat.le_trans Z0 K24.1) f25 f26 hs6) hZ (hw _ (List.mem_of_getElem? (i := 226) rfl)) (hw _ (List.mem_of_getElem? (i := 2) rfl)) (by decide) (by decide)) (g := (mkF m 28 #[.val (.ref a1), .val (.int (1 : Int32)), .val (.ref pg), .val (.int p4), .unset, .unset, .unset, .unset, .unset, .unset] [(.ref a1)])) rfl (by rw [hml]; rfl) (Steps.refl _) (a := a1) (by rw [e23]; exact q27) q27' (argsL := []) (rest := []) (lenOf pd__40_41V rfl) rfl (by show 2 * 0 + _ ≤ _; exact Nat.le_of_eq rfl) (hb hby d21_28) (fun _ _ => ⟨rfl, e23, (by decide : 0 + 0 ≤ _), (by decide : 0 + 0 ≤ _)⟩)
  dsimp only [Pt.U, Pt.locs, Pt.cells, Pt.slots] at X27 l27 y27 z27 st27 hQ27
  subst l27 y27 z27
  obtain ⟨rfl, Nq27, e27⟩ := hQ27
  have N27 := Fr.app N23 Nq27
  have f29 : Fld Z h23 a1 "com/example/concordia/concordia/index/LinkedCode" "code" "[I" (.ref cd) := (p19_0.other W23 (Or.inl (by obtain ⟨_, A_, -⟩ := id f21; exact ne_arr (f8.keep Kc19) (hw _ (List.mem_of_getElem? (i := 1) rfl)) A_)))
  have f30 : Fld Z h23 a1 "com/example/concordia/concordia/index/LinkedCode" "liveInstructions" "I" (.int (li + (1 : Int32))) := (p19_2.other W23 (Or.inl (by obtain ⟨_, A_, -⟩ := id f21; exact ne_arr (f8.keep Kc19) (hw _ (List.mem_of_getElem? (i := 1) rfl)) A_)))
  have f31 : Fld Z h23 a1 "com/example/concordia/concordia/index/LinkedCode" "roots" "[I" (.ref rt) := (p19_3.other W23 (Or.inl (by obtain ⟨_, A_, -⟩ := id f21; exact ne_arr (f8.keep Kc19) (hw _ (List.mem_of_getElem? (i := 1) rfl)) A_)))
  have f32 : Fld Z h23 a1 "com/example/concordia/concordia/index/LinkedCode" "program" "Lcom/example/concordia/concordia/index/Program;" (.ref pg) := (p19_5.other W23 (Or.inl (by obtain ⟨_, A_, -⟩ := id f21; exact ne_arr (f8.keep Kc19) (hw _ (List.mem_of_getElem? (i := 1) rfl)) A_)))
  have f29 : Fld Z h23 a1 "com/example/concordia/concordia/index/LinkedCode" "code" "[I" (.ref cd) := (p19_0.other W23 (Or.inl (by obtain ⟨_, A_, -⟩ := id f21; exact ne_arr (f8.keep Kc19) (hw _ (List.mem_of_getElem? (i := 1) rfl)) A_)))
  have f30 : Fld Z h23 a1 "com/example/concordia/concordia/index/LinkedCode" "liveInstructions" "I" (.int (li + (1 : Int32))) := (p19_2.other W23 (Or.inl (by obtain ⟨_, A_, -⟩ := id f21; exact ne_arr (f8.keep Kc19) (hw _ (List.mem_of_getElem? (i := 1) rfl)) A_)))
  have f31 : Fld Z h23 a1 "com/example/concordia/concordia/index/LinkedCode" "roots" "[I" (.ref rt) := (p19_3.other W23 (Or.inl (by obtain ⟨_, A_, -⟩ := id f21; exact ne_arr (f8.keep Kc19) (hw _ (List.mem_of_getElem? (i := 1) rfl)) A_)))
  have f32 : Fld Z h23 a1 "com/example/concordia/concordia/index/LinkedCode" "program" "Lcom/example/concordia/concordia/index/Program;" (.ref pg) := (p19_5.other W23 (Or.inl (by obtain ⟨_, A_, -⟩ := id f21; exact ne_arr (f8.keep Kc19) (hw _ (List.mem_of_getElem? (i := 1) rfl)) A_)))
  obtain ⟨fs, hr, hrun, hended, hW, hsame⟩ := X27.leave (v := none) (fun _ => rfl)
  refine ⟨_, _, pre0 _ ?_, hrun, hended, _, _, rfl, ?_, ⟨_, rfl⟩, hW, hsame.mono (by decide) (by decide)⟩
  · show Steps p.tables e below (s₁.setTop (mkF m 0 #[.val (.ref a1), .val (.int (1 : Int32)), .val (.ref pg), .val (.int p4), .unset, .unset, .unset, .unset, .unset, .unset] [])) _
    refine XS.aloadN X0.here hx rfl (hb hby d21_0) rfl rfl ?_
    show Steps p.tables e below (s₁.setTop (mkF m 1 #[.val (.ref a1), .val (.int (1 : Int32)), .val (.ref pg), .val (.int p4), .unset, .unset, .unset, .unset, .unset, .unset] [(.ref a1)])) _
    refine XS.aloadN X0.here hx rfl (hb hby d21_1) rfl rfl ?_
    show Steps p.tables e below (s₁.setTop (mkF m 2 #[.val (.ref a1), .val (.int (1 : Int32)), .val (.ref pg), .val (.int p4), .unset, .unset, .unset, .unset, .unset, .unset] [(.ref pg), (.ref a1)])) _
    refine st1 _ ?_
    show Steps p.tables e below (T1.setTop (mkF m 5 #[.val (.ref a1), .val (.int (1 : Int32)), .val (.ref pg), .val (.int p4), .unset, .unset, .unset, .unset, .unset, .unset] [])) _
    refine XS.aloadN X1.here hx rfl (hb hby d21_5) rfl rfl ?_
    show Steps p.tables e below (T1.setTop (mkF m 6 #[.val (.ref a1), .val (.int (1 : Int32)), .val (.ref pg), .val (.int p4), .unset, .unset, .unset, .unset, .unset, .unset] [(.ref a1)])) _
    refine st4 _ ?_
    show Steps p.tables e below (T4.setTop (mkF m 9 #[.val (.ref a1), .val (.int (1 : Int32)), .val (.ref pg), .val (.int p4), .unset, .unset, .unset, .unset, .unset, .unset] [(.ref rt)])) _
    refine XS.iloadN X4.here hx rfl (hb hby d21_9) rfl ?_
    show Steps p.tables e below (T4.setTop (mkF m 10 #[.val (.ref a1), .val (.int (1 : Int32)), .val (.ref pg), .val (.int p4), .unset, .unset, .unset, .unset, .unset, .unset] [(.int (1 : Int32)), (.ref rt)])) _
    refine X4.iaload hx (j := (1 : Int32)) (v := (.int r1)) (by rw [e4]; exact Ar6.1) (State.isArrayOf_alike hZ.alike Ar6.2.1) Ar6.2.2 (inb_of Sz6 ⟨by decide, by decide⟩) (Has.at Hs6 (inb_of Sz6 ⟨by decide, by decide⟩) rfl) (g := (mkF m 10 #[.val (.ref a1), .val (.int (1 : Int32)), .val (.ref pg), .val (.int p4), .unset, .unset, .unset, .unset, .unset, .unset] [(.int (1 : Int32)), (.ref rt)])) rfl rfl (hb hby d21_10) _ ?_
    show Steps p.tables e below (T4.setTop (mkF m 11 #[.val (.ref a1), .val (.int (1 : Int32)), .val (.ref pg), .val (.int p4), .unset, .unset, .unset, .unset, .unset, .unset] [(.int r1)])) _
    refine XS.iconst X4.here hx rfl (hb hby d21_11) ?_
    show Steps p.tables e below (T4.setTop (mkF m 12 #[.val (.ref a1), .val (.int (1 : Int32)), .val (.ref pg), .val (.int p4), .unset, .unset, .unset, .unset, .unset, .unset] [(.int (-1 : Int32)), (.int r1)])) _
    refine XS.icmpNo X4.here hx rfl (hb hby d21_12) rfl (teq hrj).2 ?_
    show Steps p.tables e below (T4.setTop (mkF m 15 #[.val (.ref a1), .val (.int (1 : Int32)), .val (.ref pg), .val (.int p4), .unset, .unset, .unset, .unset, .unset, .unset] [])) _
    refine XS.aloadN X4.here hx rfl (hb hby d21_15) rfl rfl ?_
    show Steps p.tables e below (T4.setTop (mkF m 16 #[.val (.ref a1), .val (.int (1 : Int32)), .val (.ref pg), .val (.int p4), .unset, .unset, .unset, .unset, .unset, .unset] [(.ref a1)])) _
    refine st7 _ ?_
    show Steps p.tables e below (T7.setTop (mkF m 19 #[.val (.ref a1), .val (.int (1 : Int32)), .val (.ref pg), .val (.int p4), .unset, .unset, .unset, .unset, .unset, .unset] [(.ref rt)])) _
    refine XS.iloadN X7.here hx rfl (hb hby d21_19) rfl ?_
    show Steps p.tables e below (T7.setTop (mkF m 20 #[.val (.ref a1), .val (.int (1 : Int32)), .val (.ref pg), .val (.int p4), .unset, .unset, .unset, .unset, .unset, .unset] [(.int (1 : Int32)), (.ref rt)])) _
    refine XS.aloadN X7.here hx rfl (hb hby d21_20) rfl rfl ?_
    show Steps p.tables e below (T7.setTop (mkF m 21 #[.val (.ref a1), .val (.int (1 : Int32)), .val (.ref pg), .val (.int p4), .unset, .unset, .unset, .unset, .unset, .unset] [(.ref a1), (.int (1 : Int32)), (.ref rt)])) _
    refine XS.iconst X7.here hx rfl (hb hby d21_21) ?_
    show Steps p.tables e below (T7.setTop (mkF m 22 #[.val (.ref a1), .val (.int (1 : Int32)), .val (.ref pg), .val (.int p4), .unset, .unset, .unset, .unset, .unset, .unset] [(.int (0 : Int32)), (.ref a1), (.int (1 : Int32)), (.ref rt)])) _
    refine XS.iloadN X7.here hx rfl (hb hby d21_22) rfl ?_
    show Steps p.tables e below (T7.setTop (mkF m 23 #[.val (.ref a1), .val (.int (1 : Int32)), .val (.ref pg), .val (.int p4), .unset, .unset, .unset, .unset, .unset, .unset] [(.int p4), (.int (0 : Int32)), (.ref a1), (.int (1 : Int32)), (.ref rt)])) _
    refine st19.trans ?_
    show Steps p.tables e below (T19.setTop (mkF m 26 #[.val (.ref a1), .val (.int (1 : Int32)), .val (.ref pg), .val (.int p4), .unset, .unset, .unset, .unset, .unset, .unset] [(.int sz), (.int (1 : Int32)), (.ref rt)])) _
    refine st23 _ ?_
    show Steps p.tables e below (T23.setTop (mkF m 27 #[.val (.ref a1), .val (.int (1 : Int32)), .val (.ref pg), .val (.int p4), .unset, .unset, .unset, .unset, .unset, .unset] [])) _
    refine XS.aloadN X23.here hx rfl (hb hby d21_27) rfl rfl ?_
    show Steps p.tables e below (T23.setTop (mkF m 28 #[.val (.ref a1), .val (.int (1 : Int32)), .val (.ref pg), .val (.int p4), .unset, .unset, .unset, .unset, .unset, .unset] [(.ref a1)])) _
    refine st27.trans ?_
    show Steps p.tables e below (T27.setTop (mkF m 31 #[.val (.ref a1), .val (.int (1 : Int32)), .val (.ref pg), .val (.int p4), .unset, .unset, .unset, .unset, .unset, .unset] [])) _
    exact X27.returnOut hx Bd.returns (hb hby d21_31) hr
  · show Q_rm_ad1 Z a1 pg p4 cd sz li rt il kr v1 r0 r1 r2 r3 h0 n0 _ T27.heap _
    rw [e27]
    exact ⟨rfl, N27, K24, f29, f25, f30, f31, f26, f32, f23⟩
theorem ef_rm_ad2 (m : MethodId) (x0 : Addr) (x1 : Int32) (x2 : Addr) (x3 : Int32) : entryFrame m #[(.ref x0), (.int x1), (.ref x2), (.int x3)] 10 = mkF m 0 #[.val (.ref x0), .val (.int x1), .val (.ref x2), .val (.int x3), .unset, .unset, .unset, .unset, .unset, .unset] [] := by first | (simp [entryFrame, mkF, argsToLocals, Value.category]; done) | rfl
def Q_rm_ad2 (Z : State) (a1 : Addr) (pg : Addr) (p4 : Int32) (cd : Addr) (sz : Int32) (li : Int32) (rt : Addr) (il : Addr) (kr : ClassId) (v1 : Value) (r0 : Int32) (r1 : Int32) (r2 : Int32) (r3 : Int32) (h0 : Heap) (n0 : Nat) (v : Option Value) (h : Heap) (L : List Loc) : Prop := v = none ∧ Fr n0 L ∧ Keep h0 h [a1, cd, rt] ∧ (Fld Z h a1 "com/example/concordia/concordia/index/LinkedCode" "code" "[I" (.ref cd)) ∧ (Fld Z h a1 "com/example/concordia/concordia/index/LinkedCode" "codeSize" "I" (.int (sz + (2 : Int32)))) ∧ (Fld Z h a1 "com/example/concordia/concordia/index/LinkedCode" "liveInstructions" "I" (.int (li + (1 : Int32)))) ∧ (Fld Z h a1 "com/example/concordia/concordia/index/LinkedCode" "roots" "[I" (.ref rt)) ∧ (Fld Z h a1 "com/example/concordia/concordia/index/LinkedCode" "layOutAt" "I" (.int (1024 : Int32))) ∧ (Fld Z h a1 "com/example/concordia/concordia/index/LinkedCode" "program" "Lcom/example/concordia/concordia/index/Program;" (.ref pg)) ∧ (Arv Z h rt kr .int (4 : Int32) [(.int r0), (.int r1), (.int sz), (.int r3)] (.int (0 : Int32)))
set_option maxRecDepth 65536 in
set_option maxHeartbeats 40000000 in
theorem rm_ad2 (l : Launch) (Z : State) (a0 : Array Value) (hw : ∀ d ∈ tables_1, d.before a0 Z = true) (ws : List Jvm.Cond) (a1 : Addr) (pg : Addr) (p4 : Int32) (cd : Addr) (sz : Int32) (li : Int32) (rt : Addr) (il : Addr) (kr : ClassId) (v1 : Value) (r0 : Int32) (r1 : Int32) (r2 : Int32) (r3 : Int32) (h0 : Heap) (n0 : Nat) (Z0 : n0 ≤ h0.size) (pr0 : Exa Z h0 a1 "com/example/concordia/concordia/index/LinkedCode") (pr1 : n0 ≤ a1) (pr2 : n0 ≤ cd) (pr3 : Fld Z h0 a1 "com/example/concordia/concordia/index/LinkedCode" "code" "[I" (.ref cd)) (pr4 : own_Ars Z h0 cd .int (64 : Int32)) (pr5 : Fld Z h0 a1 "com/example/concordia/concordia/index/LinkedCode" "codeSize" "I" (.int sz)) (pr6 : Fld Z h0 a1 "com/example/concordia/concordia/index/LinkedCode" "liveInstructions" "I" (.int li)) (pr7 : Fld Z h0 a1 "com/example/concordia/concordia/index/LinkedCode" "roots" "[I" (.ref rt)) (pr8 : Fld Z h0 a1 "com/example/concordia/concordia/index/LinkedCode" "layOutAt" "I" (.int (1024 : Int32))) (pr9 : Fld Z h0 a1 "com/example/concordia/concordia/index/LinkedCode" "program" "Lcom/example/concordia/concordia/index/Program;" v1) (pr10 : Arv Z h0 rt kr .int (4 : Int32) [(.int r0), (.int r1), (.int r2), (.int r3)] (.int (0 : Int32))) (pr11 : n0 ≤ rt) (pr12 : cd ≠ rt) (pr13 : Exa Z h0 pg "com/example/concordia/concordia/index/Program") (pr14 : Fld Z h0 pg "com/example/concordia/concordia/index/Program" "lastLiteralFrom" "I" (.int (0 : Int32))) (pr15 : Fld Z h0 pg "com/example/concordia/concordia/index/Program" "instructions" "Lcom/example/concordia/concordia/expr/IntList;" (.ref il)) (pr16 : Exa Z h0 il "com/example/concordia/concordia/expr/IntList") (pr17 : Fld Z h0 il "com/example/concordia/concordia/expr/IntList" "size" "I" (.int (0 : Int32))) (hs1 : ¬ (sz < (0 : Int32))) (hs2 : sz < (64 : Int32)) (hs3 : ¬ ((sz + (1 : Int32)) < (0 : Int32))) (hs4 : (sz + (1 : Int32)) < (64 : Int32)) (hs5 : ¬ ((64 : Int32) < (sz + (2 : Int32)))) (hs6 : ¬ ((1024 : Int32) < (sz + (2 : Int32)))) (hrj : r2 = (-1 : Int32)) :
    MetFree l (⟨"com/example/concordia/concordia/index/LinkedCode", "add", "(ILcom/example/concordia/concordia/index/Program;I)V"⟩ : MethodName) (head1 (Jvm.Cond.code (⟨"com/example/concordia/concordia/index/LinkedCode", "add", "(ILcom/example/concordia/concordia/index/Program;I)V"⟩ : MethodName) prog_43_method_10_code 10 none :: ws) ({ frames := 3, cells := 0, slots := 0, locals := 44 } : Room)) (fun a U => a = #[(.ref a1), (.int (2 : Int32)), (.ref pg), (.int p4)] ∧ Z.Warmed39 U.vm ∧ U.heap = h0) (fun _ _ _ _ _ => True) (fun _ U o U' => ∃ v L, o = .returned v ∧ Q_rm_ad2 Z a1 pg p4 cd sz li rt il kr v1 r0 r1 r2 r3 h0 n0 v U'.heap L ∧ FrameEnd U o U' L ({ frames := 3, cells := 0, slots := 0, locals := 44 } : Room).cells ({ frames := 3, cells := 0, slots := 0, locals := 44 } : Room).slots) := by
  refine MetFree.of_bodySF (plainFor_of_name pn_com_example_concordia_concordia_index_LinkedCode) hisR ?_
  intro p e s m args below meth c s₁ Bd hml0 hP hK
  obtain ⟨rfl, hZ, hh⟩ := hP
  have hx := Bd.exec
  have hby := Bd.bytes
  have hml : c.maxLocals = 10 := hml0
  have hown : s.vm.findClass "com/example/concordia/concordia/index/LinkedCode" = some m.cls := findClass_of_methodNamed Bd.named
  have hnm := (name_of_methodNamed Bd.named Bd.method).1
  have X0 : Stand p l e ({ frames := 3, cells := 0, slots := 0, locals := 44 } : Room) s m #[(.ref a1), (.int (2 : Int32)), (.ref pg), (.int p4)] below meth c s₁ [] 0 0 := Stand.of_body Bd
  have e0 : s₁.heap = h0 := by rw [← hh, Bd.state]; rfl
  have N0 := Fr.nil n0
  have pre0 : ∀ t, Steps p.tables e below (s₁.setTop (mkF m 0 #[.val (.ref a1), .val (.int (2 : Int32)), .val (.ref pg), .val (.int p4), .unset, .unset, .unset, .unset, .unset, .unset] [])) t → Steps p.tables e below (s₁.setTop (entryFrame m #[(.ref a1), (.int (2 : Int32)), (.ref pg), (.int p4)] 10)) t := fun t k => castTop (ef_rm_ad2 m a1 (2 : Int32) pg p4) k
  obtain ⟨T1, h1, X1, e1, W1, st1⟩ := putF X0 hx hZ hown (host := "") (Or.inl (hw _ (List.mem_of_getElem? (i := 182) rfl))) Via.refl e0 pr9 pr0 (Or.inl (hw _ (List.mem_of_getElem? (i := 183) rfl))) (hw _ (List.mem_of_getElem? (i := 1) rfl)) (ty := (.object "com/example/concordia/concordia/index/Program")) (by decide) rfl rfl (g := (mkF m 2 #[.val (.ref a1), .val (.int (2 : Int32)), .val (.ref pg), .val (.int p4), .unset, .unset, .unset, .unset, .unset, .unset] [(.ref pg), (.ref a1)])) rfl rfl (hb hby d21_2)
  have N1 := Fr.snoc X1 N0 pr1
  have f1 : Fld Z h1 a1 "com/example/concordia/concordia/index/LinkedCode" "program" "Lcom/example/concordia/concordia/index/Program;" (.ref pg) := pr9.same W1
  have K2 : Keep h0 h1 [a1, cd, rt] := (Keep.refl h0 [a1, cd, rt]).wr W1 (Or.inl (List.mem_of_getElem? (i := 0) rfl))
  have f3 : Fld Z h1 a1 "com/example/concordia/concordia/index/LinkedCode" "roots" "[I" (.ref rt) := (pr7.other W1 (Or.inr (slot_ne (Or.inr (hw _ (List.mem_of_getElem? (i := 119) rfl))) (Or.inl (hw _ (List.mem_of_getElem? (i := 183) rfl))) (by decide) (t := (.array .int)) (t' := (.object "com/example/concordia/concordia/index/Program")) (by decide) (by decide))))
  obtain ⟨T4, X4, e4, st4⟩ := getF X1 hx hZ hown (host := "") (Or.inl (hw _ (List.mem_of_getElem? (i := 118) rfl))) Via.refl e1 f3 (g := (mkF m 6 #[.val (.ref a1), .val (.int (2 : Int32)), .val (.ref pg), .val (.int p4), .unset, .unset, .unset, .unset, .unset, .unset] [(.ref a1)])) rfl rfl (hb hby d21_6)
  have f5 : Arv Z h1 rt kr .int (4 : Int32) [(.int r0), (.int r1), (.int r2), (.int r3)] (.int (0 : Int32)) := (pr10.other W1 (Ne.symm (by obtain ⟨_, A_, -⟩ := id pr10; exact ne_arr pr0 (hw _ (List.mem_of_getElem? (i := 1) rfl)) A_)))
  obtain ⟨cl6, Ar6, q6, Sz6, Ng6, Hs6, Ft6⟩ := id f5
  obtain ⟨T7, X7, e7, st7⟩ := getF X4 hx hZ hown (host := "") (Or.inl (hw _ (List.mem_of_getElem? (i := 118) rfl))) Via.refl e4 f3 (g := (mkF m 16 #[.val (.ref a1), .val (.int (2 : Int32)), .val (.ref pg), .val (.int p4), .unset, .unset, .unset, .unset, .unset, .unset] [(.ref a1)])) rfl rfl (hb hby d21_16)
  have f8 : Exa Z h1 a1 "com/example/concordia/concordia/index/LinkedCode" := (pr0.wr W1)
  have f9 : Fld Z h1 a1 "com/example/concordia/concordia/index/LinkedCode" "code" "[I" (.ref cd) := (pr3.other W1 (Or.inr (slot_ne (Or.inl (hw _ (List.mem_of_getElem? (i := 117) rfl))) (Or.inl (hw _ (List.mem_of_getElem? (i := 183) rfl))) (by decide) (t := (.array .int)) (t' := (.object "com/example/concordia/concordia/index/Program")) (by decide) (by decide))))
  have f10 : own_Ars Z h1 cd .int (64 : Int32) := (pr4.wr W1)
  have f11 : Fld Z h1 a1 "com/example/concordia/concordia/index/LinkedCode" "codeSize" "I" (.int sz) := (pr5.other W1 (Or.inr (slot_ne (Or.inl (hw _ (List.mem_of_getElem? (i := 189) rfl))) (Or.inl (hw _ (List.mem_of_getElem? (i := 183) rfl))) (by decide) (t := .int) (t' := (.object "com/example/concordia/concordia/index/Program")) (by decide) (by decide))))
  have f12 : Fld Z h1 a1 "com/example/concordia/concordia/index/LinkedCode" "liveInstructions" "I" (.int li) := (pr6.other W1 (Or.inr (slot_ne (Or.inl (hw _ (List.mem_of_getElem? (i := 222) rfl))) (Or.inl (hw _ (List.mem_of_getElem? (i := 183) rfl))) (by decide) (t := .int) (t' := (.object "com/example/concordia/concordia/index/Program")) (by decide) (by decide))))
  have f13 : Fld Z h1 a1 "com/example/concordia/concordia/index/LinkedCode" "layOutAt" "I" (.int (1024 : Int32)) := (pr8.other W1 (Or.inr (slot_ne (Or.inl (hw _ (List.mem_of_getElem? (i := 121) rfl))) (Or.inl (hw _ (List.mem_of_getElem? (i := 183) rfl))) (by decide) (t := .int) (t' := (.object "com/example/concordia/concordia/index/Program")) (by decide) (by decide))))
  have f14 : Exa Z h1 pg "com/example/concordia/concordia/index/Program" := (pr13.wr W1)
  have f15 : Fld Z h1 pg "com/example/concordia/concordia/index/Program" "lastLiteralFrom" "I" (.int (0 : Int32)) := (pr14.other W1 (Or.inl (ne_exa pr13 pr0 (by decide))))
  have f16 : Fld Z h1 pg "com/example/concordia/concordia/index/Program" "instructions" "Lcom/example/concordia/concordia/expr/IntList;" (.ref il) := (pr15.other W1 (Or.inl (ne_exa pr13 pr0 (by decide))))
  have f17 : Exa Z h1 il "com/example/concordia/concordia/expr/IntList" := (pr16.wr W1)
  have f18 : Fld Z h1 il "com/example/concordia/concordia/expr/IntList" "size" "I" (.int (0 : Int32)) := (pr17.other W1 (Or.inl (ne_exa pr16 pr0 (by decide))))
  obtain ⟨cq19, q19, q19'⟩ := (Ins.self f8).cell
  obtain ⟨_, _, ⟨T19, L19, k19, n19⟩, -, X19, ⟨Lc19, hQ19, l19, y19, z19⟩, st19⟩ := X7.privateBack hx (y := (⟨"com/example/concordia/concordia/index/LinkedCode", "append", "(II)I"⟩ : MethodName)) hown (mvT hZ (hw _ (List.mem_of_getElem? (i := 184) rfl))) (mvT hZ (hw _ (List.mem_of_getElem? (i := 185) rfl))) (own_selP (mvT hZ (hw _ (List.mem_of_getElem? (i := 1) rfl)) (args := #[])) (mvP hZ (hw _ (List.mem_of_getElem? (i := 186) rfl)) (args := #[])) (mvT hZ (hw _ (List.mem_of_getElem? (i := 185) rfl))) (by decide)) (Cond.privateMethod_at (mvP hZ (hw _ (List.mem_of_getElem? (i := 186) rfl)) (args := #[]))) (mvT hZ (hw _ (List.mem_of_getElem? (i := 187) rfl))) (by decide) (backOf (W := 2) (rm_ap l Z a0 hw [] a1 p4 cd sz li rt pg il h1 n0 (Nat.le_trans Z0 K2.1) f8 pr1 pr2 f9 f10 f11 f12 f3 f13 f1 f14 f15 f16 f17 f18 hs1 hs2 hs3 hs4 hs5) hZ (hw _ (List.mem_of_getElem? (i := 187) rfl)) (hw _ (List.mem_of_getElem? (i := 2) rfl)) (by decide) (by decide)) (g := (mkF m 23 #[.val (.ref a1), .val (.int (2 : Int32)), .val (.ref pg), .val (.int p4), .unset, .unset, .unset, .unset, .unset, .unset] [(.int p4), (.int (0 : Int32)), (.ref a1), (.int (2 : Int32)), (.ref rt)])) rfl (by rw [hml]; rfl) (Steps.refl _) (a := a1) (by rw [e7]; exact q19) q19' (argsL := [(.int (0 : Int32)), (.int p4)]) (rest := [(.int (2 : Int32)), (.ref rt)]) (lenOf pd__40II_41I rfl) rfl (by show 2 * 0 + _ ≤ _; exact Nat.le_of_eq rfl) (hb hby d21_23) (fun _ _ => ⟨rfl, e7, (by decide : 0 + 0 ≤ _), (by decide : 0 + 0 ≤ _)⟩)
  dsimp only [Pt.U, Pt.locs, Pt.cells, Pt.slots] at X19 l19 y19 z19 st19 hQ19
  subst l19 y19 z19
  obtain ⟨rfl, Nq19, Kc19, p19_0, p19_1, p19_2, p19_3, p19_4, p19_5⟩ := hQ19
  have K20 : Keep h0 T19.heap [a1, cd, rt] := K2.trans Kc19 (allS (Or.inl (List.mem_of_getElem? (i := 0) rfl)) (allS (Or.inl (List.mem_of_getElem? (i := 1) rfl)) all0))
  have N19 := Fr.app N1 Nq19
  have f21 : Arv Z T19.heap rt kr .int (4 : Int32) [(.int r0), (.int r1), (.int r2), (.int r3)] (.int (0 : Int32)) := (f5.keep Kc19 (ninS (Ne.symm (by obtain ⟨_, A_, -⟩ := id f5; exact ne_arr f8 (hw _ (List.mem_of_getElem? (i := 1) rfl)) A_)) (ninS (Ne.symm pr12) nin0)))
  obtain ⟨cl22, Ar22, q22, Sz22, Ng22, Hs22, Ft22⟩ := id f21
  obtain ⟨T23, h23, X23, e23, W23, st23⟩ := stI X19 hx hZ rfl Ar22 (j := (2 : Int32)) (inb_of Sz22 ⟨by decide, by decide⟩) (g := (mkF m 26 #[.val (.ref a1), .val (.int (2 : Int32)), .val (.ref pg), .val (.int p4), .unset, .unset, .unset, .unset, .unset, .unset] [(.int sz), (.int (2 : Int32)), (.ref rt)])) rfl rfl (hb hby d21_26)
  have N23 := Fr.snoc X23 N19 pr11
  have f23 : Arv Z h23 rt kr .int (4 : Int32) [(.int r0), (.int r1), (.int sz), (.int r3)] (.int (0 : Int32)) := Arv.set Ar22 q22 Sz22 Ng22 Hs22 Ft22 rfl W23 2 rfl (Nat.le_of_ble_eq_true rfl)
  have K24 : Keep h0 h23 [a1, cd, rt] := K20.wr W23 (Or.inl (List.mem_of_getElem? (i := 2) rfl))
  have f25 : Fld Z h23 a1 "com/example/concordia/concordia/index/LinkedCode" "codeSize" "I" (.int (sz + (2 : Int32))) := (p19_1.other W23 (Or.inl (by obtain ⟨_, A_, -⟩ := id f21; exact ne_arr (f8.keep Kc19) (hw _ (List.mem_of_getElem? (i := 1) rfl)) A_)))
  have f26 : Fld Z h23 a1 "com/example/concordia/concordia/index/LinkedCode" "layOutAt" "I" (.int (1024 : Int32)) := (p19_4.other W23 (Or.inl (by obtain ⟨_, A_, -⟩ := id f21; exact ne_arr (f8.keep Kc19) (hw _ (List.mem_of_getElem? (i := 1) rfl)) A_)))
  have f28 : Exa Z h23 a1 "com/example/concordia/concordia/index/LinkedCode" := ((f8.keep Kc19).wr W23)
  obtain ⟨cq27, q27, q27'⟩ := (Ins.self f28).cell
  obtain ⟨_, _, ⟨T27, L27, k27, n27⟩, -, X27, ⟨Lc27, hQ27, l27, y27, z27⟩, st27⟩ := X23.privateBack hx (y := (⟨"com/example/concordia/concordia/index/LinkedCode", "layOutOnceGrown", "()V"⟩ : MethodName)) hown (mvT hZ (hw _ (List.mem_of_getElem? (i := 223) rfl))) (mvT hZ (hw _ (List.mem_of_getElem? (i := 224) rfl))) (own_selP (mvT hZ (hw _ (List.mem_of_getElem? (i := 1) rfl)) (args := #[])) (mvP hZ (hw _ (List.mem_of_getElem? (i := 225) rfl)) (args := #[])) (mvT hZ (hw _ (List.mem_of_getElem? (i := 224) rfl))) (by decide)) (Cond.privateMethod_at (mvP hZ (hw _ (List.mem_of_getElem? (i := 225) rfl)) (args := #[]))) (mvT hZ (hw _ (List.mem_of_getElem? (i := 226) rfl))) (by decide) (backOf (W := 0) (rm_lo l Z a0 hw [] a1 (sz + (2 : Int32)) h23 n0 (Nat.le_trans Z0 K24.1) f25 f26 hs6) hZ (hw _ (List.mem_of_getElem? (i := 226) rfl)) (hw _ (List.mem_of_getElem? (i := 2) rfl)) (by decide) (by decide)) (g := (mkF m 28 #[.val (.ref a1), .val (.int (2 : Int32)), .val (.ref pg), .val (.int p4), .unset, .unset, .unset, .unset, .unset, .unset] [(.ref a1)])) rfl (by rw [hml]; rfl) (Steps.refl _) (a := a1) (by rw [e23]; exact q27) q27' (argsL := []) (rest := []) (lenOf pd__40_41V rfl) rfl (by show 2 * 0 + _ ≤ _; exact Nat.le_of_eq rfl) (hb hby d21_28) (fun _ _ => ⟨rfl, e23, (by decide : 0 + 0 ≤ _), (by decide : 0 + 0 ≤ _)⟩)
  dsimp only [Pt.U, Pt.locs, Pt.cells, Pt.slots] at X27 l27 y27 z27 st27 hQ27
  subst l27 y27 z27
  obtain ⟨rfl, Nq27, e27⟩ := hQ27
  have N27 := Fr.app N23 Nq27
  have f29 : Fld Z h23 a1 "com/example/concordia/concordia/index/LinkedCode" "code" "[I" (.ref cd) := (p19_0.other W23 (Or.inl (by obtain ⟨_, A_, -⟩ := id f21; exact ne_arr (f8.keep Kc19) (hw _ (List.mem_of_getElem? (i := 1) rfl)) A_)))
  have f30 : Fld Z h23 a1 "com/example/concordia/concordia/index/LinkedCode" "liveInstructions" "I" (.int (li + (1 : Int32))) := (p19_2.other W23 (Or.inl (by obtain ⟨_, A_, -⟩ := id f21; exact ne_arr (f8.keep Kc19) (hw _ (List.mem_of_getElem? (i := 1) rfl)) A_)))
  have f31 : Fld Z h23 a1 "com/example/concordia/concordia/index/LinkedCode" "roots" "[I" (.ref rt) := (p19_3.other W23 (Or.inl (by obtain ⟨_, A_, -⟩ := id f21; exact ne_arr (f8.keep Kc19) (hw _ (List.mem_of_getElem? (i := 1) rfl)) A_)))
  have f32 : Fld Z h23 a1 "com/example/concordia/concordia/index/LinkedCode" "program" "Lcom/example/concordia/concordia/index/Program;" (.ref pg) := (p19_5.other W23 (Or.inl (by obtain ⟨_, A_, -⟩ := id f21; exact ne_arr (f8.keep Kc19) (hw _ (List.mem_of_getElem? (i := 1) rfl)) A_)))
  have f29 : Fld Z h23 a1 "com/example/concordia/concordia/index/LinkedCode" "code" "[I" (.ref cd) := (p19_0.other W23 (Or.inl (by obtain ⟨_, A_, -⟩ := id f21; exact ne_arr (f8.keep Kc19) (hw _ (List.mem_of_getElem? (i := 1) rfl)) A_)))
  have f30 : Fld Z h23 a1 "com/example/concordia/concordia/index/LinkedCode" "liveInstructions" "I" (.int (li + (1 : Int32))) := (p19_2.other W23 (Or.inl (by obtain ⟨_, A_, -⟩ := id f21; exact ne_arr (f8.keep Kc19) (hw _ (List.mem_of_getElem? (i := 1) rfl)) A_)))
  have f31 : Fld Z h23 a1 "com/example/concordia/concordia/index/LinkedCode" "roots" "[I" (.ref rt) := (p19_3.other W23 (Or.inl (by obtain ⟨_, A_, -⟩ := id f21; exact ne_arr (f8.keep Kc19) (hw _ (List.mem_of_getElem? (i := 1) rfl)) A_)))
  have f32 : Fld Z h23 a1 "com/example/concordia/concordia/index/LinkedCode" "program" "Lcom/example/concordia/concordia/index/Program;" (.ref pg) := (p19_5.other W23 (Or.inl (by obtain ⟨_, A_, -⟩ := id f21; exact ne_arr (f8.keep Kc19) (hw _ (List.mem_of_getElem? (i := 1) rfl)) A_)))
  obtain ⟨fs, hr, hrun, hended, hW, hsame⟩ := X27.leave (v := none) (fun _ => rfl)
  refine ⟨_, _, pre0 _ ?_, hrun, hended, _, _, rfl, ?_, ⟨_, rfl⟩, hW, hsame.mono (by decide) (by decide)⟩
  · show Steps p.tables e below (s₁.setTop (mkF m 0 #[.val (.ref a1), .val (.int (2 : Int32)), .val (.ref pg), .val (.int p4), .unset, .unset, .unset, .unset, .unset, .unset] [])) _
    refine XS.aloadN X0.here hx rfl (hb hby d21_0) rfl rfl ?_
    show Steps p.tables e below (s₁.setTop (mkF m 1 #[.val (.ref a1), .val (.int (2 : Int32)), .val (.ref pg), .val (.int p4), .unset, .unset, .unset, .unset, .unset, .unset] [(.ref a1)])) _
    refine XS.aloadN X0.here hx rfl (hb hby d21_1) rfl rfl ?_
    show Steps p.tables e below (s₁.setTop (mkF m 2 #[.val (.ref a1), .val (.int (2 : Int32)), .val (.ref pg), .val (.int p4), .unset, .unset, .unset, .unset, .unset, .unset] [(.ref pg), (.ref a1)])) _
    refine st1 _ ?_
    show Steps p.tables e below (T1.setTop (mkF m 5 #[.val (.ref a1), .val (.int (2 : Int32)), .val (.ref pg), .val (.int p4), .unset, .unset, .unset, .unset, .unset, .unset] [])) _
    refine XS.aloadN X1.here hx rfl (hb hby d21_5) rfl rfl ?_
    show Steps p.tables e below (T1.setTop (mkF m 6 #[.val (.ref a1), .val (.int (2 : Int32)), .val (.ref pg), .val (.int p4), .unset, .unset, .unset, .unset, .unset, .unset] [(.ref a1)])) _
    refine st4 _ ?_
    show Steps p.tables e below (T4.setTop (mkF m 9 #[.val (.ref a1), .val (.int (2 : Int32)), .val (.ref pg), .val (.int p4), .unset, .unset, .unset, .unset, .unset, .unset] [(.ref rt)])) _
    refine XS.iloadN X4.here hx rfl (hb hby d21_9) rfl ?_
    show Steps p.tables e below (T4.setTop (mkF m 10 #[.val (.ref a1), .val (.int (2 : Int32)), .val (.ref pg), .val (.int p4), .unset, .unset, .unset, .unset, .unset, .unset] [(.int (2 : Int32)), (.ref rt)])) _
    refine X4.iaload hx (j := (2 : Int32)) (v := (.int r2)) (by rw [e4]; exact Ar6.1) (State.isArrayOf_alike hZ.alike Ar6.2.1) Ar6.2.2 (inb_of Sz6 ⟨by decide, by decide⟩) (Has.at Hs6 (inb_of Sz6 ⟨by decide, by decide⟩) rfl) (g := (mkF m 10 #[.val (.ref a1), .val (.int (2 : Int32)), .val (.ref pg), .val (.int p4), .unset, .unset, .unset, .unset, .unset, .unset] [(.int (2 : Int32)), (.ref rt)])) rfl rfl (hb hby d21_10) _ ?_
    show Steps p.tables e below (T4.setTop (mkF m 11 #[.val (.ref a1), .val (.int (2 : Int32)), .val (.ref pg), .val (.int p4), .unset, .unset, .unset, .unset, .unset, .unset] [(.int r2)])) _
    refine XS.iconst X4.here hx rfl (hb hby d21_11) ?_
    show Steps p.tables e below (T4.setTop (mkF m 12 #[.val (.ref a1), .val (.int (2 : Int32)), .val (.ref pg), .val (.int p4), .unset, .unset, .unset, .unset, .unset, .unset] [(.int (-1 : Int32)), (.int r2)])) _
    refine XS.icmpNo X4.here hx rfl (hb hby d21_12) rfl (teq hrj).2 ?_
    show Steps p.tables e below (T4.setTop (mkF m 15 #[.val (.ref a1), .val (.int (2 : Int32)), .val (.ref pg), .val (.int p4), .unset, .unset, .unset, .unset, .unset, .unset] [])) _
    refine XS.aloadN X4.here hx rfl (hb hby d21_15) rfl rfl ?_
    show Steps p.tables e below (T4.setTop (mkF m 16 #[.val (.ref a1), .val (.int (2 : Int32)), .val (.ref pg), .val (.int p4), .unset, .unset, .unset, .unset, .unset, .unset] [(.ref a1)])) _
    refine st7 _ ?_
    show Steps p.tables e below (T7.setTop (mkF m 19 #[.val (.ref a1), .val (.int (2 : Int32)), .val (.ref pg), .val (.int p4), .unset, .unset, .unset, .unset, .unset, .unset] [(.ref rt)])) _
    refine XS.iloadN X7.here hx rfl (hb hby d21_19) rfl ?_
    show Steps p.tables e below (T7.setTop (mkF m 20 #[.val (.ref a1), .val (.int (2 : Int32)), .val (.ref pg), .val (.int p4), .unset, .unset, .unset, .unset, .unset, .unset] [(.int (2 : Int32)), (.ref rt)])) _
    refine XS.aloadN X7.here hx rfl (hb hby d21_20) rfl rfl ?_
    show Steps p.tables e below (T7.setTop (mkF m 21 #[.val (.ref a1), .val (.int (2 : Int32)), .val (.ref pg), .val (.int p4), .unset, .unset, .unset, .unset, .unset, .unset] [(.ref a1), (.int (2 : Int32)), (.ref rt)])) _
    refine XS.iconst X7.here hx rfl (hb hby d21_21) ?_
    show Steps p.tables e below (T7.setTop (mkF m 22 #[.val (.ref a1), .val (.int (2 : Int32)), .val (.ref pg), .val (.int p4), .unset, .unset, .unset, .unset, .unset, .unset] [(.int (0 : Int32)), (.ref a1), (.int (2 : Int32)), (.ref rt)])) _
    refine XS.iloadN X7.here hx rfl (hb hby d21_22) rfl ?_
    show Steps p.tables e below (T7.setTop (mkF m 23 #[.val (.ref a1), .val (.int (2 : Int32)), .val (.ref pg), .val (.int p4), .unset, .unset, .unset, .unset, .unset, .unset] [(.int p4), (.int (0 : Int32)), (.ref a1), (.int (2 : Int32)), (.ref rt)])) _
    refine st19.trans ?_
    show Steps p.tables e below (T19.setTop (mkF m 26 #[.val (.ref a1), .val (.int (2 : Int32)), .val (.ref pg), .val (.int p4), .unset, .unset, .unset, .unset, .unset, .unset] [(.int sz), (.int (2 : Int32)), (.ref rt)])) _
    refine st23 _ ?_
    show Steps p.tables e below (T23.setTop (mkF m 27 #[.val (.ref a1), .val (.int (2 : Int32)), .val (.ref pg), .val (.int p4), .unset, .unset, .unset, .unset, .unset, .unset] [])) _
    refine XS.aloadN X23.here hx rfl (hb hby d21_27) rfl rfl ?_
    show Steps p.tables e below (T23.setTop (mkF m 28 #[.val (.ref a1), .val (.int (2 : Int32)), .val (.ref pg), .val (.int p4), .unset, .unset, .unset, .unset, .unset, .unset] [(.ref a1)])) _
    refine st27.trans ?_
    show Steps p.tables e below (T27.setTop (mkF m 31 #[.val (.ref a1), .val (.int (2 : Int32)), .val (.ref pg), .val (.int p4), .unset, .unset, .unset, .unset, .unset, .unset] [])) _
    exact X27.returnOut hx Bd.returns (hb hby d21_31) hr
  · show Q_rm_ad2 Z a1 pg p4 cd sz li rt il kr v1 r0 r1 r2 r3 h0 n0 _ T27.heap _
    rw [e27]
    exact ⟨rfl, N27, K24, f29, f25, f30, f31, f26, f32, f23⟩
theorem ef_rm_ad3 (m : MethodId) (x0 : Addr) (x1 : Int32) (x2 : Addr) (x3 : Int32) : entryFrame m #[(.ref x0), (.int x1), (.ref x2), (.int x3)] 10 = mkF m 0 #[.val (.ref x0), .val (.int x1), .val (.ref x2), .val (.int x3), .unset, .unset, .unset, .unset, .unset, .unset] [] := by first | (simp [entryFrame, mkF, argsToLocals, Value.category]; done) | rfl
def Q_rm_ad3 (Z : State) (a1 : Addr) (pg : Addr) (p4 : Int32) (cd : Addr) (sz : Int32) (li : Int32) (rt : Addr) (il : Addr) (kr : ClassId) (v1 : Value) (r0 : Int32) (r1 : Int32) (r2 : Int32) (r3 : Int32) (h0 : Heap) (n0 : Nat) (v : Option Value) (h : Heap) (L : List Loc) : Prop := v = none ∧ Fr n0 L ∧ Keep h0 h [a1, cd, rt] ∧ (Fld Z h a1 "com/example/concordia/concordia/index/LinkedCode" "code" "[I" (.ref cd)) ∧ (Fld Z h a1 "com/example/concordia/concordia/index/LinkedCode" "codeSize" "I" (.int (sz + (2 : Int32)))) ∧ (Fld Z h a1 "com/example/concordia/concordia/index/LinkedCode" "liveInstructions" "I" (.int (li + (1 : Int32)))) ∧ (Fld Z h a1 "com/example/concordia/concordia/index/LinkedCode" "roots" "[I" (.ref rt)) ∧ (Fld Z h a1 "com/example/concordia/concordia/index/LinkedCode" "layOutAt" "I" (.int (1024 : Int32))) ∧ (Fld Z h a1 "com/example/concordia/concordia/index/LinkedCode" "program" "Lcom/example/concordia/concordia/index/Program;" (.ref pg)) ∧ (Arv Z h rt kr .int (4 : Int32) [(.int r0), (.int r1), (.int r2), (.int sz)] (.int (0 : Int32)))
set_option maxRecDepth 65536 in
set_option maxHeartbeats 40000000 in
theorem rm_ad3 (l : Launch) (Z : State) (a0 : Array Value) (hw : ∀ d ∈ tables_1, d.before a0 Z = true) (ws : List Jvm.Cond) (a1 : Addr) (pg : Addr) (p4 : Int32) (cd : Addr) (sz : Int32) (li : Int32) (rt : Addr) (il : Addr) (kr : ClassId) (v1 : Value) (r0 : Int32) (r1 : Int32) (r2 : Int32) (r3 : Int32) (h0 : Heap) (n0 : Nat) (Z0 : n0 ≤ h0.size) (pr0 : Exa Z h0 a1 "com/example/concordia/concordia/index/LinkedCode") (pr1 : n0 ≤ a1) (pr2 : n0 ≤ cd) (pr3 : Fld Z h0 a1 "com/example/concordia/concordia/index/LinkedCode" "code" "[I" (.ref cd)) (pr4 : own_Ars Z h0 cd .int (64 : Int32)) (pr5 : Fld Z h0 a1 "com/example/concordia/concordia/index/LinkedCode" "codeSize" "I" (.int sz)) (pr6 : Fld Z h0 a1 "com/example/concordia/concordia/index/LinkedCode" "liveInstructions" "I" (.int li)) (pr7 : Fld Z h0 a1 "com/example/concordia/concordia/index/LinkedCode" "roots" "[I" (.ref rt)) (pr8 : Fld Z h0 a1 "com/example/concordia/concordia/index/LinkedCode" "layOutAt" "I" (.int (1024 : Int32))) (pr9 : Fld Z h0 a1 "com/example/concordia/concordia/index/LinkedCode" "program" "Lcom/example/concordia/concordia/index/Program;" v1) (pr10 : Arv Z h0 rt kr .int (4 : Int32) [(.int r0), (.int r1), (.int r2), (.int r3)] (.int (0 : Int32))) (pr11 : n0 ≤ rt) (pr12 : cd ≠ rt) (pr13 : Exa Z h0 pg "com/example/concordia/concordia/index/Program") (pr14 : Fld Z h0 pg "com/example/concordia/concordia/index/Program" "lastLiteralFrom" "I" (.int (0 : Int32))) (pr15 : Fld Z h0 pg "com/example/concordia/concordia/index/Program" "instructions" "Lcom/example/concordia/concordia/expr/IntList;" (.ref il)) (pr16 : Exa Z h0 il "com/example/concordia/concordia/expr/IntList") (pr17 : Fld Z h0 il "com/example/concordia/concordia/expr/IntList" "size" "I" (.int (0 : Int32))) (hs1 : ¬ (sz < (0 : Int32))) (hs2 : sz < (64 : Int32)) (hs3 : ¬ ((sz + (1 : Int32)) < (0 : Int32))) (hs4 : (sz + (1 : Int32)) < (64 : Int32)) (hs5 : ¬ ((64 : Int32) < (sz + (2 : Int32)))) (hs6 : ¬ ((1024 : Int32) < (sz + (2 : Int32)))) (hrj : r3 = (-1 : Int32)) :
    MetFree l (⟨"com/example/concordia/concordia/index/LinkedCode", "add", "(ILcom/example/concordia/concordia/index/Program;I)V"⟩ : MethodName) (head1 (Jvm.Cond.code (⟨"com/example/concordia/concordia/index/LinkedCode", "add", "(ILcom/example/concordia/concordia/index/Program;I)V"⟩ : MethodName) prog_43_method_10_code 10 none :: ws) ({ frames := 3, cells := 0, slots := 0, locals := 44 } : Room)) (fun a U => a = #[(.ref a1), (.int (3 : Int32)), (.ref pg), (.int p4)] ∧ Z.Warmed39 U.vm ∧ U.heap = h0) (fun _ _ _ _ _ => True) (fun _ U o U' => ∃ v L, o = .returned v ∧ Q_rm_ad3 Z a1 pg p4 cd sz li rt il kr v1 r0 r1 r2 r3 h0 n0 v U'.heap L ∧ FrameEnd U o U' L ({ frames := 3, cells := 0, slots := 0, locals := 44 } : Room).cells ({ frames := 3, cells := 0, slots := 0, locals := 44 } : Room).slots) := by
  refine MetFree.of_bodySF (plainFor_of_name pn_com_example_concordia_concordia_index_LinkedCode) hisR ?_
  intro p e s m args below meth c s₁ Bd hml0 hP hK
  obtain ⟨rfl, hZ, hh⟩ := hP
  have hx := Bd.exec
  have hby := Bd.bytes
  have hml : c.maxLocals = 10 := hml0
  have hown : s.vm.findClass "com/example/concordia/concordia/index/LinkedCode" = some m.cls := findClass_of_methodNamed Bd.named
  have hnm := (name_of_methodNamed Bd.named Bd.method).1
  have X0 : Stand p l e ({ frames := 3, cells := 0, slots := 0, locals := 44 } : Room) s m #[(.ref a1), (.int (3 : Int32)), (.ref pg), (.int p4)] below meth c s₁ [] 0 0 := Stand.of_body Bd
  have e0 : s₁.heap = h0 := by rw [← hh, Bd.state]; rfl
  have N0 := Fr.nil n0
  have pre0 : ∀ t, Steps p.tables e below (s₁.setTop (mkF m 0 #[.val (.ref a1), .val (.int (3 : Int32)), .val (.ref pg), .val (.int p4), .unset, .unset, .unset, .unset, .unset, .unset] [])) t → Steps p.tables e below (s₁.setTop (entryFrame m #[(.ref a1), (.int (3 : Int32)), (.ref pg), (.int p4)] 10)) t := fun t k => castTop (ef_rm_ad3 m a1 (3 : Int32) pg p4) k
  obtain ⟨T1, h1, X1, e1, W1, st1⟩ := putF X0 hx hZ hown (host := "") (Or.inl (hw _ (List.mem_of_getElem? (i := 182) rfl))) Via.refl e0 pr9 pr0 (Or.inl (hw _ (List.mem_of_getElem? (i := 183) rfl))) (hw _ (List.mem_of_getElem? (i := 1) rfl)) (ty := (.object "com/example/concordia/concordia/index/Program")) (by decide) rfl rfl (g := (mkF m 2 #[.val (.ref a1), .val (.int (3 : Int32)), .val (.ref pg), .val (.int p4), .unset, .unset, .unset, .unset, .unset, .unset] [(.ref pg), (.ref a1)])) rfl rfl (hb hby d21_2)
  have N1 := Fr.snoc X1 N0 pr1
  have f1 : Fld Z h1 a1 "com/example/concordia/concordia/index/LinkedCode" "program" "Lcom/example/concordia/concordia/index/Program;" (.ref pg) := pr9.same W1
  have K2 : Keep h0 h1 [a1, cd, rt] := (Keep.refl h0 [a1, cd, rt]).wr W1 (Or.inl (List.mem_of_getElem? (i := 0) rfl))
  have f3 : Fld Z h1 a1 "com/example/concordia/concordia/index/LinkedCode" "roots" "[I" (.ref rt) := (pr7.other W1 (Or.inr (slot_ne (Or.inr (hw _ (List.mem_of_getElem? (i := 119) rfl))) (Or.inl (hw _ (List.mem_of_getElem? (i := 183) rfl))) (by decide) (t := (.array .int)) (t' := (.object "com/example/concordia/concordia/index/Program")) (by decide) (by decide))))
  obtain ⟨T4, X4, e4, st4⟩ := getF X1 hx hZ hown (host := "") (Or.inl (hw _ (List.mem_of_getElem? (i := 118) rfl))) Via.refl e1 f3 (g := (mkF m 6 #[.val (.ref a1), .val (.int (3 : Int32)), .val (.ref pg), .val (.int p4), .unset, .unset, .unset, .unset, .unset, .unset] [(.ref a1)])) rfl rfl (hb hby d21_6)
  have f5 : Arv Z h1 rt kr .int (4 : Int32) [(.int r0), (.int r1), (.int r2), (.int r3)] (.int (0 : Int32)) := (pr10.other W1 (Ne.symm (by obtain ⟨_, A_, -⟩ := id pr10; exact ne_arr pr0 (hw _ (List.mem_of_getElem? (i := 1) rfl)) A_)))
  obtain ⟨cl6, Ar6, q6, Sz6, Ng6, Hs6, Ft6⟩ := id f5
  obtain ⟨T7, X7, e7, st7⟩ := getF X4 hx hZ hown (host := "") (Or.inl (hw _ (List.mem_of_getElem? (i := 118) rfl))) Via.refl e4 f3 (g := (mkF m 16 #[.val (.ref a1), .val (.int (3 : Int32)), .val (.ref pg), .val (.int p4), .unset, .unset, .unset, .unset, .unset, .unset] [(.ref a1)])) rfl rfl (hb hby d21_16)
  have f8 : Exa Z h1 a1 "com/example/concordia/concordia/index/LinkedCode" := (pr0.wr W1)
  have f9 : Fld Z h1 a1 "com/example/concordia/concordia/index/LinkedCode" "code" "[I" (.ref cd) := (pr3.other W1 (Or.inr (slot_ne (Or.inl (hw _ (List.mem_of_getElem? (i := 117) rfl))) (Or.inl (hw _ (List.mem_of_getElem? (i := 183) rfl))) (by decide) (t := (.array .int)) (t' := (.object "com/example/concordia/concordia/index/Program")) (by decide) (by decide))))
  have f10 : own_Ars Z h1 cd .int (64 : Int32) := (pr4.wr W1)
  have f11 : Fld Z h1 a1 "com/example/concordia/concordia/index/LinkedCode" "codeSize" "I" (.int sz) := (pr5.other W1 (Or.inr (slot_ne (Or.inl (hw _ (List.mem_of_getElem? (i := 189) rfl))) (Or.inl (hw _ (List.mem_of_getElem? (i := 183) rfl))) (by decide) (t := .int) (t' := (.object "com/example/concordia/concordia/index/Program")) (by decide) (by decide))))
  have f12 : Fld Z h1 a1 "com/example/concordia/concordia/index/LinkedCode" "liveInstructions" "I" (.int li) := (pr6.other W1 (Or.inr (slot_ne (Or.inl (hw _ (List.mem_of_getElem? (i := 222) rfl))) (Or.inl (hw _ (List.mem_of_getElem? (i := 183) rfl))) (by decide) (t := .int) (t' := (.object "com/example/concordia/concordia/index/Program")) (by decide) (by decide))))
  have f13 : Fld Z h1 a1 "com/example/concordia/concordia/index/LinkedCode" "layOutAt" "I" (.int (1024 : Int32)) := (pr8.other W1 (Or.inr (slot_ne (Or.inl (hw _ (List.mem_of_getElem? (i := 121) rfl))) (Or.inl (hw _ (List.mem_of_getElem? (i := 183) rfl))) (by decide) (t := .int) (t' := (.object "com/example/concordia/concordia/index/Program")) (by decide) (by decide))))
  have f14 : Exa Z h1 pg "com/example/concordia/concordia/index/Program" := (pr13.wr W1)
  have f15 : Fld Z h1 pg "com/example/concordia/concordia/index/Program" "lastLiteralFrom" "I" (.int (0 : Int32)) := (pr14.other W1 (Or.inl (ne_exa pr13 pr0 (by decide))))
  have f16 : Fld Z h1 pg "com/example/concordia/concordia/index/Program" "instructions" "Lcom/example/concordia/concordia/expr/IntList;" (.ref il) := (pr15.other W1 (Or.inl (ne_exa pr13 pr0 (by decide))))
  have f17 : Exa Z h1 il "com/example/concordia/concordia/expr/IntList" := (pr16.wr W1)
  have f18 : Fld Z h1 il "com/example/concordia/concordia/expr/IntList" "size" "I" (.int (0 : Int32)) := (pr17.other W1 (Or.inl (ne_exa pr16 pr0 (by decide))))
  obtain ⟨cq19, q19, q19'⟩ := (Ins.self f8).cell
  obtain ⟨_, _, ⟨T19, L19, k19, n19⟩, -, X19, ⟨Lc19, hQ19, l19, y19, z19⟩, st19⟩ := X7.privateBack hx (y := (⟨"com/example/concordia/concordia/index/LinkedCode", "append", "(II)I"⟩ : MethodName)) hown (mvT hZ (hw _ (List.mem_of_getElem? (i := 184) rfl))) (mvT hZ (hw _ (List.mem_of_getElem? (i := 185) rfl))) (own_selP (mvT hZ (hw _ (List.mem_of_getElem? (i := 1) rfl)) (args := #[])) (mvP hZ (hw _ (List.mem_of_getElem? (i := 186) rfl)) (args := #[])) (mvT hZ (hw _ (List.mem_of_getElem? (i := 185) rfl))) (by decide)) (Cond.privateMethod_at (mvP hZ (hw _ (List.mem_of_getElem? (i := 186) rfl)) (args := #[]))) (mvT hZ (hw _ (List.mem_of_getElem? (i := 187) rfl))) (by decide) (backOf (W := 2) (rm_ap l Z a0 hw [] a1 p4 cd sz li rt pg il h1 n0 (Nat.le_trans Z0 K2.1) f8 pr1 pr2 f9 f10 f11 f12 f3 f13 f1 f14 f15 f16 f17 f18 hs1 hs2 hs3 hs4 hs5) hZ (hw _ (List.mem_of_getElem? (i := 187) rfl)) (hw _ (List.mem_of_getElem? (i := 2) rfl)) (by decide) (by decide)) (g := (mkF m 23 #[.val (.ref a1), .val (.int (3 : Int32)), .val (.ref pg), .val (.int p4), .unset, .unset, .unset, .unset, .unset, .unset] [(.int p4), (.int (0 : Int32)), (.ref a1), (.int (3 : Int32)), (.ref rt)])) rfl (by rw [hml]; rfl) (Steps.refl _) (a := a1) (by rw [e7]; exact q19) q19' (argsL := [(.int (0 : Int32)), (.int p4)]) (rest := [(.int (3 : Int32)), (.ref rt)]) (lenOf pd__40II_41I rfl) rfl (by show 2 * 0 + _ ≤ _; exact Nat.le_of_eq rfl) (hb hby d21_23) (fun _ _ => ⟨rfl, e7, (by decide : 0 + 0 ≤ _), (by decide : 0 + 0 ≤ _)⟩)
  dsimp only [Pt.U, Pt.locs, Pt.cells, Pt.slots] at X19 l19 y19 z19 st19 hQ19
  subst l19 y19 z19
  obtain ⟨rfl, Nq19, Kc19, p19_0, p19_1, p19_2, p19_3, p19_4, p19_5⟩ := hQ19
  have K20 : Keep h0 T19.heap [a1, cd, rt] := K2.trans Kc19 (allS (Or.inl (List.mem_of_getElem? (i := 0) rfl)) (allS (Or.inl (List.mem_of_getElem? (i := 1) rfl)) all0))
  have N19 := Fr.app N1 Nq19
  have f21 : Arv Z T19.heap rt kr .int (4 : Int32) [(.int r0), (.int r1), (.int r2), (.int r3)] (.int (0 : Int32)) := (f5.keep Kc19 (ninS (Ne.symm (by obtain ⟨_, A_, -⟩ := id f5; exact ne_arr f8 (hw _ (List.mem_of_getElem? (i := 1) rfl)) A_)) (ninS (Ne.symm pr12) nin0)))
  obtain ⟨cl22, Ar22, q22, Sz22, Ng22, Hs22, Ft22⟩ := id f21
  obtain ⟨T23, h23, X23, e23, W23, st23⟩ := stI X19 hx hZ rfl Ar22 (j := (3 : Int32)) (inb_of Sz22 ⟨by decide, by decide⟩) (g := (mkF m 26 #[.val (.ref a1), .val (.int (3 : Int32)), .val (.ref pg), .val (.int p4), .unset, .unset, .unset, .unset, .unset, .unset] [(.int sz), (.int (3 : Int32)), (.ref rt)])) rfl rfl (hb hby d21_26)
  have N23 := Fr.snoc X23 N19 pr11
  have f23 : Arv Z h23 rt kr .int (4 : Int32) [(.int r0), (.int r1), (.int r2), (.int sz)] (.int (0 : Int32)) := Arv.set Ar22 q22 Sz22 Ng22 Hs22 Ft22 rfl W23 3 rfl (Nat.le_of_ble_eq_true rfl)
  have K24 : Keep h0 h23 [a1, cd, rt] := K20.wr W23 (Or.inl (List.mem_of_getElem? (i := 2) rfl))
  have f25 : Fld Z h23 a1 "com/example/concordia/concordia/index/LinkedCode" "codeSize" "I" (.int (sz + (2 : Int32))) := (p19_1.other W23 (Or.inl (by obtain ⟨_, A_, -⟩ := id f21; exact ne_arr (f8.keep Kc19) (hw _ (List.mem_of_getElem? (i := 1) rfl)) A_)))
  have f26 : Fld Z h23 a1 "com/example/concordia/concordia/index/LinkedCode" "layOutAt" "I" (.int (1024 : Int32)) := (p19_4.other W23 (Or.inl (by obtain ⟨_, A_, -⟩ := id f21; exact ne_arr (f8.keep Kc19) (hw _ (List.mem_of_getElem? (i := 1) rfl)) A_)))
  have f28 : Exa Z h23 a1 "com/example/concordia/concordia/index/LinkedCode" := ((f8.keep Kc19).wr W23)
  obtain ⟨cq27, q27, q27'⟩ := (Ins.self f28).cell
  obtain ⟨_, _, ⟨T27, L27, k27, n27⟩, -, X27, ⟨Lc27, hQ27, l27, y27, z27⟩, st27⟩ := X23.privateBack hx (y := (⟨"com/example/concordia/concordia/index/LinkedCode", "layOutOnceGrown", "()V"⟩ : MethodName)) hown (mvT hZ (hw _ (List.mem_of_getElem? (i := 223) rfl))) (mvT hZ (hw _ (List.mem_of_getElem? (i := 224) rfl))) (own_selP (mvT hZ (hw _ (List.mem_of_getElem? (i := 1) rfl)) (args := #[])) (mvP hZ (hw _ (List.mem_of_getElem? (i := 225) rfl)) (args := #[])) (mvT hZ (hw _ (List.mem_of_getElem? (i := 224) rfl))) (by decide)) (Cond.privateMethod_at (mvP hZ (hw _ (List.mem_of_getElem? (i := 225) rfl)) (args := #[]))) (mvT hZ (hw _ (List.mem_of_getElem? (i := 226) rfl))) (by decide) (backOf (W := 0) (rm_lo l Z a0 hw [] a1 (sz + (2 : Int32)) h23 n0 (Nat.le_trans Z0 K24.1) f25 f26 hs6) hZ (hw _ (List.mem_of_getElem? (i := 226) rfl)) (hw _ (List.mem_of_getElem? (i := 2) rfl)) (by decide) (by decide)) (g := (mkF m 28 #[.val (.ref a1), .val (.int (3 : Int32)), .val (.ref pg), .val (.int p4), .unset, .unset, .unset, .unset, .unset, .unset] [(.ref a1)])) rfl (by rw [hml]; rfl) (Steps.refl _) (a := a1) (by rw [e23]; exact q27) q27' (argsL := []) (rest := []) (lenOf pd__40_41V rfl) rfl (by show 2 * 0 + _ ≤ _; exact Nat.le_of_eq rfl) (hb hby d21_28) (fun _ _ => ⟨rfl, e23, (by decide : 0 + 0 ≤ _), (by decide : 0 + 0 ≤ _)⟩)
  dsimp only [Pt.U, Pt.locs, Pt.cells, Pt.slots] at X27 l27 y27 z27 st27 hQ27
  subst l27 y27 z27
  obtain ⟨rfl, Nq27, e27⟩ := hQ27
  have N27 := Fr.app N23 Nq27
  have f29 : Fld Z h23 a1 "com/example/concordia/concordia/index/LinkedCode" "code" "[I" (.ref cd) := (p19_0.other W23 (Or.inl (by obtain ⟨_, A_, -⟩ := id f21; exact ne_arr (f8.keep Kc19) (hw _ (List.mem_of_getElem? (i := 1) rfl)) A_)))
  have f30 : Fld Z h23 a1 "com/example/concordia/concordia/index/LinkedCode" "liveInstructions" "I" (.int (li + (1 : Int32))) := (p19_2.other W23 (Or.inl (by obtain ⟨_, A_, -⟩ := id f21; exact ne_arr (f8.keep Kc19) (hw _ (List.mem_of_getElem? (i := 1) rfl)) A_)))
  have f31 : Fld Z h23 a1 "com/example/concordia/concordia/index/LinkedCode" "roots" "[I" (.ref rt) := (p19_3.other W23 (Or.inl (by obtain ⟨_, A_, -⟩ := id f21; exact ne_arr (f8.keep Kc19) (hw _ (List.mem_of_getElem? (i := 1) rfl)) A_)))
  have f32 : Fld Z h23 a1 "com/example/concordia/concordia/index/LinkedCode" "program" "Lcom/example/concordia/concordia/index/Program;" (.ref pg) := (p19_5.other W23 (Or.inl (by obtain ⟨_, A_, -⟩ := id f21; exact ne_arr (f8.keep Kc19) (hw _ (List.mem_of_getElem? (i := 1) rfl)) A_)))
  have f29 : Fld Z h23 a1 "com/example/concordia/concordia/index/LinkedCode" "code" "[I" (.ref cd) := (p19_0.other W23 (Or.inl (by obtain ⟨_, A_, -⟩ := id f21; exact ne_arr (f8.keep Kc19) (hw _ (List.mem_of_getElem? (i := 1) rfl)) A_)))
  have f30 : Fld Z h23 a1 "com/example/concordia/concordia/index/LinkedCode" "liveInstructions" "I" (.int (li + (1 : Int32))) := (p19_2.other W23 (Or.inl (by obtain ⟨_, A_, -⟩ := id f21; exact ne_arr (f8.keep Kc19) (hw _ (List.mem_of_getElem? (i := 1) rfl)) A_)))
  have f31 : Fld Z h23 a1 "com/example/concordia/concordia/index/LinkedCode" "roots" "[I" (.ref rt) := (p19_3.other W23 (Or.inl (by obtain ⟨_, A_, -⟩ := id f21; exact ne_arr (f8.keep Kc19) (hw _ (List.mem_of_getElem? (i := 1) rfl)) A_)))
  have f32 : Fld Z h23 a1 "com/example/concordia/concordia/index/LinkedCode" "program" "Lcom/example/concordia/concordia/index/Program;" (.ref pg) := (p19_5.other W23 (Or.inl (by obtain ⟨_, A_, -⟩ := id f21; exact ne_arr (f8.keep Kc19) (hw _ (List.mem_of_getElem? (i := 1) rfl)) A_)))
  obtain ⟨fs, hr, hrun, hended, hW, hsame⟩ := X27.leave (v := none) (fun _ => rfl)
  refine ⟨_, _, pre0 _ ?_, hrun, hended, _, _, rfl, ?_, ⟨_, rfl⟩, hW, hsame.mono (by decide) (by decide)⟩
  · show Steps p.tables e below (s₁.setTop (mkF m 0 #[.val (.ref a1), .val (.int (3 : Int32)), .val (.ref pg), .val (.int p4), .unset, .unset, .unset, .unset, .unset, .unset] [])) _
    refine XS.aloadN X0.here hx rfl (hb hby d21_0) rfl rfl ?_
    show Steps p.tables e below (s₁.setTop (mkF m 1 #[.val (.ref a1), .val (.int (3 : Int32)), .val (.ref pg), .val (.int p4), .unset, .unset, .unset, .unset, .unset, .unset] [(.ref a1)])) _
    refine XS.aloadN X0.here hx rfl (hb hby d21_1) rfl rfl ?_
    show Steps p.tables e below (s₁.setTop (mkF m 2 #[.val (.ref a1), .val (.int (3 : Int32)), .val (.ref pg), .val (.int p4), .unset, .unset, .unset, .unset, .unset, .unset] [(.ref pg), (.ref a1)])) _
    refine st1 _ ?_
    show Steps p.tables e below (T1.setTop (mkF m 5 #[.val (.ref a1), .val (.int (3 : Int32)), .val (.ref pg), .val (.int p4), .unset, .unset, .unset, .unset, .unset, .unset] [])) _
    refine XS.aloadN X1.here hx rfl (hb hby d21_5) rfl rfl ?_
    show Steps p.tables e below (T1.setTop (mkF m 6 #[.val (.ref a1), .val (.int (3 : Int32)), .val (.ref pg), .val (.int p4), .unset, .unset, .unset, .unset, .unset, .unset] [(.ref a1)])) _
    refine st4 _ ?_
    show Steps p.tables e below (T4.setTop (mkF m 9 #[.val (.ref a1), .val (.int (3 : Int32)), .val (.ref pg), .val (.int p4), .unset, .unset, .unset, .unset, .unset, .unset] [(.ref rt)])) _
    refine XS.iloadN X4.here hx rfl (hb hby d21_9) rfl ?_
    show Steps p.tables e below (T4.setTop (mkF m 10 #[.val (.ref a1), .val (.int (3 : Int32)), .val (.ref pg), .val (.int p4), .unset, .unset, .unset, .unset, .unset, .unset] [(.int (3 : Int32)), (.ref rt)])) _
    refine X4.iaload hx (j := (3 : Int32)) (v := (.int r3)) (by rw [e4]; exact Ar6.1) (State.isArrayOf_alike hZ.alike Ar6.2.1) Ar6.2.2 (inb_of Sz6 ⟨by decide, by decide⟩) (Has.at Hs6 (inb_of Sz6 ⟨by decide, by decide⟩) rfl) (g := (mkF m 10 #[.val (.ref a1), .val (.int (3 : Int32)), .val (.ref pg), .val (.int p4), .unset, .unset, .unset, .unset, .unset, .unset] [(.int (3 : Int32)), (.ref rt)])) rfl rfl (hb hby d21_10) _ ?_
    show Steps p.tables e below (T4.setTop (mkF m 11 #[.val (.ref a1), .val (.int (3 : Int32)), .val (.ref pg), .val (.int p4), .unset, .unset, .unset, .unset, .unset, .unset] [(.int r3)])) _
    refine XS.iconst X4.here hx rfl (hb hby d21_11) ?_
    show Steps p.tables e below (T4.setTop (mkF m 12 #[.val (.ref a1), .val (.int (3 : Int32)), .val (.ref pg), .val (.int p4), .unset, .unset, .unset, .unset, .unset, .unset] [(.int (-1 : Int32)), (.int r3)])) _
    refine XS.icmpNo X4.here hx rfl (hb hby d21_12) rfl (teq hrj).2 ?_
    show Steps p.tables e below (T4.setTop (mkF m 15 #[.val (.ref a1), .val (.int (3 : Int32)), .val (.ref pg), .val (.int p4), .unset, .unset, .unset, .unset, .unset, .unset] [])) _
    refine XS.aloadN X4.here hx rfl (hb hby d21_15) rfl rfl ?_
    show Steps p.tables e below (T4.setTop (mkF m 16 #[.val (.ref a1), .val (.int (3 : Int32)), .val (.ref pg), .val (.int p4), .unset, .unset, .unset, .unset, .unset, .unset] [(.ref a1)])) _
    refine st7 _ ?_
    show Steps p.tables e below (T7.setTop (mkF m 19 #[.val (.ref a1), .val (.int (3 : Int32)), .val (.ref pg), .val (.int p4), .unset, .unset, .unset, .unset, .unset, .unset] [(.ref rt)])) _
    refine XS.iloadN X7.here hx rfl (hb hby d21_19) rfl ?_
    show Steps p.tables e below (T7.setTop (mkF m 20 #[.val (.ref a1), .val (.int (3 : Int32)), .val (.ref pg), .val (.int p4), .unset, .unset, .unset, .unset, .unset, .unset] [(.int (3 : Int32)), (.ref rt)])) _
    refine XS.aloadN X7.here hx rfl (hb hby d21_20) rfl rfl ?_
    show Steps p.tables e below (T7.setTop (mkF m 21 #[.val (.ref a1), .val (.int (3 : Int32)), .val (.ref pg), .val (.int p4), .unset, .unset, .unset, .unset, .unset, .unset] [(.ref a1), (.int (3 : Int32)), (.ref rt)])) _
    refine XS.iconst X7.here hx rfl (hb hby d21_21) ?_
    show Steps p.tables e below (T7.setTop (mkF m 22 #[.val (.ref a1), .val (.int (3 : Int32)), .val (.ref pg), .val (.int p4), .unset, .unset, .unset, .unset, .unset, .unset] [(.int (0 : Int32)), (.ref a1), (.int (3 : Int32)), (.ref rt)])) _
    refine XS.iloadN X7.here hx rfl (hb hby d21_22) rfl ?_
    show Steps p.tables e below (T7.setTop (mkF m 23 #[.val (.ref a1), .val (.int (3 : Int32)), .val (.ref pg), .val (.int p4), .unset, .unset, .unset, .unset, .unset, .unset] [(.int p4), (.int (0 : Int32)), (.ref a1), (.int (3 : Int32)), (.ref rt)])) _
    refine st19.trans ?_
    show Steps p.tables e below (T19.setTop (mkF m 26 #[.val (.ref a1), .val (.int (3 : Int32)), .val (.ref pg), .val (.int p4), .unset, .unset, .unset, .unset, .unset, .unset] [(.int sz), (.int (3 : Int32)), (.ref rt)])) _
    refine st23 _ ?_
    show Steps p.tables e below (T23.setTop (mkF m 27 #[.val (.ref a1), .val (.int (3 : Int32)), .val (.ref pg), .val (.int p4), .unset, .unset, .unset, .unset, .unset, .unset] [])) _
    refine XS.aloadN X23.here hx rfl (hb hby d21_27) rfl rfl ?_
    show Steps p.tables e below (T23.setTop (mkF m 28 #[.val (.ref a1), .val (.int (3 : Int32)), .val (.ref pg), .val (.int p4), .unset, .unset, .unset, .unset, .unset, .unset] [(.ref a1)])) _
    refine st27.trans ?_
    show Steps p.tables e below (T27.setTop (mkF m 31 #[.val (.ref a1), .val (.int (3 : Int32)), .val (.ref pg), .val (.int p4), .unset, .unset, .unset, .unset, .unset, .unset] [])) _
    exact X27.returnOut hx Bd.returns (hb hby d21_31) hr
  · show Q_rm_ad3 Z a1 pg p4 cd sz li rt il kr v1 r0 r1 r2 r3 h0 n0 _ T27.heap _
    rw [e27]
    exact ⟨rfl, N27, K24, f29, f25, f30, f31, f26, f32, f23⟩
theorem pd__40Lcom_47example_47concordia_47concordia_47expr_47ExpressionStore_59_41V : parseMethodDescriptor "(Lcom/example/concordia/concordia/expr/ExpressionStore;)V" = some ⟨[(.object "com/example/concordia/concordia/expr/ExpressionStore")], none⟩ := by decide +kernel
theorem pd__40_41Z : parseMethodDescriptor "()Z" = some ⟨[], some .boolean⟩ := by decide +kernel
theorem pd__40ILcom_47example_47concordia_47concordia_47index_47Program_59I_41V : parseMethodDescriptor "(ILcom/example/concordia/concordia/index/Program;I)V" = some ⟨[.int, (.object "com/example/concordia/concordia/index/Program"), .int], none⟩ := by decide +kernel
theorem pn_com_example_concordia_concordia_index_LinkedCodeIsEmptyPinLaw : plainName "com/example/concordia/concordia/index/LinkedCodeIsEmptyPinLaw" = true := by first | (simp [plainName, overriddenIn]; done) | decide +kernel
theorem ef_rm0 (m : MethodId) (x0 : Int32) (x1 : Int32) : entryFrame m #[(.int x0), (.int x1)] maxLocals = mkF m 0 #[.val (.int x0), .val (.int x1), .unset, .unset, .unset, .unset, .unset] [] := by first | (simp [entryFrame, mkF, argsToLocals, Value.category, maxLocals]; done) | rfl
def Q_rm0 (Z : State) (p1 : Int32) (p2 : Int32) (wD : Addr) (h0 : Heap) (n0 : Nat) (v : Option Value) (h : Heap) (L : List Loc) : Prop := v = some (.int (1 : Int32)) ∧ Fr n0 L
set_option maxRecDepth 65536 in
set_option maxHeartbeats 40000000 in
theorem rm0 (l : Launch) (Z : State) (a0 : Array Value) (hw : ∀ d ∈ tables_1, d.before a0 Z = true) (ws : List Jvm.Cond) (p1 : Int32) (p2 : Int32) (wD : Addr) (h0 : Heap) (n0 : Nat) (Z0 : n0 ≤ h0.size) (pr0 : Sta Z Z.heap "java/util/ArrayList" "DEFAULTCAPACITY_EMPTY_ELEMENTDATA" "[Ljava/lang/Object;" (.ref wD)) (pr1 : Old Z n0 h0) :
    MetFree l x (head1 (Jvm.Cond.code x code maxLocals ret :: ws) room_1) (fun a U => a = #[(.int p1), (.int p2)] ∧ Z.Warmed39 U.vm ∧ U.heap = h0) (fun _ _ _ _ _ => True) (fun _ U o U' => ∃ v L, o = .returned v ∧ Q_rm0 Z p1 p2 wD h0 n0 v U'.heap L ∧ FrameEnd U o U' L room_1.cells room_1.slots) := by
  refine MetFree.of_bodySF (plainFor_of_name pn_com_example_concordia_concordia_index_LinkedCodeIsEmptyPinLaw) hisR ?_
  intro p e s m args below meth c s₁ Bd hml0 hP hK
  obtain ⟨rfl, hZ, hh⟩ := hP
  have hx := Bd.exec
  have hby := Bd.bytes
  have hml : c.maxLocals = 7 := hml0
  have hown : s.vm.findClass "com/example/concordia/concordia/index/LinkedCodeIsEmptyPinLaw" = some m.cls := findClass_of_methodNamed Bd.named
  have hnm := (name_of_methodNamed Bd.named Bd.method).1
  have X0 : Stand p l e room_1 s m #[(.int p1), (.int p2)] below meth c s₁ [] 0 0 := Stand.of_body Bd
  have e0 : s₁.heap = h0 := by rw [← hh, Bd.state]; rfl
  have N0 := Fr.nil n0
  have pre0 : ∀ t, Steps p.tables e below (s₁.setTop (mkF m 0 #[.val (.int p1), .val (.int p2), .unset, .unset, .unset, .unset, .unset] [])) t → Steps p.tables e below (s₁.setTop (entryFrame m #[(.int p1), (.int p2)] maxLocals)) t := fun t k => castTop (ef_rm0 m p1 p2) k
  obtain ⟨T1, h1, X1, e1, E1, A1, D1, -, st1⟩ := newO X0 hx hZ hown (hw _ (List.mem_of_getElem? (i := 0) rfl)) (hw _ (List.mem_of_getElem? (i := 1) rfl)) (hw _ (List.mem_of_getElem? (i := 2) rfl)) e0 (g := (mkF m 0 #[.val (.int p1), .val (.int p2), .unset, .unset, .unset, .unset, .unset] [])) rfl (hb hby at_0) (by decide) (by decide)
  obtain ⟨b1, g1⟩ : ∃ z, z = h0.size := ⟨_, rfl⟩
  rw [← g1] at A1 D1 st1
  have gnb1 : n0 ≤ b1 := Nat.le_trans (Nat.le_trans Z0 (Keep.refl h0 []).1) (Nat.le_of_eq g1.symm)
  have gzb1 : h0.size ≤ b1 := Nat.le_trans (Keep.refl h0 []).1 (Nat.le_of_eq g1.symm)
  have K2 : Keep h0 h1 [] := (Keep.refl h0 []).ext E1
  have f3 : Fld Z h1 b1 "com/example/concordia/concordia/index/LinkedCode" "code" "[I" .null := D1 (Or.inl (hw _ (List.mem_of_getElem? (i := 117) rfl))) (ty := (.array .int)) (by decide)
  have f4 : Fld Z h1 b1 "com/example/concordia/concordia/index/LinkedCode" "roots" "[I" .null := D1 (Or.inr (hw _ (List.mem_of_getElem? (i := 119) rfl))) (ty := (.array .int)) (by decide)
  have f5 : Fld Z h1 b1 "com/example/concordia/concordia/index/LinkedCode" "layOutAt" "I" (.int (0 : Int32)) := D1 (Or.inl (hw _ (List.mem_of_getElem? (i := 121) rfl))) (ty := .int) (by decide)
  have f6 : Fld Z h1 b1 "com/example/concordia/concordia/index/LinkedCode" "switchedChecks" "Lcom/example/concordia/concordia/index/ChildrenByLabel;" .null := D1 (Or.inr (hw _ (List.mem_of_getElem? (i := 142) rfl))) (ty := (.object "com/example/concordia/concordia/index/ChildrenByLabel")) (by decide)
  have f7 : Fld Z h1 b1 "com/example/concordia/concordia/index/LinkedCode" "tailCells" "Lcom/example/concordia/concordia/expr/IntList;" .null := D1 (Or.inr (hw _ (List.mem_of_getElem? (i := 146) rfl))) (ty := (.object "com/example/concordia/concordia/expr/IntList")) (by decide)
  have f8 : Fld Z h1 b1 "com/example/concordia/concordia/index/LinkedCode" "path" "[I" .null := D1 (Or.inl (hw _ (List.mem_of_getElem? (i := 148) rfl))) (ty := (.array .int)) (by decide)
  have f9 : Fld Z h1 b1 "com/example/concordia/concordia/index/LinkedCode" "pathChains" "[I" .null := D1 (Or.inl (hw _ (List.mem_of_getElem? (i := 150) rfl))) (ty := (.array .int)) (by decide)
  have f10 : Fld Z h1 b1 "com/example/concordia/concordia/index/LinkedCode" "layoutWork" "Lcom/example/concordia/concordia/expr/IntList;" .null := D1 (Or.inr (hw _ (List.mem_of_getElem? (i := 152) rfl))) (ty := (.object "com/example/concordia/concordia/expr/IntList")) (by decide)
  have f11 : Fld Z h1 b1 "com/example/concordia/concordia/index/LinkedCode" "chainMembers" "Lcom/example/concordia/concordia/expr/IntList;" .null := D1 (Or.inr (hw _ (List.mem_of_getElem? (i := 154) rfl))) (ty := (.object "com/example/concordia/concordia/expr/IntList")) (by decide)
  have f12 : Fld Z h1 b1 "com/example/concordia/concordia/index/LinkedCode" "store" "Lcom/example/concordia/concordia/expr/ExpressionStore;" .null := D1 (Or.inr (hw _ (List.mem_of_getElem? (i := 156) rfl))) (ty := (.object "com/example/concordia/concordia/expr/ExpressionStore")) (by decide)
  have f13 : Fld Z h1 b1 "com/example/concordia/concordia/index/LinkedCode" "program" "Lcom/example/concordia/concordia/index/Program;" .null := D1 (Or.inl (hw _ (List.mem_of_getElem? (i := 183) rfl))) (ty := (.object "com/example/concordia/concordia/index/Program")) (by decide)
  have f14 : Fld Z h1 b1 "com/example/concordia/concordia/index/LinkedCode" "codeSize" "I" (.int (0 : Int32)) := D1 (Or.inl (hw _ (List.mem_of_getElem? (i := 189) rfl))) (ty := .int) (by decide)
  have f15 : Fld Z h1 b1 "com/example/concordia/concordia/index/LinkedCode" "liveInstructions" "I" (.int (0 : Int32)) := D1 (Or.inl (hw _ (List.mem_of_getElem? (i := 222) rfl))) (ty := .int) (by decide)
  obtain ⟨T16, h16, X16, e16, E16, A16, D16, -, st16⟩ := newO X1 hx hZ hown (hw _ (List.mem_of_getElem? (i := 3) rfl)) (hw _ (List.mem_of_getElem? (i := 4) rfl)) (hw _ (List.mem_of_getElem? (i := 5) rfl)) e1 (g := (mkF m 4 #[.val (.int p1), .val (.int p2), .unset, .unset, .unset, .unset, .unset] [(.ref b1), (.ref b1)])) rfl (hb hby at_4) (by decide) (by decide)
  obtain ⟨b16, g16⟩ : ∃ z, z = h1.size := ⟨_, rfl⟩
  rw [← g16] at A16 D16 st16
  have gnb16 : n0 ≤ b16 := Nat.le_trans (Nat.le_trans Z0 K2.1) (Nat.le_of_eq g16.symm)
  have gzb16 : h0.size ≤ b16 := Nat.le_trans K2.1 (Nat.le_of_eq g16.symm)
  have K17 : Keep h0 h16 [] := K2.ext E16
  have f18 : Fld Z h16 b16 "com/example/concordia/concordia/expr/ExpressionStore" "symbols" "Lcom/example/concordia/concordia/expr/SymbolTable;" .null := D16 (Or.inr (hw _ (List.mem_of_getElem? (i := 76) rfl))) (ty := (.object "com/example/concordia/concordia/expr/SymbolTable")) (by decide)
  have f19 : Fld Z h16 b16 "com/example/concordia/concordia/expr/ExpressionStore" "cells" "Lcom/example/concordia/concordia/expr/CellArray;" .null := D16 (Or.inl (hw _ (List.mem_of_getElem? (i := 106) rfl))) (ty := (.object "com/example/concordia/concordia/expr/CellArray")) (by decide)
  have f20 : Old Z n0 h16 := ((pr1.ext E1).ext E16)
  obtain ⟨_, _, ⟨T21, L21, k21, n21⟩, -, X21, ⟨Lc21, hQ21, l21, y21, z21⟩, st21⟩ := X16.specialBack hx (y := (⟨"com/example/concordia/concordia/expr/ExpressionStore", "<init>", "()V"⟩ : MethodName)) rfl hown (mvT hZ (hw _ (List.mem_of_getElem? (i := 6) rfl))) (mvT hZ (hw _ (List.mem_of_getElem? (i := 7) rfl))) (mvT hZ (hw _ (List.mem_of_getElem? (i := 8) rfl))) (by decide) (backOf (W := 3) (rm_ES l Z a0 hw [] b16 .null .null wD h16 n0 (Nat.le_trans Z0 K17.1) A16 f18 f19 gnb16 pr0 f20) hZ (hw _ (List.mem_of_getElem? (i := 8) rfl)) (hw _ (List.mem_of_getElem? (i := 5) rfl)) (by decide) (by decide)) (g := (mkF m 8 #[.val (.int p1), .val (.int p2), .unset, .unset, .unset, .unset, .unset] [(.ref b16), (.ref b16), (.ref b1), (.ref b1)])) rfl (by rw [hml]; rfl) (Steps.refl _) (a := b16) (argsL := []) (rest := [(.ref b16), (.ref b1), (.ref b1)]) (lenOf pd__40_41V rfl) rfl (by show 2 * 0 + _ ≤ _; exact Nat.le_of_eq rfl) (hb hby at_8) (fun _ _ => ⟨rfl, e16, (by decide : 2 + 9 ≤ _), (by decide : 18 + 820 ≤ _)⟩)
  dsimp only [Pt.U, Pt.locs, Pt.cells, Pt.slots] at X21 l21 y21 z21 st21 hQ21
  subst l21 y21 z21
  obtain ⟨rfl, Nq21, Kc21⟩ := hQ21
  have K22 : Keep h0 T21.heap [] := K17.trans Kc21 (allS (Or.inr gzb16) all0)
  have N21 := Fr.app N0 Nq21
  have f23 : Exa Z T21.heap b1 "com/example/concordia/concordia/index/LinkedCode" := ((A1.ext E16).keep Kc21)
  have f24 : Fld Z T21.heap b1 "com/example/concordia/concordia/index/LinkedCode" "code" "[I" .null := ((f3.ext E16).keep Kc21 (ninS (Nat.ne_of_lt (Nat.lt_of_lt_of_le A1.lt (Nat.le_of_eq g16.symm))) nin0))
  have f25 : Fld Z T21.heap b1 "com/example/concordia/concordia/index/LinkedCode" "roots" "[I" .null := ((f4.ext E16).keep Kc21 (ninS (Nat.ne_of_lt (Nat.lt_of_lt_of_le A1.lt (Nat.le_of_eq g16.symm))) nin0))
  have f26 : Fld Z T21.heap b1 "com/example/concordia/concordia/index/LinkedCode" "layOutAt" "I" (.int (0 : Int32)) := ((f5.ext E16).keep Kc21 (ninS (Nat.ne_of_lt (Nat.lt_of_lt_of_le A1.lt (Nat.le_of_eq g16.symm))) nin0))
  have f27 : Fld Z T21.heap b1 "com/example/concordia/concordia/index/LinkedCode" "switchedChecks" "Lcom/example/concordia/concordia/index/ChildrenByLabel;" .null := ((f6.ext E16).keep Kc21 (ninS (Nat.ne_of_lt (Nat.lt_of_lt_of_le A1.lt (Nat.le_of_eq g16.symm))) nin0))
  have f28 : Fld Z T21.heap b1 "com/example/concordia/concordia/index/LinkedCode" "tailCells" "Lcom/example/concordia/concordia/expr/IntList;" .null := ((f7.ext E16).keep Kc21 (ninS (Nat.ne_of_lt (Nat.lt_of_lt_of_le A1.lt (Nat.le_of_eq g16.symm))) nin0))
  have f29 : Fld Z T21.heap b1 "com/example/concordia/concordia/index/LinkedCode" "path" "[I" .null := ((f8.ext E16).keep Kc21 (ninS (Nat.ne_of_lt (Nat.lt_of_lt_of_le A1.lt (Nat.le_of_eq g16.symm))) nin0))
  have f30 : Fld Z T21.heap b1 "com/example/concordia/concordia/index/LinkedCode" "pathChains" "[I" .null := ((f9.ext E16).keep Kc21 (ninS (Nat.ne_of_lt (Nat.lt_of_lt_of_le A1.lt (Nat.le_of_eq g16.symm))) nin0))
  have f31 : Fld Z T21.heap b1 "com/example/concordia/concordia/index/LinkedCode" "layoutWork" "Lcom/example/concordia/concordia/expr/IntList;" .null := ((f10.ext E16).keep Kc21 (ninS (Nat.ne_of_lt (Nat.lt_of_lt_of_le A1.lt (Nat.le_of_eq g16.symm))) nin0))
  have f32 : Fld Z T21.heap b1 "com/example/concordia/concordia/index/LinkedCode" "chainMembers" "Lcom/example/concordia/concordia/expr/IntList;" .null := ((f11.ext E16).keep Kc21 (ninS (Nat.ne_of_lt (Nat.lt_of_lt_of_le A1.lt (Nat.le_of_eq g16.symm))) nin0))
  have f33 : Fld Z T21.heap b1 "com/example/concordia/concordia/index/LinkedCode" "store" "Lcom/example/concordia/concordia/expr/ExpressionStore;" .null := ((f12.ext E16).keep Kc21 (ninS (Nat.ne_of_lt (Nat.lt_of_lt_of_le A1.lt (Nat.le_of_eq g16.symm))) nin0))
  have f34 : Fld Z T21.heap b1 "com/example/concordia/concordia/index/LinkedCode" "codeSize" "I" (.int (0 : Int32)) := ((f14.ext E16).keep Kc21 (ninS (Nat.ne_of_lt (Nat.lt_of_lt_of_le A1.lt (Nat.le_of_eq g16.symm))) nin0))
  have f35 : Fld Z T21.heap b1 "com/example/concordia/concordia/index/LinkedCode" "liveInstructions" "I" (.int (0 : Int32)) := ((f15.ext E16).keep Kc21 (ninS (Nat.ne_of_lt (Nat.lt_of_lt_of_le A1.lt (Nat.le_of_eq g16.symm))) nin0))
  have f36 : Fld Z T21.heap b1 "com/example/concordia/concordia/index/LinkedCode" "program" "Lcom/example/concordia/concordia/index/Program;" .null := ((f13.ext E16).keep Kc21 (ninS (Nat.ne_of_lt (Nat.lt_of_lt_of_le A1.lt (Nat.le_of_eq g16.symm))) nin0))
  obtain ⟨_, _, ⟨T37, L37, k37, n37⟩, -, X37, ⟨Lc37, hQ37, l37, y37, z37⟩, st37⟩ := X21.specialBack hx (y := (⟨"com/example/concordia/concordia/index/LinkedCode", "<init>", "(Lcom/example/concordia/concordia/expr/ExpressionStore;)V"⟩ : MethodName)) rfl hown (mvT hZ (hw _ (List.mem_of_getElem? (i := 107) rfl))) (mvT hZ (hw _ (List.mem_of_getElem? (i := 108) rfl))) (mvT hZ (hw _ (List.mem_of_getElem? (i := 109) rfl))) (by decide) (backOf (W := 1) (rm_LK l Z a0 hw [] b1 b16 .null .null (.int (0 : Int32)) .null .null .null .null .null .null .null (.int (0 : Int32)) .null T21.heap n0 (Nat.le_trans Z0 K22.1) f23 f24 f25 f26 f27 f28 f29 f30 f31 f32 f33 f34 f35 f36 gnb1) hZ (hw _ (List.mem_of_getElem? (i := 109) rfl)) (hw _ (List.mem_of_getElem? (i := 2) rfl)) (by decide) (by decide)) (g := (mkF m 11 #[.val (.int p1), .val (.int p2), .unset, .unset, .unset, .unset, .unset] [(.ref b16), (.ref b1), (.ref b1)])) rfl (by rw [hml]; rfl) (Steps.refl _) (a := b1) (argsL := [(.ref b16)]) (rest := [(.ref b1)]) (lenOf pd__40Lcom_47example_47concordia_47concordia_47expr_47ExpressionStore_59_41V rfl) rfl (by show 2 * 0 + _ ≤ _; exact Nat.le_of_eq rfl) (hb hby at_11) (fun _ _ => ⟨rfl, rfl, (by decide : 11 + 13 ≤ _), (by decide : 838 + 285 ≤ _)⟩)
  dsimp only [Pt.U, Pt.locs, Pt.cells, Pt.slots] at X37 l37 y37 z37 st37 hQ37
  subst l37 y37 z37
  obtain ⟨cd_37, rt_37, kr_37, rfl, Nq37, Kc37, p37_0, p37_1, p37_2, p37_3, p37_4, p37_5, p37_6, p37_7, p37_8, p37_9, p37_10⟩ := hQ37
  have gzcd_37 : h0.size ≤ cd_37 := Nat.le_trans K22.1 p37_0
  have gncd_37 : n0 ≤ cd_37 := Nat.le_trans Z0 gzcd_37
  have gzrt_37 : h0.size ≤ rt_37 := Nat.le_trans K22.1 p37_1
  have gnrt_37 : n0 ≤ rt_37 := Nat.le_trans Z0 gzrt_37
  have K40 : Keep h0 T37.heap [] := K22.trans Kc37 (allS (Or.inr gzb1) all0)
  have N37 := Fr.app N21 Nq37
  obtain ⟨T41, h41, X41, e41, E41, A41, D41, -, st41⟩ := newO X37 hx hZ hown (hw _ (List.mem_of_getElem? (i := 157) rfl)) (hw _ (List.mem_of_getElem? (i := 158) rfl)) (hw _ (List.mem_of_getElem? (i := 159) rfl)) rfl (g := (mkF m 15 #[.val (.int p1), .val (.int p2), .val (.ref b1), .unset, .unset, .unset, .unset] [])) rfl (hb hby at_15) (by decide) (by decide)
  obtain ⟨b41, g41⟩ : ∃ z, z = T37.heap.size := ⟨_, rfl⟩
  rw [← g41] at A41 D41 st41
  have gnb41 : n0 ≤ b41 := Nat.le_trans (Nat.le_trans Z0 K40.1) (Nat.le_of_eq g41.symm)
  have gzb41 : h0.size ≤ b41 := Nat.le_trans K40.1 (Nat.le_of_eq g41.symm)
  have K42 : Keep h0 h41 [] := K40.ext E41
  have f43 : Fld Z h41 b41 "com/example/concordia/concordia/index/Program" "instructions" "Lcom/example/concordia/concordia/expr/IntList;" .null := D41 (Or.inr (hw _ (List.mem_of_getElem? (i := 167) rfl))) (ty := (.object "com/example/concordia/concordia/expr/IntList")) (by decide)
  have f44 : Fld Z h41 b41 "com/example/concordia/concordia/index/Program" "registersBefore" "Lcom/example/concordia/concordia/expr/IntList;" .null := D41 (Or.inr (hw _ (List.mem_of_getElem? (i := 169) rfl))) (ty := (.object "com/example/concordia/concordia/expr/IntList")) (by decide)
  have f45 : Fld Z h41 b41 "com/example/concordia/concordia/index/Program" "openBefore" "Lcom/example/concordia/concordia/expr/IntList;" .null := D41 (Or.inr (hw _ (List.mem_of_getElem? (i := 171) rfl))) (ty := (.object "com/example/concordia/concordia/expr/IntList")) (by decide)
  have f46 : Fld Z h41 b41 "com/example/concordia/concordia/index/Program" "lastLiteralFrom" "I" (.int (0 : Int32)) := D41 (Or.inl (hw _ (List.mem_of_getElem? (i := 196) rfl))) (ty := .int) (by decide)
  obtain ⟨_, _, ⟨T47, L47, k47, n47⟩, -, X47, ⟨Lc47, hQ47, l47, y47, z47⟩, st47⟩ := X41.specialBack hx (y := (⟨"com/example/concordia/concordia/index/Program", "<init>", "()V"⟩ : MethodName)) rfl hown (mvT hZ (hw _ (List.mem_of_getElem? (i := 160) rfl))) (mvT hZ (hw _ (List.mem_of_getElem? (i := 161) rfl))) (mvT hZ (hw _ (List.mem_of_getElem? (i := 162) rfl))) (by decide) (backOf (W := 1) (rm_PG l Z a0 hw [] b41 .null .null .null h41 n0 (Nat.le_trans Z0 K42.1) A41 f43 f44 f45 f46 gnb41) hZ (hw _ (List.mem_of_getElem? (i := 162) rfl)) (hw _ (List.mem_of_getElem? (i := 159) rfl)) (by decide) (by decide)) (g := (mkF m 19 #[.val (.int p1), .val (.int p2), .val (.ref b1), .unset, .unset, .unset, .unset] [(.ref b41), (.ref b41)])) rfl (by rw [hml]; rfl) (Steps.refl _) (a := b41) (argsL := []) (rest := [(.ref b41)]) (lenOf pd__40_41V rfl) rfl (by show 2 * 0 + _ ≤ _; exact Nat.le_of_eq rfl) (hb hby at_19) (fun _ _ => ⟨rfl, e41, (by decide : 25 + 6 ≤ _), (by decide : 1129 + 54 ≤ _)⟩)
  dsimp only [Pt.U, Pt.locs, Pt.cells, Pt.slots] at X47 l47 y47 z47 st47 hQ47
  subst l47 y47 z47
  obtain ⟨il_47, rfl, Nq47, Kc47, p47_0, p47_1, p47_2, p47_3, p47_4⟩ := hQ47
  have gzil_47 : h0.size ≤ il_47 := Nat.le_trans K42.1 p47_0
  have gnil_47 : n0 ≤ il_47 := Nat.le_trans Z0 gzil_47
  have K49 : Keep h0 T47.heap [] := K42.trans Kc47 (allS (Or.inr gzb41) all0)
  have N47 := Fr.app N37 Nq47
  have f50 : Fld Z T47.heap b1 "com/example/concordia/concordia/index/LinkedCode" "roots" "[I" (.ref rt_37) := ((p37_5.ext E41).keep Kc47 (ninS (Nat.ne_of_lt (Nat.lt_of_lt_of_le (f23.keep Kc37).lt (Nat.le_of_eq g41.symm))) nin0))
  have f51 : Arv Z T47.heap rt_37 kr_37 .int (4 : Int32) [(.int (-1 : Int32)), (.int (-1 : Int32)), (.int (-1 : Int32)), (.int (-1 : Int32))] (.int (0 : Int32)) := ((p37_6.ext E41).keep Kc47 (ninS (Nat.ne_of_lt (Nat.lt_of_lt_of_le p37_6.lt (Nat.le_of_eq g41.symm))) nin0))
  have f53 : Exa Z T47.heap b1 "com/example/concordia/concordia/index/LinkedCode" := (((f23.keep Kc37).ext E41).keep Kc47)
  obtain ⟨cq52, kq52, q52a, q52b, q52c⟩ := isOf hZ rfl f53
  obtain ⟨_, _, ⟨T52, L52, k52, n52⟩, -, X52, ⟨Lc52, hQ52, l52, y52, z52⟩, st52⟩ := X47.virtualBack hx (y := (⟨"com/example/concordia/concordia/index/LinkedCode", "isEmpty", "()Z"⟩ : MethodName)) (z := (⟨"com/example/concordia/concordia/index/LinkedCode", "isEmpty", "()Z"⟩ : MethodName)) hown (mvT hZ (hw _ (List.mem_of_getElem? (i := 172) rfl))) (mvT hZ (hw _ (List.mem_of_getElem? (i := 173) rfl))) (notFace_of_selects (args := #[]) (mvT hZ (hw _ (List.mem_of_getElem? (i := 175) rfl)))) (mvT hZ (hw _ (List.mem_of_getElem? (i := 175) rfl))) (mvT hZ (hw _ (List.mem_of_getElem? (i := 174) rfl))) (by decide) (backOf (W := 0) (rm_em4 l Z a0 hw [] b1 rt_37 kr_37 (-1 : Int32) (-1 : Int32) (-1 : Int32) (-1 : Int32) T47.heap n0 (Nat.le_trans Z0 K49.1) f50 f51 (by decide : (-1 : Int32) = (-1 : Int32)) (by decide : (-1 : Int32) = (-1 : Int32)) (by decide : (-1 : Int32) = (-1 : Int32)) (by decide : (-1 : Int32) = (-1 : Int32))) hZ (hw _ (List.mem_of_getElem? (i := 176) rfl)) (hw _ (List.mem_of_getElem? (i := 2) rfl)) (by decide) (by decide)) q52a q52c (g := (mkF m 24 #[.val (.int p1), .val (.int p2), .val (.ref b1), .val (.ref b41), .unset, .unset, .unset] [(.ref b1)])) rfl (by rw [hml]; rfl) (Steps.refl _) (argsL := []) (rest := []) (lenOf pd__40_41Z rfl) rfl (by show 2 * 0 + _ ≤ _; exact Nat.le_of_eq rfl) (hb hby at_24) (fun _ _ => ⟨rfl, rfl, (by decide : 31 + 0 ≤ _), (by decide : 1183 + 0 ≤ _)⟩)
  dsimp only [Pt.U, Pt.locs, Pt.cells, Pt.slots] at X52 l52 y52 z52 st52 hQ52
  subst l52 y52 z52
  obtain ⟨rfl, Nq52, e52⟩ := hQ52
  have N52 := Fr.app N47 Nq52
  by_cases hc1 : ((p1 &&& (15 : Int32)) &&& (1 : Int32)) = (0 : Int32)
  · by_cases hc2 : ((p1 &&& (15 : Int32)) &&& (2 : Int32)) = (0 : Int32)
    · by_cases hc3 : ((p1 &&& (15 : Int32)) &&& (4 : Int32)) = (0 : Int32)
      · by_cases hc4 : ((p1 &&& (15 : Int32)) &&& (8 : Int32)) = (0 : Int32)
        · obtain ⟨cq54, kq54, q54a, q54b, q54c⟩ := isOf hZ e52 f53
          obtain ⟨_, _, ⟨T54, L54, k54, n54⟩, -, X54, ⟨Lc54, hQ54, l54, y54, z54⟩, st54⟩ := X52.virtualBack hx (y := (⟨"com/example/concordia/concordia/index/LinkedCode", "isEmpty", "()Z"⟩ : MethodName)) (z := (⟨"com/example/concordia/concordia/index/LinkedCode", "isEmpty", "()Z"⟩ : MethodName)) hown (mvT hZ (hw _ (List.mem_of_getElem? (i := 172) rfl))) (mvT hZ (hw _ (List.mem_of_getElem? (i := 173) rfl))) (notFace_of_selects (args := #[]) (mvT hZ (hw _ (List.mem_of_getElem? (i := 175) rfl)))) (mvT hZ (hw _ (List.mem_of_getElem? (i := 175) rfl))) (mvT hZ (hw _ (List.mem_of_getElem? (i := 174) rfl))) (by decide) (backOf (W := 0) (rm_em4 l Z a0 hw [] b1 rt_37 kr_37 (-1 : Int32) (-1 : Int32) (-1 : Int32) (-1 : Int32) T47.heap n0 (Nat.le_trans Z0 K49.1) f50 f51 (by decide : (-1 : Int32) = (-1 : Int32)) (by decide : (-1 : Int32) = (-1 : Int32)) (by decide : (-1 : Int32) = (-1 : Int32)) (by decide : (-1 : Int32) = (-1 : Int32))) hZ (hw _ (List.mem_of_getElem? (i := 176) rfl)) (hw _ (List.mem_of_getElem? (i := 2) rfl)) (by decide) (by decide)) q54a q54c (g := (mkF m 93 #[.val (.int p1), .val (.int p2), .val (.ref b1), .val (.ref b41), .val (.int (1 : Int32)), .val (.int (p1 &&& (15 : Int32))), .unset] [(.ref b1)])) rfl (by rw [hml]; rfl) (Steps.refl _) (argsL := []) (rest := []) (lenOf pd__40_41Z rfl) rfl (by show 2 * 0 + _ ≤ _; exact Nat.le_of_eq rfl) (hb hby at_93) (fun _ _ => ⟨rfl, e52, (by decide : 31 + 0 ≤ _), (by decide : 1183 + 0 ≤ _)⟩)
          dsimp only [Pt.U, Pt.locs, Pt.cells, Pt.slots] at X54 l54 y54 z54 st54 hQ54
          subst l54 y54 z54
          obtain ⟨rfl, Nq54, e54⟩ := hQ54
          have N54 := Fr.app N52 Nq54
          obtain ⟨fs, hr, hrun, hended, hW, hsame⟩ := X54.leave (v := some (.int (1 : Int32))) (fun h => by rw [Bd.returns] at h; cases h)
          refine ⟨_, _, pre0 _ ?_, hrun, hended, _, _, rfl, ?_, ⟨_, rfl⟩, hW, hsame.mono (by decide) (by decide)⟩
          · show Steps p.tables e below (s₁.setTop (mkF m 0 #[.val (.int p1), .val (.int p2), .unset, .unset, .unset, .unset, .unset] [])) _
            refine st1 _ ?_
            refine XS.dup X1.here hx rfl (hb hby at_3) rfl rfl ?_
            refine st16 _ ?_
            refine XS.dup X16.here hx rfl (hb hby at_7) rfl rfl ?_
            show Steps p.tables e below (T16.setTop (mkF m 8 #[.val (.int p1), .val (.int p2), .unset, .unset, .unset, .unset, .unset] [(.ref b16), (.ref b16), (.ref b1), (.ref b1)])) _
            refine st21.trans ?_
            refine st37.trans ?_
            refine XS.astoreN X37.here hx rfl (hb hby at_14) rfl rfl (l' := #[.val (.int p1), .val (.int p2), .val (.ref b1), .unset, .unset, .unset, .unset]) rfl ?_
            refine st41 _ ?_
            show Steps p.tables e below (T41.setTop (mkF m 18 #[.val (.int p1), .val (.int p2), .val (.ref b1), .unset, .unset, .unset, .unset] [(.ref b41)])) _
            refine XS.dup X41.here hx rfl (hb hby at_18) rfl rfl ?_
            refine st47.trans ?_
            refine XS.astoreN X47.here hx rfl (hb hby at_22) rfl rfl (l' := #[.val (.int p1), .val (.int p2), .val (.ref b1), .val (.ref b41), .unset, .unset, .unset]) rfl ?_
            refine XS.aloadN X47.here hx rfl (hb hby at_23) rfl rfl ?_
            show Steps p.tables e below (T47.setTop (mkF m 24 #[.val (.int p1), .val (.int p2), .val (.ref b1), .val (.ref b41), .unset, .unset, .unset] [(.ref b1)])) _
            refine st52.trans ?_
            refine XS.istore X52.here hx rfl (hb hby at_27) rfl (l' := #[.val (.int p1), .val (.int p2), .val (.ref b1), .val (.ref b41), .val (.int (1 : Int32)), .unset, .unset]) rfl ?_
            refine XS.iloadN X52.here hx rfl (hb hby at_29) rfl ?_
            refine XS.bipush X52.here hx rfl (hb hby at_30) ?_
            show Steps p.tables e below (T52.setTop (mkF m 32 #[.val (.int p1), .val (.int p2), .val (.ref b1), .val (.ref b41), .val (.int (1 : Int32)), .unset, .unset] [(.int (15 : Int32)), (.int p1)])) _
            refine XS.iand X52.here hx rfl (hb hby at_32) rfl ?_
            refine XS.istore X52.here hx rfl (hb hby at_33) rfl (l' := #[.val (.int p1), .val (.int p2), .val (.ref b1), .val (.ref b41), .val (.int (1 : Int32)), .val (.int (p1 &&& (15 : Int32))), .unset]) rfl ?_
            refine XS.iload X52.here hx rfl (hb hby at_35) rfl ?_
            refine XS.iconst X52.here hx rfl (hb hby at_37) ?_
            show Steps p.tables e below (T52.setTop (mkF m 38 #[.val (.int p1), .val (.int p2), .val (.ref b1), .val (.ref b41), .val (.int (1 : Int32)), .val (.int (p1 &&& (15 : Int32))), .unset] [(.int (1 : Int32)), (.int (p1 &&& (15 : Int32)))])) _
            refine XS.iand X52.here hx rfl (hb hby at_38) rfl ?_
            refine XS.ifYes X52.here hx rfl (pc0 := 39) (pc' := 49) rfl (hb hby at_39) rfl ((if0 _ _).trans (teq hc1).1) (by decide) (by decide) ?_
            refine XS.iload X52.here hx rfl (hb hby at_49) rfl ?_
            refine XS.iconst X52.here hx rfl (hb hby at_51) ?_
            show Steps p.tables e below (T52.setTop (mkF m 52 #[.val (.int p1), .val (.int p2), .val (.ref b1), .val (.ref b41), .val (.int (1 : Int32)), .val (.int (p1 &&& (15 : Int32))), .unset] [(.int (2 : Int32)), (.int (p1 &&& (15 : Int32)))])) _
            refine XS.iand X52.here hx rfl (hb hby at_52) rfl ?_
            refine XS.ifYes X52.here hx rfl (pc0 := 53) (pc' := 63) rfl (hb hby at_53) rfl ((if0 _ _).trans (teq hc2).1) (by decide) (by decide) ?_
            refine XS.iload X52.here hx rfl (hb hby at_63) rfl ?_
            refine XS.iconst X52.here hx rfl (hb hby at_65) ?_
            show Steps p.tables e below (T52.setTop (mkF m 66 #[.val (.int p1), .val (.int p2), .val (.ref b1), .val (.ref b41), .val (.int (1 : Int32)), .val (.int (p1 &&& (15 : Int32))), .unset] [(.int (4 : Int32)), (.int (p1 &&& (15 : Int32)))])) _
            refine XS.iand X52.here hx rfl (hb hby at_66) rfl ?_
            refine XS.ifYes X52.here hx rfl (pc0 := 67) (pc' := 77) rfl (hb hby at_67) rfl ((if0 _ _).trans (teq hc3).1) (by decide) (by decide) ?_
            refine XS.iload X52.here hx rfl (hb hby at_77) rfl ?_
            refine XS.bipush X52.here hx rfl (hb hby at_79) ?_
            show Steps p.tables e below (T52.setTop (mkF m 81 #[.val (.int p1), .val (.int p2), .val (.ref b1), .val (.ref b41), .val (.int (1 : Int32)), .val (.int (p1 &&& (15 : Int32))), .unset] [(.int (8 : Int32)), (.int (p1 &&& (15 : Int32)))])) _
            refine XS.iand X52.here hx rfl (hb hby at_81) rfl ?_
            refine XS.ifYes X52.here hx rfl (pc0 := 82) (pc' := 92) rfl (hb hby at_82) rfl ((if0 _ _).trans (teq hc4).1) (by decide) (by decide) ?_
            refine XS.aloadN X52.here hx rfl (hb hby at_92) rfl rfl ?_
            refine st54.trans ?_
            show Steps p.tables e below (T54.setTop (mkF m 96 #[.val (.int p1), .val (.int p2), .val (.ref b1), .val (.ref b41), .val (.int (1 : Int32)), .val (.int (p1 &&& (15 : Int32))), .unset] [(.int (1 : Int32))])) _
            refine XS.istore X54.here hx rfl (hb hby at_96) rfl (l' := #[.val (.int p1), .val (.int p2), .val (.ref b1), .val (.ref b41), .val (.int (1 : Int32)), .val (.int (p1 &&& (15 : Int32))), .val (.int (1 : Int32))]) rfl ?_
            refine XS.iload X54.here hx rfl (hb hby at_98) rfl ?_
            refine XS.ifNo X54.here hx rfl (hb hby at_100) rfl ((if0 _ _).trans (feq (by decide : ¬ ((1 : Int32) = (0 : Int32)))).1) ?_
            refine XS.iload X54.here hx rfl (hb hby at_103) rfl ?_
            show Steps p.tables e below (T54.setTop (mkF m 105 #[.val (.int p1), .val (.int p2), .val (.ref b1), .val (.ref b41), .val (.int (1 : Int32)), .val (.int (p1 &&& (15 : Int32))), .val (.int (1 : Int32))] [(.int (1 : Int32))])) _
            refine XS.iload X54.here hx rfl (hb hby at_105) rfl ?_
            refine XS.ifNo X54.here hx rfl (hb hby at_107) rfl ((if0 _ _).trans (teq (own_z hc1 hc2 hc3 hc4)).2) ?_
            refine XS.iconst X54.here hx rfl (hb hby at_110) ?_
            refine XS.goto X54.here hx rfl (pc0 := 111) (pc' := 115) rfl (hb hby at_111) (by decide) (by decide) ?_
            show Steps p.tables e below (T54.setTop (mkF m 115 #[.val (.int p1), .val (.int p2), .val (.ref b1), .val (.ref b41), .val (.int (1 : Int32)), .val (.int (p1 &&& (15 : Int32))), .val (.int (1 : Int32))] [(.int (1 : Int32)), (.int (1 : Int32))])) _
            refine XS.icmpNo X54.here hx rfl (hb hby at_115) rfl (teq (by decide : (1 : Int32) = (1 : Int32))).2 ?_
            refine XS.iconst X54.here hx rfl (hb hby at_118) ?_
            refine XS.goto X54.here hx rfl (pc0 := 119) (pc' := 123) rfl (hb hby at_119) (by decide) (by decide) ?_
            exact retN X54 hx (t := .boolean) Bd.returns (by simp) (hb hby at_123) hr
          · show Q_rm0 Z p1 p2 wD h0 n0 _ T54.heap _
            exact ⟨rfl, N54⟩
        · have f55 : Fld Z T47.heap b1 "com/example/concordia/concordia/index/LinkedCode" "code" "[I" (.ref cd_37) := ((p37_3.ext E41).keep Kc47 (ninS (Nat.ne_of_lt (Nat.lt_of_lt_of_le (f23.keep Kc37).lt (Nat.le_of_eq g41.symm))) nin0))
          have f56 : own_Ars Z T47.heap cd_37 .int (64 : Int32) := ((p37_4.ext E41).keep Kc47)
          have f57 : Fld Z T47.heap b1 "com/example/concordia/concordia/index/LinkedCode" "codeSize" "I" (.int (0 : Int32)) := ((p37_8.ext E41).keep Kc47 (ninS (Nat.ne_of_lt (Nat.lt_of_lt_of_le (f23.keep Kc37).lt (Nat.le_of_eq g41.symm))) nin0))
          have f58 : Fld Z T47.heap b1 "com/example/concordia/concordia/index/LinkedCode" "liveInstructions" "I" (.int (0 : Int32)) := ((p37_9.ext E41).keep Kc47 (ninS (Nat.ne_of_lt (Nat.lt_of_lt_of_le (f23.keep Kc37).lt (Nat.le_of_eq g41.symm))) nin0))
          have f59 : Fld Z T47.heap b1 "com/example/concordia/concordia/index/LinkedCode" "layOutAt" "I" (.int (1024 : Int32)) := ((p37_7.ext E41).keep Kc47 (ninS (Nat.ne_of_lt (Nat.lt_of_lt_of_le (f23.keep Kc37).lt (Nat.le_of_eq g41.symm))) nin0))
          have f60 : Fld Z T47.heap b1 "com/example/concordia/concordia/index/LinkedCode" "program" "Lcom/example/concordia/concordia/index/Program;" .null := ((p37_10.ext E41).keep Kc47 (ninS (Nat.ne_of_lt (Nat.lt_of_lt_of_le (f23.keep Kc37).lt (Nat.le_of_eq g41.symm))) nin0))
          have f61 : Exa Z T47.heap b41 "com/example/concordia/concordia/index/Program" := (A41.keep Kc47)
          obtain ⟨cq62, kq62, q62a, q62b, q62c⟩ := isOf hZ e52 f53
          obtain ⟨_, _, ⟨T62, L62, k62, n62⟩, -, X62, ⟨Lc62, hQ62, l62, y62, z62⟩, st62⟩ := X52.virtualBack hx (y := (⟨"com/example/concordia/concordia/index/LinkedCode", "add", "(ILcom/example/concordia/concordia/index/Program;I)V"⟩ : MethodName)) (z := (⟨"com/example/concordia/concordia/index/LinkedCode", "add", "(ILcom/example/concordia/concordia/index/Program;I)V"⟩ : MethodName)) hown (mvT hZ (hw _ (List.mem_of_getElem? (i := 177) rfl))) (mvT hZ (hw _ (List.mem_of_getElem? (i := 178) rfl))) (notFace_of_selects (args := #[]) (mvT hZ (hw _ (List.mem_of_getElem? (i := 180) rfl)))) (mvT hZ (hw _ (List.mem_of_getElem? (i := 180) rfl))) (mvT hZ (hw _ (List.mem_of_getElem? (i := 179) rfl))) (by decide) (backOf (W := 0) (rm_ad3 l Z a0 hw [] b1 b41 p2 cd_37 (0 : Int32) (0 : Int32) rt_37 il_47 kr_37 .null (-1 : Int32) (-1 : Int32) (-1 : Int32) (-1 : Int32) T47.heap n0 (Nat.le_trans Z0 K49.1) f53 gnb1 gncd_37 f55 f56 f57 f58 f50 f59 f60 f51 gnrt_37 p37_2 f61 p47_2 p47_1 p47_3 p47_4 (by decide : ¬ ((0 : Int32) < (0 : Int32))) (by decide : (0 : Int32) < (64 : Int32)) (by decide : ¬ (((0 : Int32) + (1 : Int32)) < (0 : Int32))) (by decide : ((0 : Int32) + (1 : Int32)) < (64 : Int32)) (by decide : ¬ ((64 : Int32) < ((0 : Int32) + (2 : Int32)))) (by decide : ¬ ((1024 : Int32) < ((0 : Int32) + (2 : Int32)))) (by decide : (-1 : Int32) = (-1 : Int32))) hZ (hw _ (List.mem_of_getElem? (i := 181) rfl)) (hw _ (List.mem_of_getElem? (i := 2) rfl)) (by decide) (by decide)) q62a q62c (g := (mkF m 89 #[.val (.int p1), .val (.int p2), .val (.ref b1), .val (.ref b41), .val (.int (1 : Int32)), .val (.int (p1 &&& (15 : Int32))), .unset] [(.int p2), (.ref b41), (.int (3 : Int32)), (.ref b1)])) rfl (by rw [hml]; rfl) (Steps.refl _) (argsL := [(.int (3 : Int32)), (.ref b41), (.int p2)]) (rest := []) (lenOf pd__40ILcom_47example_47concordia_47concordia_47index_47Program_59I_41V rfl) rfl (by show 2 * 0 + _ ≤ _; exact Nat.le_of_eq rfl) (hb hby at_89) (fun _ _ => ⟨rfl, e52, (by decide : 31 + 0 ≤ _), (by decide : 1183 + 0 ≤ _)⟩)
          dsimp only [Pt.U, Pt.locs, Pt.cells, Pt.slots] at X62 l62 y62 z62 st62 hQ62
          subst l62 y62 z62
          obtain ⟨rfl, Nq62, Kc62, p62_0, p62_1, p62_2, p62_3, p62_4, p62_5, p62_6⟩ := hQ62
          have K63 : Keep h0 T62.heap [] := K49.trans Kc62 (allS (Or.inr gzb1) (allS (Or.inr gzcd_37) (allS (Or.inr gzrt_37) all0)))
          have N62 := Fr.app N52 Nq62
          have f65 : Exa Z T62.heap b1 "com/example/concordia/concordia/index/LinkedCode" := (f53.keep Kc62)
          obtain ⟨cq64, kq64, q64a, q64b, q64c⟩ := isOf hZ rfl f65
          obtain ⟨_, _, ⟨T64, L64, k64, n64⟩, -, X64, ⟨Lc64, hQ64, l64, y64, z64⟩, st64⟩ := X62.virtualBack hx (y := (⟨"com/example/concordia/concordia/index/LinkedCode", "isEmpty", "()Z"⟩ : MethodName)) (z := (⟨"com/example/concordia/concordia/index/LinkedCode", "isEmpty", "()Z"⟩ : MethodName)) hown (mvT hZ (hw _ (List.mem_of_getElem? (i := 172) rfl))) (mvT hZ (hw _ (List.mem_of_getElem? (i := 173) rfl))) (notFace_of_selects (args := #[]) (mvT hZ (hw _ (List.mem_of_getElem? (i := 175) rfl)))) (mvT hZ (hw _ (List.mem_of_getElem? (i := 175) rfl))) (mvT hZ (hw _ (List.mem_of_getElem? (i := 174) rfl))) (by decide) (backOf (W := 0) (rm_em3 l Z a0 hw [] b1 rt_37 kr_37 (-1 : Int32) (-1 : Int32) (-1 : Int32) (0 : Int32) T62.heap n0 (Nat.le_trans Z0 K63.1) p62_3 p62_6 (by decide : (-1 : Int32) = (-1 : Int32)) (by decide : (-1 : Int32) = (-1 : Int32)) (by decide : (-1 : Int32) = (-1 : Int32)) (by decide : ¬ ((0 : Int32) = (-1 : Int32)))) hZ (hw _ (List.mem_of_getElem? (i := 176) rfl)) (hw _ (List.mem_of_getElem? (i := 2) rfl)) (by decide) (by decide)) q64a q64c (g := (mkF m 93 #[.val (.int p1), .val (.int p2), .val (.ref b1), .val (.ref b41), .val (.int (1 : Int32)), .val (.int (p1 &&& (15 : Int32))), .unset] [(.ref b1)])) rfl (by rw [hml]; rfl) (Steps.refl _) (argsL := []) (rest := []) (lenOf pd__40_41Z rfl) rfl (by show 2 * 0 + _ ≤ _; exact Nat.le_of_eq rfl) (hb hby at_93) (fun _ _ => ⟨rfl, rfl, (by decide : 31 + 0 ≤ _), (by decide : 1183 + 0 ≤ _)⟩)
          dsimp only [Pt.U, Pt.locs, Pt.cells, Pt.slots] at X64 l64 y64 z64 st64 hQ64
          subst l64 y64 z64
          obtain ⟨rfl, Nq64, e64⟩ := hQ64
          have N64 := Fr.app N62 Nq64
          obtain ⟨fs, hr, hrun, hended, hW, hsame⟩ := X64.leave (v := some (.int (1 : Int32))) (fun h => by rw [Bd.returns] at h; cases h)
          refine ⟨_, _, pre0 _ ?_, hrun, hended, _, _, rfl, ?_, ⟨_, rfl⟩, hW, hsame.mono (by decide) (by decide)⟩
          · show Steps p.tables e below (s₁.setTop (mkF m 0 #[.val (.int p1), .val (.int p2), .unset, .unset, .unset, .unset, .unset] [])) _
            refine st1 _ ?_
            refine XS.dup X1.here hx rfl (hb hby at_3) rfl rfl ?_
            refine st16 _ ?_
            refine XS.dup X16.here hx rfl (hb hby at_7) rfl rfl ?_
            show Steps p.tables e below (T16.setTop (mkF m 8 #[.val (.int p1), .val (.int p2), .unset, .unset, .unset, .unset, .unset] [(.ref b16), (.ref b16), (.ref b1), (.ref b1)])) _
            refine st21.trans ?_
            refine st37.trans ?_
            refine XS.astoreN X37.here hx rfl (hb hby at_14) rfl rfl (l' := #[.val (.int p1), .val (.int p2), .val (.ref b1), .unset, .unset, .unset, .unset]) rfl ?_
            refine st41 _ ?_
            show Steps p.tables e below (T41.setTop (mkF m 18 #[.val (.int p1), .val (.int p2), .val (.ref b1), .unset, .unset, .unset, .unset] [(.ref b41)])) _
            refine XS.dup X41.here hx rfl (hb hby at_18) rfl rfl ?_
            refine st47.trans ?_
            refine XS.astoreN X47.here hx rfl (hb hby at_22) rfl rfl (l' := #[.val (.int p1), .val (.int p2), .val (.ref b1), .val (.ref b41), .unset, .unset, .unset]) rfl ?_
            refine XS.aloadN X47.here hx rfl (hb hby at_23) rfl rfl ?_
            show Steps p.tables e below (T47.setTop (mkF m 24 #[.val (.int p1), .val (.int p2), .val (.ref b1), .val (.ref b41), .unset, .unset, .unset] [(.ref b1)])) _
            refine st52.trans ?_
            refine XS.istore X52.here hx rfl (hb hby at_27) rfl (l' := #[.val (.int p1), .val (.int p2), .val (.ref b1), .val (.ref b41), .val (.int (1 : Int32)), .unset, .unset]) rfl ?_
            refine XS.iloadN X52.here hx rfl (hb hby at_29) rfl ?_
            refine XS.bipush X52.here hx rfl (hb hby at_30) ?_
            show Steps p.tables e below (T52.setTop (mkF m 32 #[.val (.int p1), .val (.int p2), .val (.ref b1), .val (.ref b41), .val (.int (1 : Int32)), .unset, .unset] [(.int (15 : Int32)), (.int p1)])) _
            refine XS.iand X52.here hx rfl (hb hby at_32) rfl ?_
            refine XS.istore X52.here hx rfl (hb hby at_33) rfl (l' := #[.val (.int p1), .val (.int p2), .val (.ref b1), .val (.ref b41), .val (.int (1 : Int32)), .val (.int (p1 &&& (15 : Int32))), .unset]) rfl ?_
            refine XS.iload X52.here hx rfl (hb hby at_35) rfl ?_
            refine XS.iconst X52.here hx rfl (hb hby at_37) ?_
            show Steps p.tables e below (T52.setTop (mkF m 38 #[.val (.int p1), .val (.int p2), .val (.ref b1), .val (.ref b41), .val (.int (1 : Int32)), .val (.int (p1 &&& (15 : Int32))), .unset] [(.int (1 : Int32)), (.int (p1 &&& (15 : Int32)))])) _
            refine XS.iand X52.here hx rfl (hb hby at_38) rfl ?_
            refine XS.ifYes X52.here hx rfl (pc0 := 39) (pc' := 49) rfl (hb hby at_39) rfl ((if0 _ _).trans (teq hc1).1) (by decide) (by decide) ?_
            refine XS.iload X52.here hx rfl (hb hby at_49) rfl ?_
            refine XS.iconst X52.here hx rfl (hb hby at_51) ?_
            show Steps p.tables e below (T52.setTop (mkF m 52 #[.val (.int p1), .val (.int p2), .val (.ref b1), .val (.ref b41), .val (.int (1 : Int32)), .val (.int (p1 &&& (15 : Int32))), .unset] [(.int (2 : Int32)), (.int (p1 &&& (15 : Int32)))])) _
            refine XS.iand X52.here hx rfl (hb hby at_52) rfl ?_
            refine XS.ifYes X52.here hx rfl (pc0 := 53) (pc' := 63) rfl (hb hby at_53) rfl ((if0 _ _).trans (teq hc2).1) (by decide) (by decide) ?_
            refine XS.iload X52.here hx rfl (hb hby at_63) rfl ?_
            refine XS.iconst X52.here hx rfl (hb hby at_65) ?_
            show Steps p.tables e below (T52.setTop (mkF m 66 #[.val (.int p1), .val (.int p2), .val (.ref b1), .val (.ref b41), .val (.int (1 : Int32)), .val (.int (p1 &&& (15 : Int32))), .unset] [(.int (4 : Int32)), (.int (p1 &&& (15 : Int32)))])) _
            refine XS.iand X52.here hx rfl (hb hby at_66) rfl ?_
            refine XS.ifYes X52.here hx rfl (pc0 := 67) (pc' := 77) rfl (hb hby at_67) rfl ((if0 _ _).trans (teq hc3).1) (by decide) (by decide) ?_
            refine XS.iload X52.here hx rfl (hb hby at_77) rfl ?_
            refine XS.bipush X52.here hx rfl (hb hby at_79) ?_
            show Steps p.tables e below (T52.setTop (mkF m 81 #[.val (.int p1), .val (.int p2), .val (.ref b1), .val (.ref b41), .val (.int (1 : Int32)), .val (.int (p1 &&& (15 : Int32))), .unset] [(.int (8 : Int32)), (.int (p1 &&& (15 : Int32)))])) _
            refine XS.iand X52.here hx rfl (hb hby at_81) rfl ?_
            refine XS.ifNo X52.here hx rfl (hb hby at_82) rfl ((if0 _ _).trans (feq hc4).1) ?_
            refine XS.aloadN X52.here hx rfl (hb hby at_85) rfl rfl ?_
            refine XS.iconst X52.here hx rfl (hb hby at_86) ?_
            show Steps p.tables e below (T52.setTop (mkF m 87 #[.val (.int p1), .val (.int p2), .val (.ref b1), .val (.ref b41), .val (.int (1 : Int32)), .val (.int (p1 &&& (15 : Int32))), .unset] [(.int (3 : Int32)), (.ref b1)])) _
            refine XS.aloadN X52.here hx rfl (hb hby at_87) rfl rfl ?_
            refine XS.iloadN X52.here hx rfl (hb hby at_88) rfl ?_
            refine st62.trans ?_
            refine XS.aloadN X62.here hx rfl (hb hby at_92) rfl rfl ?_
            show Steps p.tables e below (T62.setTop (mkF m 93 #[.val (.int p1), .val (.int p2), .val (.ref b1), .val (.ref b41), .val (.int (1 : Int32)), .val (.int (p1 &&& (15 : Int32))), .unset] [(.ref b1)])) _
            refine st64.trans ?_
            refine XS.istore X64.here hx rfl (hb hby at_96) rfl (l' := #[.val (.int p1), .val (.int p2), .val (.ref b1), .val (.ref b41), .val (.int (1 : Int32)), .val (.int (p1 &&& (15 : Int32))), .val (.int (0 : Int32))]) rfl ?_
            refine XS.iload X64.here hx rfl (hb hby at_98) rfl ?_
            refine XS.ifNo X64.here hx rfl (hb hby at_100) rfl ((if0 _ _).trans (feq (by decide : ¬ ((1 : Int32) = (0 : Int32)))).1) ?_
            show Steps p.tables e below (T64.setTop (mkF m 103 #[.val (.int p1), .val (.int p2), .val (.ref b1), .val (.ref b41), .val (.int (1 : Int32)), .val (.int (p1 &&& (15 : Int32))), .val (.int (0 : Int32))] [])) _
            refine XS.iload X64.here hx rfl (hb hby at_103) rfl ?_
            refine XS.iload X64.here hx rfl (hb hby at_105) rfl ?_
            refine XS.ifYes X64.here hx rfl (pc0 := 107) (pc' := 114) rfl (hb hby at_107) rfl ((if0 _ _).trans (feq (own_nz hc4)).2) (by decide) (by decide) ?_
            refine XS.iconst X64.here hx rfl (hb hby at_114) ?_
            show Steps p.tables e below (T64.setTop (mkF m 115 #[.val (.int p1), .val (.int p2), .val (.ref b1), .val (.ref b41), .val (.int (1 : Int32)), .val (.int (p1 &&& (15 : Int32))), .val (.int (0 : Int32))] [(.int (0 : Int32)), (.int (0 : Int32))])) _
            refine XS.icmpNo X64.here hx rfl (hb hby at_115) rfl (teq (by decide : (0 : Int32) = (0 : Int32))).2 ?_
            refine XS.iconst X64.here hx rfl (hb hby at_118) ?_
            refine XS.goto X64.here hx rfl (pc0 := 119) (pc' := 123) rfl (hb hby at_119) (by decide) (by decide) ?_
            exact retN X64 hx (t := .boolean) Bd.returns (by simp) (hb hby at_123) hr
          · show Q_rm0 Z p1 p2 wD h0 n0 _ T64.heap _
            exact ⟨rfl, N64⟩
      · have f66 : Fld Z T47.heap b1 "com/example/concordia/concordia/index/LinkedCode" "code" "[I" (.ref cd_37) := ((p37_3.ext E41).keep Kc47 (ninS (Nat.ne_of_lt (Nat.lt_of_lt_of_le (f23.keep Kc37).lt (Nat.le_of_eq g41.symm))) nin0))
        have f67 : own_Ars Z T47.heap cd_37 .int (64 : Int32) := ((p37_4.ext E41).keep Kc47)
        have f68 : Fld Z T47.heap b1 "com/example/concordia/concordia/index/LinkedCode" "codeSize" "I" (.int (0 : Int32)) := ((p37_8.ext E41).keep Kc47 (ninS (Nat.ne_of_lt (Nat.lt_of_lt_of_le (f23.keep Kc37).lt (Nat.le_of_eq g41.symm))) nin0))
        have f69 : Fld Z T47.heap b1 "com/example/concordia/concordia/index/LinkedCode" "liveInstructions" "I" (.int (0 : Int32)) := ((p37_9.ext E41).keep Kc47 (ninS (Nat.ne_of_lt (Nat.lt_of_lt_of_le (f23.keep Kc37).lt (Nat.le_of_eq g41.symm))) nin0))
        have f70 : Fld Z T47.heap b1 "com/example/concordia/concordia/index/LinkedCode" "layOutAt" "I" (.int (1024 : Int32)) := ((p37_7.ext E41).keep Kc47 (ninS (Nat.ne_of_lt (Nat.lt_of_lt_of_le (f23.keep Kc37).lt (Nat.le_of_eq g41.symm))) nin0))
        have f71 : Fld Z T47.heap b1 "com/example/concordia/concordia/index/LinkedCode" "program" "Lcom/example/concordia/concordia/index/Program;" .null := ((p37_10.ext E41).keep Kc47 (ninS (Nat.ne_of_lt (Nat.lt_of_lt_of_le (f23.keep Kc37).lt (Nat.le_of_eq g41.symm))) nin0))
        have f72 : Exa Z T47.heap b41 "com/example/concordia/concordia/index/Program" := (A41.keep Kc47)
        obtain ⟨cq73, kq73, q73a, q73b, q73c⟩ := isOf hZ e52 f53
        obtain ⟨_, _, ⟨T73, L73, k73, n73⟩, -, X73, ⟨Lc73, hQ73, l73, y73, z73⟩, st73⟩ := X52.virtualBack hx (y := (⟨"com/example/concordia/concordia/index/LinkedCode", "add", "(ILcom/example/concordia/concordia/index/Program;I)V"⟩ : MethodName)) (z := (⟨"com/example/concordia/concordia/index/LinkedCode", "add", "(ILcom/example/concordia/concordia/index/Program;I)V"⟩ : MethodName)) hown (mvT hZ (hw _ (List.mem_of_getElem? (i := 177) rfl))) (mvT hZ (hw _ (List.mem_of_getElem? (i := 178) rfl))) (notFace_of_selects (args := #[]) (mvT hZ (hw _ (List.mem_of_getElem? (i := 180) rfl)))) (mvT hZ (hw _ (List.mem_of_getElem? (i := 180) rfl))) (mvT hZ (hw _ (List.mem_of_getElem? (i := 179) rfl))) (by decide) (backOf (W := 0) (rm_ad2 l Z a0 hw [] b1 b41 p2 cd_37 (0 : Int32) (0 : Int32) rt_37 il_47 kr_37 .null (-1 : Int32) (-1 : Int32) (-1 : Int32) (-1 : Int32) T47.heap n0 (Nat.le_trans Z0 K49.1) f53 gnb1 gncd_37 f66 f67 f68 f69 f50 f70 f71 f51 gnrt_37 p37_2 f72 p47_2 p47_1 p47_3 p47_4 (by decide : ¬ ((0 : Int32) < (0 : Int32))) (by decide : (0 : Int32) < (64 : Int32)) (by decide : ¬ (((0 : Int32) + (1 : Int32)) < (0 : Int32))) (by decide : ((0 : Int32) + (1 : Int32)) < (64 : Int32)) (by decide : ¬ ((64 : Int32) < ((0 : Int32) + (2 : Int32)))) (by decide : ¬ ((1024 : Int32) < ((0 : Int32) + (2 : Int32)))) (by decide : (-1 : Int32) = (-1 : Int32))) hZ (hw _ (List.mem_of_getElem? (i := 181) rfl)) (hw _ (List.mem_of_getElem? (i := 2) rfl)) (by decide) (by decide)) q73a q73c (g := (mkF m 74 #[.val (.int p1), .val (.int p2), .val (.ref b1), .val (.ref b41), .val (.int (1 : Int32)), .val (.int (p1 &&& (15 : Int32))), .unset] [(.int p2), (.ref b41), (.int (2 : Int32)), (.ref b1)])) rfl (by rw [hml]; rfl) (Steps.refl _) (argsL := [(.int (2 : Int32)), (.ref b41), (.int p2)]) (rest := []) (lenOf pd__40ILcom_47example_47concordia_47concordia_47index_47Program_59I_41V rfl) rfl (by show 2 * 0 + _ ≤ _; exact Nat.le_of_eq rfl) (hb hby at_74) (fun _ _ => ⟨rfl, e52, (by decide : 31 + 0 ≤ _), (by decide : 1183 + 0 ≤ _)⟩)
        dsimp only [Pt.U, Pt.locs, Pt.cells, Pt.slots] at X73 l73 y73 z73 st73 hQ73
        subst l73 y73 z73
        obtain ⟨rfl, Nq73, Kc73, p73_0, p73_1, p73_2, p73_3, p73_4, p73_5, p73_6⟩ := hQ73
        have K74 : Keep h0 T73.heap [] := K49.trans Kc73 (allS (Or.inr gzb1) (allS (Or.inr gzcd_37) (allS (Or.inr gzrt_37) all0)))
        have N73 := Fr.app N52 Nq73
        by_cases hc5 : ((p1 &&& (15 : Int32)) &&& (8 : Int32)) = (0 : Int32)
        · have f76 : Exa Z T73.heap b1 "com/example/concordia/concordia/index/LinkedCode" := (f53.keep Kc73)
          obtain ⟨cq75, kq75, q75a, q75b, q75c⟩ := isOf hZ rfl f76
          obtain ⟨_, _, ⟨T75, L75, k75, n75⟩, -, X75, ⟨Lc75, hQ75, l75, y75, z75⟩, st75⟩ := X73.virtualBack hx (y := (⟨"com/example/concordia/concordia/index/LinkedCode", "isEmpty", "()Z"⟩ : MethodName)) (z := (⟨"com/example/concordia/concordia/index/LinkedCode", "isEmpty", "()Z"⟩ : MethodName)) hown (mvT hZ (hw _ (List.mem_of_getElem? (i := 172) rfl))) (mvT hZ (hw _ (List.mem_of_getElem? (i := 173) rfl))) (notFace_of_selects (args := #[]) (mvT hZ (hw _ (List.mem_of_getElem? (i := 175) rfl)))) (mvT hZ (hw _ (List.mem_of_getElem? (i := 175) rfl))) (mvT hZ (hw _ (List.mem_of_getElem? (i := 174) rfl))) (by decide) (backOf (W := 0) (rm_em2 l Z a0 hw [] b1 rt_37 kr_37 (-1 : Int32) (-1 : Int32) (0 : Int32) (-1 : Int32) T73.heap n0 (Nat.le_trans Z0 K74.1) p73_3 p73_6 (by decide : (-1 : Int32) = (-1 : Int32)) (by decide : (-1 : Int32) = (-1 : Int32)) (by decide : ¬ ((0 : Int32) = (-1 : Int32)))) hZ (hw _ (List.mem_of_getElem? (i := 176) rfl)) (hw _ (List.mem_of_getElem? (i := 2) rfl)) (by decide) (by decide)) q75a q75c (g := (mkF m 93 #[.val (.int p1), .val (.int p2), .val (.ref b1), .val (.ref b41), .val (.int (1 : Int32)), .val (.int (p1 &&& (15 : Int32))), .unset] [(.ref b1)])) rfl (by rw [hml]; rfl) (Steps.refl _) (argsL := []) (rest := []) (lenOf pd__40_41Z rfl) rfl (by show 2 * 0 + _ ≤ _; exact Nat.le_of_eq rfl) (hb hby at_93) (fun _ _ => ⟨rfl, rfl, (by decide : 31 + 0 ≤ _), (by decide : 1183 + 0 ≤ _)⟩)
          dsimp only [Pt.U, Pt.locs, Pt.cells, Pt.slots] at X75 l75 y75 z75 st75 hQ75
          subst l75 y75 z75
          obtain ⟨rfl, Nq75, e75⟩ := hQ75
          have N75 := Fr.app N73 Nq75
          obtain ⟨fs, hr, hrun, hended, hW, hsame⟩ := X75.leave (v := some (.int (1 : Int32))) (fun h => by rw [Bd.returns] at h; cases h)
          refine ⟨_, _, pre0 _ ?_, hrun, hended, _, _, rfl, ?_, ⟨_, rfl⟩, hW, hsame.mono (by decide) (by decide)⟩
          · show Steps p.tables e below (s₁.setTop (mkF m 0 #[.val (.int p1), .val (.int p2), .unset, .unset, .unset, .unset, .unset] [])) _
            refine st1 _ ?_
            refine XS.dup X1.here hx rfl (hb hby at_3) rfl rfl ?_
            refine st16 _ ?_
            refine XS.dup X16.here hx rfl (hb hby at_7) rfl rfl ?_
            show Steps p.tables e below (T16.setTop (mkF m 8 #[.val (.int p1), .val (.int p2), .unset, .unset, .unset, .unset, .unset] [(.ref b16), (.ref b16), (.ref b1), (.ref b1)])) _
            refine st21.trans ?_
            refine st37.trans ?_
            refine XS.astoreN X37.here hx rfl (hb hby at_14) rfl rfl (l' := #[.val (.int p1), .val (.int p2), .val (.ref b1), .unset, .unset, .unset, .unset]) rfl ?_
            refine st41 _ ?_
            show Steps p.tables e below (T41.setTop (mkF m 18 #[.val (.int p1), .val (.int p2), .val (.ref b1), .unset, .unset, .unset, .unset] [(.ref b41)])) _
            refine XS.dup X41.here hx rfl (hb hby at_18) rfl rfl ?_
            refine st47.trans ?_
            refine XS.astoreN X47.here hx rfl (hb hby at_22) rfl rfl (l' := #[.val (.int p1), .val (.int p2), .val (.ref b1), .val (.ref b41), .unset, .unset, .unset]) rfl ?_
            refine XS.aloadN X47.here hx rfl (hb hby at_23) rfl rfl ?_
            show Steps p.tables e below (T47.setTop (mkF m 24 #[.val (.int p1), .val (.int p2), .val (.ref b1), .val (.ref b41), .unset, .unset, .unset] [(.ref b1)])) _
            refine st52.trans ?_
            refine XS.istore X52.here hx rfl (hb hby at_27) rfl (l' := #[.val (.int p1), .val (.int p2), .val (.ref b1), .val (.ref b41), .val (.int (1 : Int32)), .unset, .unset]) rfl ?_
            refine XS.iloadN X52.here hx rfl (hb hby at_29) rfl ?_
            refine XS.bipush X52.here hx rfl (hb hby at_30) ?_
            show Steps p.tables e below (T52.setTop (mkF m 32 #[.val (.int p1), .val (.int p2), .val (.ref b1), .val (.ref b41), .val (.int (1 : Int32)), .unset, .unset] [(.int (15 : Int32)), (.int p1)])) _
            refine XS.iand X52.here hx rfl (hb hby at_32) rfl ?_
            refine XS.istore X52.here hx rfl (hb hby at_33) rfl (l' := #[.val (.int p1), .val (.int p2), .val (.ref b1), .val (.ref b41), .val (.int (1 : Int32)), .val (.int (p1 &&& (15 : Int32))), .unset]) rfl ?_
            refine XS.iload X52.here hx rfl (hb hby at_35) rfl ?_
            refine XS.iconst X52.here hx rfl (hb hby at_37) ?_
            show Steps p.tables e below (T52.setTop (mkF m 38 #[.val (.int p1), .val (.int p2), .val (.ref b1), .val (.ref b41), .val (.int (1 : Int32)), .val (.int (p1 &&& (15 : Int32))), .unset] [(.int (1 : Int32)), (.int (p1 &&& (15 : Int32)))])) _
            refine XS.iand X52.here hx rfl (hb hby at_38) rfl ?_
            refine XS.ifYes X52.here hx rfl (pc0 := 39) (pc' := 49) rfl (hb hby at_39) rfl ((if0 _ _).trans (teq hc1).1) (by decide) (by decide) ?_
            refine XS.iload X52.here hx rfl (hb hby at_49) rfl ?_
            refine XS.iconst X52.here hx rfl (hb hby at_51) ?_
            show Steps p.tables e below (T52.setTop (mkF m 52 #[.val (.int p1), .val (.int p2), .val (.ref b1), .val (.ref b41), .val (.int (1 : Int32)), .val (.int (p1 &&& (15 : Int32))), .unset] [(.int (2 : Int32)), (.int (p1 &&& (15 : Int32)))])) _
            refine XS.iand X52.here hx rfl (hb hby at_52) rfl ?_
            refine XS.ifYes X52.here hx rfl (pc0 := 53) (pc' := 63) rfl (hb hby at_53) rfl ((if0 _ _).trans (teq hc2).1) (by decide) (by decide) ?_
            refine XS.iload X52.here hx rfl (hb hby at_63) rfl ?_
            refine XS.iconst X52.here hx rfl (hb hby at_65) ?_
            show Steps p.tables e below (T52.setTop (mkF m 66 #[.val (.int p1), .val (.int p2), .val (.ref b1), .val (.ref b41), .val (.int (1 : Int32)), .val (.int (p1 &&& (15 : Int32))), .unset] [(.int (4 : Int32)), (.int (p1 &&& (15 : Int32)))])) _
            refine XS.iand X52.here hx rfl (hb hby at_66) rfl ?_
            refine XS.ifNo X52.here hx rfl (hb hby at_67) rfl ((if0 _ _).trans (feq hc3).1) ?_
            refine XS.aloadN X52.here hx rfl (hb hby at_70) rfl rfl ?_
            refine XS.iconst X52.here hx rfl (hb hby at_71) ?_
            show Steps p.tables e below (T52.setTop (mkF m 72 #[.val (.int p1), .val (.int p2), .val (.ref b1), .val (.ref b41), .val (.int (1 : Int32)), .val (.int (p1 &&& (15 : Int32))), .unset] [(.int (2 : Int32)), (.ref b1)])) _
            refine XS.aloadN X52.here hx rfl (hb hby at_72) rfl rfl ?_
            refine XS.iloadN X52.here hx rfl (hb hby at_73) rfl ?_
            refine st73.trans ?_
            refine XS.iload X73.here hx rfl (hb hby at_77) rfl ?_
            show Steps p.tables e below (T73.setTop (mkF m 79 #[.val (.int p1), .val (.int p2), .val (.ref b1), .val (.ref b41), .val (.int (1 : Int32)), .val (.int (p1 &&& (15 : Int32))), .unset] [(.int (p1 &&& (15 : Int32)))])) _
            refine XS.bipush X73.here hx rfl (hb hby at_79) ?_
            refine XS.iand X73.here hx rfl (hb hby at_81) rfl ?_
            refine XS.ifYes X73.here hx rfl (pc0 := 82) (pc' := 92) rfl (hb hby at_82) rfl ((if0 _ _).trans (teq hc5).1) (by decide) (by decide) ?_
            refine XS.aloadN X73.here hx rfl (hb hby at_92) rfl rfl ?_
            show Steps p.tables e below (T73.setTop (mkF m 93 #[.val (.int p1), .val (.int p2), .val (.ref b1), .val (.ref b41), .val (.int (1 : Int32)), .val (.int (p1 &&& (15 : Int32))), .unset] [(.ref b1)])) _
            refine st75.trans ?_
            refine XS.istore X75.here hx rfl (hb hby at_96) rfl (l' := #[.val (.int p1), .val (.int p2), .val (.ref b1), .val (.ref b41), .val (.int (1 : Int32)), .val (.int (p1 &&& (15 : Int32))), .val (.int (0 : Int32))]) rfl ?_
            refine XS.iload X75.here hx rfl (hb hby at_98) rfl ?_
            refine XS.ifNo X75.here hx rfl (hb hby at_100) rfl ((if0 _ _).trans (feq (by decide : ¬ ((1 : Int32) = (0 : Int32)))).1) ?_
            show Steps p.tables e below (T75.setTop (mkF m 103 #[.val (.int p1), .val (.int p2), .val (.ref b1), .val (.ref b41), .val (.int (1 : Int32)), .val (.int (p1 &&& (15 : Int32))), .val (.int (0 : Int32))] [])) _
            refine XS.iload X75.here hx rfl (hb hby at_103) rfl ?_
            refine XS.iload X75.here hx rfl (hb hby at_105) rfl ?_
            refine XS.ifYes X75.here hx rfl (pc0 := 107) (pc' := 114) rfl (hb hby at_107) rfl ((if0 _ _).trans (feq (own_nz hc3)).2) (by decide) (by decide) ?_
            refine XS.iconst X75.here hx rfl (hb hby at_114) ?_
            show Steps p.tables e below (T75.setTop (mkF m 115 #[.val (.int p1), .val (.int p2), .val (.ref b1), .val (.ref b41), .val (.int (1 : Int32)), .val (.int (p1 &&& (15 : Int32))), .val (.int (0 : Int32))] [(.int (0 : Int32)), (.int (0 : Int32))])) _
            refine XS.icmpNo X75.here hx rfl (hb hby at_115) rfl (teq (by decide : (0 : Int32) = (0 : Int32))).2 ?_
            refine XS.iconst X75.here hx rfl (hb hby at_118) ?_
            refine XS.goto X75.here hx rfl (pc0 := 119) (pc' := 123) rfl (hb hby at_119) (by decide) (by decide) ?_
            exact retN X75 hx (t := .boolean) Bd.returns (by simp) (hb hby at_123) hr
          · show Q_rm0 Z p1 p2 wD h0 n0 _ T75.heap _
            exact ⟨rfl, N75⟩
        · have f77 : Exa Z T73.heap b1 "com/example/concordia/concordia/index/LinkedCode" := (f53.keep Kc73)
          have f78 : own_Ars Z T73.heap cd_37 .int (64 : Int32) := (f67.keep Kc73)
          have f79 : Exa Z T73.heap b41 "com/example/concordia/concordia/index/Program" := (f72.keep Kc73)
          have f80 : Fld Z T73.heap b41 "com/example/concordia/concordia/index/Program" "lastLiteralFrom" "I" (.int (0 : Int32)) := (p47_2.keep Kc73 (ninS (Ne.symm (Nat.ne_of_lt (Nat.lt_of_lt_of_le (f23.keep Kc37).lt (Nat.le_of_eq g41.symm)))) (ninS (Ne.symm (Nat.ne_of_lt (Nat.lt_of_lt_of_le p37_4.lt (Nat.le_of_eq g41.symm)))) (ninS (Ne.symm (Nat.ne_of_lt (Nat.lt_of_lt_of_le p37_6.lt (Nat.le_of_eq g41.symm)))) nin0))))
          have f81 : Fld Z T73.heap b41 "com/example/concordia/concordia/index/Program" "instructions" "Lcom/example/concordia/concordia/expr/IntList;" (.ref il_47) := (p47_1.keep Kc73 (ninS (Ne.symm (Nat.ne_of_lt (Nat.lt_of_lt_of_le (f23.keep Kc37).lt (Nat.le_of_eq g41.symm)))) (ninS (Ne.symm (Nat.ne_of_lt (Nat.lt_of_lt_of_le p37_4.lt (Nat.le_of_eq g41.symm)))) (ninS (Ne.symm (Nat.ne_of_lt (Nat.lt_of_lt_of_le p37_6.lt (Nat.le_of_eq g41.symm)))) nin0))))
          have f82 : Exa Z T73.heap il_47 "com/example/concordia/concordia/expr/IntList" := (p47_3.keep Kc73)
          have f83 : Fld Z T73.heap il_47 "com/example/concordia/concordia/expr/IntList" "size" "I" (.int (0 : Int32)) := (p47_4.keep Kc73 (ninS (Ne.symm (Nat.ne_of_lt (Nat.lt_of_lt_of_le ((f23.keep Kc37).ext E41).lt p47_0))) (ninS (Ne.symm (Nat.ne_of_lt (Nat.lt_of_lt_of_le (p37_4.ext E41).lt p47_0))) (ninS (Ne.symm (Nat.ne_of_lt (Nat.lt_of_lt_of_le (p37_6.ext E41).lt p47_0))) nin0))))
          obtain ⟨cq84, kq84, q84a, q84b, q84c⟩ := isOf hZ rfl f77
          obtain ⟨_, _, ⟨T84, L84, k84, n84⟩, -, X84, ⟨Lc84, hQ84, l84, y84, z84⟩, st84⟩ := X73.virtualBack hx (y := (⟨"com/example/concordia/concordia/index/LinkedCode", "add", "(ILcom/example/concordia/concordia/index/Program;I)V"⟩ : MethodName)) (z := (⟨"com/example/concordia/concordia/index/LinkedCode", "add", "(ILcom/example/concordia/concordia/index/Program;I)V"⟩ : MethodName)) hown (mvT hZ (hw _ (List.mem_of_getElem? (i := 177) rfl))) (mvT hZ (hw _ (List.mem_of_getElem? (i := 178) rfl))) (notFace_of_selects (args := #[]) (mvT hZ (hw _ (List.mem_of_getElem? (i := 180) rfl)))) (mvT hZ (hw _ (List.mem_of_getElem? (i := 180) rfl))) (mvT hZ (hw _ (List.mem_of_getElem? (i := 179) rfl))) (by decide) (backOf (W := 0) (rm_ad3 l Z a0 hw [] b1 b41 p2 cd_37 (2 : Int32) (1 : Int32) rt_37 il_47 kr_37 (.ref b41) (-1 : Int32) (-1 : Int32) (0 : Int32) (-1 : Int32) T73.heap n0 (Nat.le_trans Z0 K74.1) f77 gnb1 gncd_37 p73_0 f78 p73_1 p73_2 p73_3 p73_4 p73_5 p73_6 gnrt_37 p37_2 f79 f80 f81 f82 f83 (by decide : ¬ ((2 : Int32) < (0 : Int32))) (by decide : (2 : Int32) < (64 : Int32)) (by decide : ¬ (((2 : Int32) + (1 : Int32)) < (0 : Int32))) (by decide : ((2 : Int32) + (1 : Int32)) < (64 : Int32)) (by decide : ¬ ((64 : Int32) < ((2 : Int32) + (2 : Int32)))) (by decide : ¬ ((1024 : Int32) < ((2 : Int32) + (2 : Int32)))) (by decide : (-1 : Int32) = (-1 : Int32))) hZ (hw _ (List.mem_of_getElem? (i := 181) rfl)) (hw _ (List.mem_of_getElem? (i := 2) rfl)) (by decide) (by decide)) q84a q84c (g := (mkF m 89 #[.val (.int p1), .val (.int p2), .val (.ref b1), .val (.ref b41), .val (.int (1 : Int32)), .val (.int (p1 &&& (15 : Int32))), .unset] [(.int p2), (.ref b41), (.int (3 : Int32)), (.ref b1)])) rfl (by rw [hml]; rfl) (Steps.refl _) (argsL := [(.int (3 : Int32)), (.ref b41), (.int p2)]) (rest := []) (lenOf pd__40ILcom_47example_47concordia_47concordia_47index_47Program_59I_41V rfl) rfl (by show 2 * 0 + _ ≤ _; exact Nat.le_of_eq rfl) (hb hby at_89) (fun _ _ => ⟨rfl, rfl, (by decide : 31 + 0 ≤ _), (by decide : 1183 + 0 ≤ _)⟩)
          dsimp only [Pt.U, Pt.locs, Pt.cells, Pt.slots] at X84 l84 y84 z84 st84 hQ84
          subst l84 y84 z84
          obtain ⟨rfl, Nq84, Kc84, p84_0, p84_1, p84_2, p84_3, p84_4, p84_5, p84_6⟩ := hQ84
          have K85 : Keep h0 T84.heap [] := K74.trans Kc84 (allS (Or.inr gzb1) (allS (Or.inr gzcd_37) (allS (Or.inr gzrt_37) all0)))
          have N84 := Fr.app N73 Nq84
          have f87 : Exa Z T84.heap b1 "com/example/concordia/concordia/index/LinkedCode" := (f77.keep Kc84)
          obtain ⟨cq86, kq86, q86a, q86b, q86c⟩ := isOf hZ rfl f87
          obtain ⟨_, _, ⟨T86, L86, k86, n86⟩, -, X86, ⟨Lc86, hQ86, l86, y86, z86⟩, st86⟩ := X84.virtualBack hx (y := (⟨"com/example/concordia/concordia/index/LinkedCode", "isEmpty", "()Z"⟩ : MethodName)) (z := (⟨"com/example/concordia/concordia/index/LinkedCode", "isEmpty", "()Z"⟩ : MethodName)) hown (mvT hZ (hw _ (List.mem_of_getElem? (i := 172) rfl))) (mvT hZ (hw _ (List.mem_of_getElem? (i := 173) rfl))) (notFace_of_selects (args := #[]) (mvT hZ (hw _ (List.mem_of_getElem? (i := 175) rfl)))) (mvT hZ (hw _ (List.mem_of_getElem? (i := 175) rfl))) (mvT hZ (hw _ (List.mem_of_getElem? (i := 174) rfl))) (by decide) (backOf (W := 0) (rm_em2 l Z a0 hw [] b1 rt_37 kr_37 (-1 : Int32) (-1 : Int32) (0 : Int32) (2 : Int32) T84.heap n0 (Nat.le_trans Z0 K85.1) p84_3 p84_6 (by decide : (-1 : Int32) = (-1 : Int32)) (by decide : (-1 : Int32) = (-1 : Int32)) (by decide : ¬ ((0 : Int32) = (-1 : Int32)))) hZ (hw _ (List.mem_of_getElem? (i := 176) rfl)) (hw _ (List.mem_of_getElem? (i := 2) rfl)) (by decide) (by decide)) q86a q86c (g := (mkF m 93 #[.val (.int p1), .val (.int p2), .val (.ref b1), .val (.ref b41), .val (.int (1 : Int32)), .val (.int (p1 &&& (15 : Int32))), .unset] [(.ref b1)])) rfl (by rw [hml]; rfl) (Steps.refl _) (argsL := []) (rest := []) (lenOf pd__40_41Z rfl) rfl (by show 2 * 0 + _ ≤ _; exact Nat.le_of_eq rfl) (hb hby at_93) (fun _ _ => ⟨rfl, rfl, (by decide : 31 + 0 ≤ _), (by decide : 1183 + 0 ≤ _)⟩)
          dsimp only [Pt.U, Pt.locs, Pt.cells, Pt.slots] at X86 l86 y86 z86 st86 hQ86
          subst l86 y86 z86
          obtain ⟨rfl, Nq86, e86⟩ := hQ86
          have N86 := Fr.app N84 Nq86
          obtain ⟨fs, hr, hrun, hended, hW, hsame⟩ := X86.leave (v := some (.int (1 : Int32))) (fun h => by rw [Bd.returns] at h; cases h)
          refine ⟨_, _, pre0 _ ?_, hrun, hended, _, _, rfl, ?_, ⟨_, rfl⟩, hW, hsame.mono (by decide) (by decide)⟩
          · show Steps p.tables e below (s₁.setTop (mkF m 0 #[.val (.int p1), .val (.int p2), .unset, .unset, .unset, .unset, .unset] [])) _
            refine st1 _ ?_
            refine XS.dup X1.here hx rfl (hb hby at_3) rfl rfl ?_
            refine st16 _ ?_
            refine XS.dup X16.here hx rfl (hb hby at_7) rfl rfl ?_
            show Steps p.tables e below (T16.setTop (mkF m 8 #[.val (.int p1), .val (.int p2), .unset, .unset, .unset, .unset, .unset] [(.ref b16), (.ref b16), (.ref b1), (.ref b1)])) _
            refine st21.trans ?_
            refine st37.trans ?_
            refine XS.astoreN X37.here hx rfl (hb hby at_14) rfl rfl (l' := #[.val (.int p1), .val (.int p2), .val (.ref b1), .unset, .unset, .unset, .unset]) rfl ?_
            refine st41 _ ?_
            show Steps p.tables e below (T41.setTop (mkF m 18 #[.val (.int p1), .val (.int p2), .val (.ref b1), .unset, .unset, .unset, .unset] [(.ref b41)])) _
            refine XS.dup X41.here hx rfl (hb hby at_18) rfl rfl ?_
            refine st47.trans ?_
            refine XS.astoreN X47.here hx rfl (hb hby at_22) rfl rfl (l' := #[.val (.int p1), .val (.int p2), .val (.ref b1), .val (.ref b41), .unset, .unset, .unset]) rfl ?_
            refine XS.aloadN X47.here hx rfl (hb hby at_23) rfl rfl ?_
            show Steps p.tables e below (T47.setTop (mkF m 24 #[.val (.int p1), .val (.int p2), .val (.ref b1), .val (.ref b41), .unset, .unset, .unset] [(.ref b1)])) _
            refine st52.trans ?_
            refine XS.istore X52.here hx rfl (hb hby at_27) rfl (l' := #[.val (.int p1), .val (.int p2), .val (.ref b1), .val (.ref b41), .val (.int (1 : Int32)), .unset, .unset]) rfl ?_
            refine XS.iloadN X52.here hx rfl (hb hby at_29) rfl ?_
            refine XS.bipush X52.here hx rfl (hb hby at_30) ?_
            show Steps p.tables e below (T52.setTop (mkF m 32 #[.val (.int p1), .val (.int p2), .val (.ref b1), .val (.ref b41), .val (.int (1 : Int32)), .unset, .unset] [(.int (15 : Int32)), (.int p1)])) _
            refine XS.iand X52.here hx rfl (hb hby at_32) rfl ?_
            refine XS.istore X52.here hx rfl (hb hby at_33) rfl (l' := #[.val (.int p1), .val (.int p2), .val (.ref b1), .val (.ref b41), .val (.int (1 : Int32)), .val (.int (p1 &&& (15 : Int32))), .unset]) rfl ?_
            refine XS.iload X52.here hx rfl (hb hby at_35) rfl ?_
            refine XS.iconst X52.here hx rfl (hb hby at_37) ?_
            show Steps p.tables e below (T52.setTop (mkF m 38 #[.val (.int p1), .val (.int p2), .val (.ref b1), .val (.ref b41), .val (.int (1 : Int32)), .val (.int (p1 &&& (15 : Int32))), .unset] [(.int (1 : Int32)), (.int (p1 &&& (15 : Int32)))])) _
            refine XS.iand X52.here hx rfl (hb hby at_38) rfl ?_
            refine XS.ifYes X52.here hx rfl (pc0 := 39) (pc' := 49) rfl (hb hby at_39) rfl ((if0 _ _).trans (teq hc1).1) (by decide) (by decide) ?_
            refine XS.iload X52.here hx rfl (hb hby at_49) rfl ?_
            refine XS.iconst X52.here hx rfl (hb hby at_51) ?_
            show Steps p.tables e below (T52.setTop (mkF m 52 #[.val (.int p1), .val (.int p2), .val (.ref b1), .val (.ref b41), .val (.int (1 : Int32)), .val (.int (p1 &&& (15 : Int32))), .unset] [(.int (2 : Int32)), (.int (p1 &&& (15 : Int32)))])) _
            refine XS.iand X52.here hx rfl (hb hby at_52) rfl ?_
            refine XS.ifYes X52.here hx rfl (pc0 := 53) (pc' := 63) rfl (hb hby at_53) rfl ((if0 _ _).trans (teq hc2).1) (by decide) (by decide) ?_
            refine XS.iload X52.here hx rfl (hb hby at_63) rfl ?_
            refine XS.iconst X52.here hx rfl (hb hby at_65) ?_
            show Steps p.tables e below (T52.setTop (mkF m 66 #[.val (.int p1), .val (.int p2), .val (.ref b1), .val (.ref b41), .val (.int (1 : Int32)), .val (.int (p1 &&& (15 : Int32))), .unset] [(.int (4 : Int32)), (.int (p1 &&& (15 : Int32)))])) _
            refine XS.iand X52.here hx rfl (hb hby at_66) rfl ?_
            refine XS.ifNo X52.here hx rfl (hb hby at_67) rfl ((if0 _ _).trans (feq hc3).1) ?_
            refine XS.aloadN X52.here hx rfl (hb hby at_70) rfl rfl ?_
            refine XS.iconst X52.here hx rfl (hb hby at_71) ?_
            show Steps p.tables e below (T52.setTop (mkF m 72 #[.val (.int p1), .val (.int p2), .val (.ref b1), .val (.ref b41), .val (.int (1 : Int32)), .val (.int (p1 &&& (15 : Int32))), .unset] [(.int (2 : Int32)), (.ref b1)])) _
            refine XS.aloadN X52.here hx rfl (hb hby at_72) rfl rfl ?_
            refine XS.iloadN X52.here hx rfl (hb hby at_73) rfl ?_
            refine st73.trans ?_
            refine XS.iload X73.here hx rfl (hb hby at_77) rfl ?_
            show Steps p.tables e below (T73.setTop (mkF m 79 #[.val (.int p1), .val (.int p2), .val (.ref b1), .val (.ref b41), .val (.int (1 : Int32)), .val (.int (p1 &&& (15 : Int32))), .unset] [(.int (p1 &&& (15 : Int32)))])) _
            refine XS.bipush X73.here hx rfl (hb hby at_79) ?_
            refine XS.iand X73.here hx rfl (hb hby at_81) rfl ?_
            refine XS.ifNo X73.here hx rfl (hb hby at_82) rfl ((if0 _ _).trans (feq hc5).1) ?_
            refine XS.aloadN X73.here hx rfl (hb hby at_85) rfl rfl ?_
            show Steps p.tables e below (T73.setTop (mkF m 86 #[.val (.int p1), .val (.int p2), .val (.ref b1), .val (.ref b41), .val (.int (1 : Int32)), .val (.int (p1 &&& (15 : Int32))), .unset] [(.ref b1)])) _
            refine XS.iconst X73.here hx rfl (hb hby at_86) ?_
            refine XS.aloadN X73.here hx rfl (hb hby at_87) rfl rfl ?_
            refine XS.iloadN X73.here hx rfl (hb hby at_88) rfl ?_
            refine st84.trans ?_
            show Steps p.tables e below (T84.setTop (mkF m 92 #[.val (.int p1), .val (.int p2), .val (.ref b1), .val (.ref b41), .val (.int (1 : Int32)), .val (.int (p1 &&& (15 : Int32))), .unset] [])) _
            refine XS.aloadN X84.here hx rfl (hb hby at_92) rfl rfl ?_
            refine st86.trans ?_
            refine XS.istore X86.here hx rfl (hb hby at_96) rfl (l' := #[.val (.int p1), .val (.int p2), .val (.ref b1), .val (.ref b41), .val (.int (1 : Int32)), .val (.int (p1 &&& (15 : Int32))), .val (.int (0 : Int32))]) rfl ?_
            refine XS.iload X86.here hx rfl (hb hby at_98) rfl ?_
            show Steps p.tables e below (T86.setTop (mkF m 100 #[.val (.int p1), .val (.int p2), .val (.ref b1), .val (.ref b41), .val (.int (1 : Int32)), .val (.int (p1 &&& (15 : Int32))), .val (.int (0 : Int32))] [(.int (1 : Int32))])) _
            refine XS.ifNo X86.here hx rfl (hb hby at_100) rfl ((if0 _ _).trans (feq (by decide : ¬ ((1 : Int32) = (0 : Int32)))).1) ?_
            refine XS.iload X86.here hx rfl (hb hby at_103) rfl ?_
            refine XS.iload X86.here hx rfl (hb hby at_105) rfl ?_
            refine XS.ifYes X86.here hx rfl (pc0 := 107) (pc' := 114) rfl (hb hby at_107) rfl ((if0 _ _).trans (feq (own_nz hc3)).2) (by decide) (by decide) ?_
            show Steps p.tables e below (T86.setTop (mkF m 114 #[.val (.int p1), .val (.int p2), .val (.ref b1), .val (.ref b41), .val (.int (1 : Int32)), .val (.int (p1 &&& (15 : Int32))), .val (.int (0 : Int32))] [(.int (0 : Int32))])) _
            refine XS.iconst X86.here hx rfl (hb hby at_114) ?_
            refine XS.icmpNo X86.here hx rfl (hb hby at_115) rfl (teq (by decide : (0 : Int32) = (0 : Int32))).2 ?_
            refine XS.iconst X86.here hx rfl (hb hby at_118) ?_
            refine XS.goto X86.here hx rfl (pc0 := 119) (pc' := 123) rfl (hb hby at_119) (by decide) (by decide) ?_
            show Steps p.tables e below (T86.setTop (mkF m 123 #[.val (.int p1), .val (.int p2), .val (.ref b1), .val (.ref b41), .val (.int (1 : Int32)), .val (.int (p1 &&& (15 : Int32))), .val (.int (0 : Int32))] [(.int (1 : Int32))])) _
            exact retN X86 hx (t := .boolean) Bd.returns (by simp) (hb hby at_123) hr
          · show Q_rm0 Z p1 p2 wD h0 n0 _ T86.heap _
            exact ⟨rfl, N86⟩
    · have f88 : Fld Z T47.heap b1 "com/example/concordia/concordia/index/LinkedCode" "code" "[I" (.ref cd_37) := ((p37_3.ext E41).keep Kc47 (ninS (Nat.ne_of_lt (Nat.lt_of_lt_of_le (f23.keep Kc37).lt (Nat.le_of_eq g41.symm))) nin0))
      have f89 : own_Ars Z T47.heap cd_37 .int (64 : Int32) := ((p37_4.ext E41).keep Kc47)
      have f90 : Fld Z T47.heap b1 "com/example/concordia/concordia/index/LinkedCode" "codeSize" "I" (.int (0 : Int32)) := ((p37_8.ext E41).keep Kc47 (ninS (Nat.ne_of_lt (Nat.lt_of_lt_of_le (f23.keep Kc37).lt (Nat.le_of_eq g41.symm))) nin0))
      have f91 : Fld Z T47.heap b1 "com/example/concordia/concordia/index/LinkedCode" "liveInstructions" "I" (.int (0 : Int32)) := ((p37_9.ext E41).keep Kc47 (ninS (Nat.ne_of_lt (Nat.lt_of_lt_of_le (f23.keep Kc37).lt (Nat.le_of_eq g41.symm))) nin0))
      have f92 : Fld Z T47.heap b1 "com/example/concordia/concordia/index/LinkedCode" "layOutAt" "I" (.int (1024 : Int32)) := ((p37_7.ext E41).keep Kc47 (ninS (Nat.ne_of_lt (Nat.lt_of_lt_of_le (f23.keep Kc37).lt (Nat.le_of_eq g41.symm))) nin0))
      have f93 : Fld Z T47.heap b1 "com/example/concordia/concordia/index/LinkedCode" "program" "Lcom/example/concordia/concordia/index/Program;" .null := ((p37_10.ext E41).keep Kc47 (ninS (Nat.ne_of_lt (Nat.lt_of_lt_of_le (f23.keep Kc37).lt (Nat.le_of_eq g41.symm))) nin0))
      have f94 : Exa Z T47.heap b41 "com/example/concordia/concordia/index/Program" := (A41.keep Kc47)
      obtain ⟨cq95, kq95, q95a, q95b, q95c⟩ := isOf hZ e52 f53
      obtain ⟨_, _, ⟨T95, L95, k95, n95⟩, -, X95, ⟨Lc95, hQ95, l95, y95, z95⟩, st95⟩ := X52.virtualBack hx (y := (⟨"com/example/concordia/concordia/index/LinkedCode", "add", "(ILcom/example/concordia/concordia/index/Program;I)V"⟩ : MethodName)) (z := (⟨"com/example/concordia/concordia/index/LinkedCode", "add", "(ILcom/example/concordia/concordia/index/Program;I)V"⟩ : MethodName)) hown (mvT hZ (hw _ (List.mem_of_getElem? (i := 177) rfl))) (mvT hZ (hw _ (List.mem_of_getElem? (i := 178) rfl))) (notFace_of_selects (args := #[]) (mvT hZ (hw _ (List.mem_of_getElem? (i := 180) rfl)))) (mvT hZ (hw _ (List.mem_of_getElem? (i := 180) rfl))) (mvT hZ (hw _ (List.mem_of_getElem? (i := 179) rfl))) (by decide) (backOf (W := 0) (rm_ad1 l Z a0 hw [] b1 b41 p2 cd_37 (0 : Int32) (0 : Int32) rt_37 il_47 kr_37 .null (-1 : Int32) (-1 : Int32) (-1 : Int32) (-1 : Int32) T47.heap n0 (Nat.le_trans Z0 K49.1) f53 gnb1 gncd_37 f88 f89 f90 f91 f50 f92 f93 f51 gnrt_37 p37_2 f94 p47_2 p47_1 p47_3 p47_4 (by decide : ¬ ((0 : Int32) < (0 : Int32))) (by decide : (0 : Int32) < (64 : Int32)) (by decide : ¬ (((0 : Int32) + (1 : Int32)) < (0 : Int32))) (by decide : ((0 : Int32) + (1 : Int32)) < (64 : Int32)) (by decide : ¬ ((64 : Int32) < ((0 : Int32) + (2 : Int32)))) (by decide : ¬ ((1024 : Int32) < ((0 : Int32) + (2 : Int32)))) (by decide : (-1 : Int32) = (-1 : Int32))) hZ (hw _ (List.mem_of_getElem? (i := 181) rfl)) (hw _ (List.mem_of_getElem? (i := 2) rfl)) (by decide) (by decide)) q95a q95c (g := (mkF m 60 #[.val (.int p1), .val (.int p2), .val (.ref b1), .val (.ref b41), .val (.int (1 : Int32)), .val (.int (p1 &&& (15 : Int32))), .unset] [(.int p2), (.ref b41), (.int (1 : Int32)), (.ref b1)])) rfl (by rw [hml]; rfl) (Steps.refl _) (argsL := [(.int (1 : Int32)), (.ref b41), (.int p2)]) (rest := []) (lenOf pd__40ILcom_47example_47concordia_47concordia_47index_47Program_59I_41V rfl) rfl (by show 2 * 0 + _ ≤ _; exact Nat.le_of_eq rfl) (hb hby at_60) (fun _ _ => ⟨rfl, e52, (by decide : 31 + 0 ≤ _), (by decide : 1183 + 0 ≤ _)⟩)
      dsimp only [Pt.U, Pt.locs, Pt.cells, Pt.slots] at X95 l95 y95 z95 st95 hQ95
      subst l95 y95 z95
      obtain ⟨rfl, Nq95, Kc95, p95_0, p95_1, p95_2, p95_3, p95_4, p95_5, p95_6⟩ := hQ95
      have K96 : Keep h0 T95.heap [] := K49.trans Kc95 (allS (Or.inr gzb1) (allS (Or.inr gzcd_37) (allS (Or.inr gzrt_37) all0)))
      have N95 := Fr.app N52 Nq95
      by_cases hc6 : ((p1 &&& (15 : Int32)) &&& (4 : Int32)) = (0 : Int32)
      · by_cases hc7 : ((p1 &&& (15 : Int32)) &&& (8 : Int32)) = (0 : Int32)
        · have f98 : Exa Z T95.heap b1 "com/example/concordia/concordia/index/LinkedCode" := (f53.keep Kc95)
          obtain ⟨cq97, kq97, q97a, q97b, q97c⟩ := isOf hZ rfl f98
          obtain ⟨_, _, ⟨T97, L97, k97, n97⟩, -, X97, ⟨Lc97, hQ97, l97, y97, z97⟩, st97⟩ := X95.virtualBack hx (y := (⟨"com/example/concordia/concordia/index/LinkedCode", "isEmpty", "()Z"⟩ : MethodName)) (z := (⟨"com/example/concordia/concordia/index/LinkedCode", "isEmpty", "()Z"⟩ : MethodName)) hown (mvT hZ (hw _ (List.mem_of_getElem? (i := 172) rfl))) (mvT hZ (hw _ (List.mem_of_getElem? (i := 173) rfl))) (notFace_of_selects (args := #[]) (mvT hZ (hw _ (List.mem_of_getElem? (i := 175) rfl)))) (mvT hZ (hw _ (List.mem_of_getElem? (i := 175) rfl))) (mvT hZ (hw _ (List.mem_of_getElem? (i := 174) rfl))) (by decide) (backOf (W := 0) (rm_em1 l Z a0 hw [] b1 rt_37 kr_37 (-1 : Int32) (0 : Int32) (-1 : Int32) (-1 : Int32) T95.heap n0 (Nat.le_trans Z0 K96.1) p95_3 p95_6 (by decide : (-1 : Int32) = (-1 : Int32)) (by decide : ¬ ((0 : Int32) = (-1 : Int32)))) hZ (hw _ (List.mem_of_getElem? (i := 176) rfl)) (hw _ (List.mem_of_getElem? (i := 2) rfl)) (by decide) (by decide)) q97a q97c (g := (mkF m 93 #[.val (.int p1), .val (.int p2), .val (.ref b1), .val (.ref b41), .val (.int (1 : Int32)), .val (.int (p1 &&& (15 : Int32))), .unset] [(.ref b1)])) rfl (by rw [hml]; rfl) (Steps.refl _) (argsL := []) (rest := []) (lenOf pd__40_41Z rfl) rfl (by show 2 * 0 + _ ≤ _; exact Nat.le_of_eq rfl) (hb hby at_93) (fun _ _ => ⟨rfl, rfl, (by decide : 31 + 0 ≤ _), (by decide : 1183 + 0 ≤ _)⟩)
          dsimp only [Pt.U, Pt.locs, Pt.cells, Pt.slots] at X97 l97 y97 z97 st97 hQ97
          subst l97 y97 z97
          obtain ⟨rfl, Nq97, e97⟩ := hQ97
          have N97 := Fr.app N95 Nq97
          obtain ⟨fs, hr, hrun, hended, hW, hsame⟩ := X97.leave (v := some (.int (1 : Int32))) (fun h => by rw [Bd.returns] at h; cases h)
          refine ⟨_, _, pre0 _ ?_, hrun, hended, _, _, rfl, ?_, ⟨_, rfl⟩, hW, hsame.mono (by decide) (by decide)⟩
          · show Steps p.tables e below (s₁.setTop (mkF m 0 #[.val (.int p1), .val (.int p2), .unset, .unset, .unset, .unset, .unset] [])) _
            refine st1 _ ?_
            refine XS.dup X1.here hx rfl (hb hby at_3) rfl rfl ?_
            refine st16 _ ?_
            refine XS.dup X16.here hx rfl (hb hby at_7) rfl rfl ?_
            show Steps p.tables e below (T16.setTop (mkF m 8 #[.val (.int p1), .val (.int p2), .unset, .unset, .unset, .unset, .unset] [(.ref b16), (.ref b16), (.ref b1), (.ref b1)])) _
            refine st21.trans ?_
            refine st37.trans ?_
            refine XS.astoreN X37.here hx rfl (hb hby at_14) rfl rfl (l' := #[.val (.int p1), .val (.int p2), .val (.ref b1), .unset, .unset, .unset, .unset]) rfl ?_
            refine st41 _ ?_
            show Steps p.tables e below (T41.setTop (mkF m 18 #[.val (.int p1), .val (.int p2), .val (.ref b1), .unset, .unset, .unset, .unset] [(.ref b41)])) _
            refine XS.dup X41.here hx rfl (hb hby at_18) rfl rfl ?_
            refine st47.trans ?_
            refine XS.astoreN X47.here hx rfl (hb hby at_22) rfl rfl (l' := #[.val (.int p1), .val (.int p2), .val (.ref b1), .val (.ref b41), .unset, .unset, .unset]) rfl ?_
            refine XS.aloadN X47.here hx rfl (hb hby at_23) rfl rfl ?_
            show Steps p.tables e below (T47.setTop (mkF m 24 #[.val (.int p1), .val (.int p2), .val (.ref b1), .val (.ref b41), .unset, .unset, .unset] [(.ref b1)])) _
            refine st52.trans ?_
            refine XS.istore X52.here hx rfl (hb hby at_27) rfl (l' := #[.val (.int p1), .val (.int p2), .val (.ref b1), .val (.ref b41), .val (.int (1 : Int32)), .unset, .unset]) rfl ?_
            refine XS.iloadN X52.here hx rfl (hb hby at_29) rfl ?_
            refine XS.bipush X52.here hx rfl (hb hby at_30) ?_
            show Steps p.tables e below (T52.setTop (mkF m 32 #[.val (.int p1), .val (.int p2), .val (.ref b1), .val (.ref b41), .val (.int (1 : Int32)), .unset, .unset] [(.int (15 : Int32)), (.int p1)])) _
            refine XS.iand X52.here hx rfl (hb hby at_32) rfl ?_
            refine XS.istore X52.here hx rfl (hb hby at_33) rfl (l' := #[.val (.int p1), .val (.int p2), .val (.ref b1), .val (.ref b41), .val (.int (1 : Int32)), .val (.int (p1 &&& (15 : Int32))), .unset]) rfl ?_
            refine XS.iload X52.here hx rfl (hb hby at_35) rfl ?_
            refine XS.iconst X52.here hx rfl (hb hby at_37) ?_
            show Steps p.tables e below (T52.setTop (mkF m 38 #[.val (.int p1), .val (.int p2), .val (.ref b1), .val (.ref b41), .val (.int (1 : Int32)), .val (.int (p1 &&& (15 : Int32))), .unset] [(.int (1 : Int32)), (.int (p1 &&& (15 : Int32)))])) _
            refine XS.iand X52.here hx rfl (hb hby at_38) rfl ?_
            refine XS.ifYes X52.here hx rfl (pc0 := 39) (pc' := 49) rfl (hb hby at_39) rfl ((if0 _ _).trans (teq hc1).1) (by decide) (by decide) ?_
            refine XS.iload X52.here hx rfl (hb hby at_49) rfl ?_
            refine XS.iconst X52.here hx rfl (hb hby at_51) ?_
            show Steps p.tables e below (T52.setTop (mkF m 52 #[.val (.int p1), .val (.int p2), .val (.ref b1), .val (.ref b41), .val (.int (1 : Int32)), .val (.int (p1 &&& (15 : Int32))), .unset] [(.int (2 : Int32)), (.int (p1 &&& (15 : Int32)))])) _
            refine XS.iand X52.here hx rfl (hb hby at_52) rfl ?_
            refine XS.ifNo X52.here hx rfl (hb hby at_53) rfl ((if0 _ _).trans (feq hc2).1) ?_
            refine XS.aloadN X52.here hx rfl (hb hby at_56) rfl rfl ?_
            refine XS.iconst X52.here hx rfl (hb hby at_57) ?_
            show Steps p.tables e below (T52.setTop (mkF m 58 #[.val (.int p1), .val (.int p2), .val (.ref b1), .val (.ref b41), .val (.int (1 : Int32)), .val (.int (p1 &&& (15 : Int32))), .unset] [(.int (1 : Int32)), (.ref b1)])) _
            refine XS.aloadN X52.here hx rfl (hb hby at_58) rfl rfl ?_
            refine XS.iloadN X52.here hx rfl (hb hby at_59) rfl ?_
            refine st95.trans ?_
            refine XS.iload X95.here hx rfl (hb hby at_63) rfl ?_
            show Steps p.tables e below (T95.setTop (mkF m 65 #[.val (.int p1), .val (.int p2), .val (.ref b1), .val (.ref b41), .val (.int (1 : Int32)), .val (.int (p1 &&& (15 : Int32))), .unset] [(.int (p1 &&& (15 : Int32)))])) _
            refine XS.iconst X95.here hx rfl (hb hby at_65) ?_
            refine XS.iand X95.here hx rfl (hb hby at_66) rfl ?_
            refine XS.ifYes X95.here hx rfl (pc0 := 67) (pc' := 77) rfl (hb hby at_67) rfl ((if0 _ _).trans (teq hc6).1) (by decide) (by decide) ?_
            refine XS.iload X95.here hx rfl (hb hby at_77) rfl ?_
            show Steps p.tables e below (T95.setTop (mkF m 79 #[.val (.int p1), .val (.int p2), .val (.ref b1), .val (.ref b41), .val (.int (1 : Int32)), .val (.int (p1 &&& (15 : Int32))), .unset] [(.int (p1 &&& (15 : Int32)))])) _
            refine XS.bipush X95.here hx rfl (hb hby at_79) ?_
            refine XS.iand X95.here hx rfl (hb hby at_81) rfl ?_
            refine XS.ifYes X95.here hx rfl (pc0 := 82) (pc' := 92) rfl (hb hby at_82) rfl ((if0 _ _).trans (teq hc7).1) (by decide) (by decide) ?_
            refine XS.aloadN X95.here hx rfl (hb hby at_92) rfl rfl ?_
            show Steps p.tables e below (T95.setTop (mkF m 93 #[.val (.int p1), .val (.int p2), .val (.ref b1), .val (.ref b41), .val (.int (1 : Int32)), .val (.int (p1 &&& (15 : Int32))), .unset] [(.ref b1)])) _
            refine st97.trans ?_
            refine XS.istore X97.here hx rfl (hb hby at_96) rfl (l' := #[.val (.int p1), .val (.int p2), .val (.ref b1), .val (.ref b41), .val (.int (1 : Int32)), .val (.int (p1 &&& (15 : Int32))), .val (.int (0 : Int32))]) rfl ?_
            refine XS.iload X97.here hx rfl (hb hby at_98) rfl ?_
            refine XS.ifNo X97.here hx rfl (hb hby at_100) rfl ((if0 _ _).trans (feq (by decide : ¬ ((1 : Int32) = (0 : Int32)))).1) ?_
            show Steps p.tables e below (T97.setTop (mkF m 103 #[.val (.int p1), .val (.int p2), .val (.ref b1), .val (.ref b41), .val (.int (1 : Int32)), .val (.int (p1 &&& (15 : Int32))), .val (.int (0 : Int32))] [])) _
            refine XS.iload X97.here hx rfl (hb hby at_103) rfl ?_
            refine XS.iload X97.here hx rfl (hb hby at_105) rfl ?_
            refine XS.ifYes X97.here hx rfl (pc0 := 107) (pc' := 114) rfl (hb hby at_107) rfl ((if0 _ _).trans (feq (own_nz hc2)).2) (by decide) (by decide) ?_
            refine XS.iconst X97.here hx rfl (hb hby at_114) ?_
            show Steps p.tables e below (T97.setTop (mkF m 115 #[.val (.int p1), .val (.int p2), .val (.ref b1), .val (.ref b41), .val (.int (1 : Int32)), .val (.int (p1 &&& (15 : Int32))), .val (.int (0 : Int32))] [(.int (0 : Int32)), (.int (0 : Int32))])) _
            refine XS.icmpNo X97.here hx rfl (hb hby at_115) rfl (teq (by decide : (0 : Int32) = (0 : Int32))).2 ?_
            refine XS.iconst X97.here hx rfl (hb hby at_118) ?_
            refine XS.goto X97.here hx rfl (pc0 := 119) (pc' := 123) rfl (hb hby at_119) (by decide) (by decide) ?_
            exact retN X97 hx (t := .boolean) Bd.returns (by simp) (hb hby at_123) hr
          · show Q_rm0 Z p1 p2 wD h0 n0 _ T97.heap _
            exact ⟨rfl, N97⟩
        · have f99 : Exa Z T95.heap b1 "com/example/concordia/concordia/index/LinkedCode" := (f53.keep Kc95)
          have f100 : own_Ars Z T95.heap cd_37 .int (64 : Int32) := (f89.keep Kc95)
          have f101 : Exa Z T95.heap b41 "com/example/concordia/concordia/index/Program" := (f94.keep Kc95)
          have f102 : Fld Z T95.heap b41 "com/example/concordia/concordia/index/Program" "lastLiteralFrom" "I" (.int (0 : Int32)) := (p47_2.keep Kc95 (ninS (Ne.symm (Nat.ne_of_lt (Nat.lt_of_lt_of_le (f23.keep Kc37).lt (Nat.le_of_eq g41.symm)))) (ninS (Ne.symm (Nat.ne_of_lt (Nat.lt_of_lt_of_le p37_4.lt (Nat.le_of_eq g41.symm)))) (ninS (Ne.symm (Nat.ne_of_lt (Nat.lt_of_lt_of_le p37_6.lt (Nat.le_of_eq g41.symm)))) nin0))))
          have f103 : Fld Z T95.heap b41 "com/example/concordia/concordia/index/Program" "instructions" "Lcom/example/concordia/concordia/expr/IntList;" (.ref il_47) := (p47_1.keep Kc95 (ninS (Ne.symm (Nat.ne_of_lt (Nat.lt_of_lt_of_le (f23.keep Kc37).lt (Nat.le_of_eq g41.symm)))) (ninS (Ne.symm (Nat.ne_of_lt (Nat.lt_of_lt_of_le p37_4.lt (Nat.le_of_eq g41.symm)))) (ninS (Ne.symm (Nat.ne_of_lt (Nat.lt_of_lt_of_le p37_6.lt (Nat.le_of_eq g41.symm)))) nin0))))
          have f104 : Exa Z T95.heap il_47 "com/example/concordia/concordia/expr/IntList" := (p47_3.keep Kc95)
          have f105 : Fld Z T95.heap il_47 "com/example/concordia/concordia/expr/IntList" "size" "I" (.int (0 : Int32)) := (p47_4.keep Kc95 (ninS (Ne.symm (Nat.ne_of_lt (Nat.lt_of_lt_of_le ((f23.keep Kc37).ext E41).lt p47_0))) (ninS (Ne.symm (Nat.ne_of_lt (Nat.lt_of_lt_of_le (p37_4.ext E41).lt p47_0))) (ninS (Ne.symm (Nat.ne_of_lt (Nat.lt_of_lt_of_le (p37_6.ext E41).lt p47_0))) nin0))))
          obtain ⟨cq106, kq106, q106a, q106b, q106c⟩ := isOf hZ rfl f99
          obtain ⟨_, _, ⟨T106, L106, k106, n106⟩, -, X106, ⟨Lc106, hQ106, l106, y106, z106⟩, st106⟩ := X95.virtualBack hx (y := (⟨"com/example/concordia/concordia/index/LinkedCode", "add", "(ILcom/example/concordia/concordia/index/Program;I)V"⟩ : MethodName)) (z := (⟨"com/example/concordia/concordia/index/LinkedCode", "add", "(ILcom/example/concordia/concordia/index/Program;I)V"⟩ : MethodName)) hown (mvT hZ (hw _ (List.mem_of_getElem? (i := 177) rfl))) (mvT hZ (hw _ (List.mem_of_getElem? (i := 178) rfl))) (notFace_of_selects (args := #[]) (mvT hZ (hw _ (List.mem_of_getElem? (i := 180) rfl)))) (mvT hZ (hw _ (List.mem_of_getElem? (i := 180) rfl))) (mvT hZ (hw _ (List.mem_of_getElem? (i := 179) rfl))) (by decide) (backOf (W := 0) (rm_ad3 l Z a0 hw [] b1 b41 p2 cd_37 (2 : Int32) (1 : Int32) rt_37 il_47 kr_37 (.ref b41) (-1 : Int32) (0 : Int32) (-1 : Int32) (-1 : Int32) T95.heap n0 (Nat.le_trans Z0 K96.1) f99 gnb1 gncd_37 p95_0 f100 p95_1 p95_2 p95_3 p95_4 p95_5 p95_6 gnrt_37 p37_2 f101 f102 f103 f104 f105 (by decide : ¬ ((2 : Int32) < (0 : Int32))) (by decide : (2 : Int32) < (64 : Int32)) (by decide : ¬ (((2 : Int32) + (1 : Int32)) < (0 : Int32))) (by decide : ((2 : Int32) + (1 : Int32)) < (64 : Int32)) (by decide : ¬ ((64 : Int32) < ((2 : Int32) + (2 : Int32)))) (by decide : ¬ ((1024 : Int32) < ((2 : Int32) + (2 : Int32)))) (by decide : (-1 : Int32) = (-1 : Int32))) hZ (hw _ (List.mem_of_getElem? (i := 181) rfl)) (hw _ (List.mem_of_getElem? (i := 2) rfl)) (by decide) (by decide)) q106a q106c (g := (mkF m 89 #[.val (.int p1), .val (.int p2), .val (.ref b1), .val (.ref b41), .val (.int (1 : Int32)), .val (.int (p1 &&& (15 : Int32))), .unset] [(.int p2), (.ref b41), (.int (3 : Int32)), (.ref b1)])) rfl (by rw [hml]; rfl) (Steps.refl _) (argsL := [(.int (3 : Int32)), (.ref b41), (.int p2)]) (rest := []) (lenOf pd__40ILcom_47example_47concordia_47concordia_47index_47Program_59I_41V rfl) rfl (by show 2 * 0 + _ ≤ _; exact Nat.le_of_eq rfl) (hb hby at_89) (fun _ _ => ⟨rfl, rfl, (by decide : 31 + 0 ≤ _), (by decide : 1183 + 0 ≤ _)⟩)
          dsimp only [Pt.U, Pt.locs, Pt.cells, Pt.slots] at X106 l106 y106 z106 st106 hQ106
          subst l106 y106 z106
          obtain ⟨rfl, Nq106, Kc106, p106_0, p106_1, p106_2, p106_3, p106_4, p106_5, p106_6⟩ := hQ106
          have K107 : Keep h0 T106.heap [] := K96.trans Kc106 (allS (Or.inr gzb1) (allS (Or.inr gzcd_37) (allS (Or.inr gzrt_37) all0)))
          have N106 := Fr.app N95 Nq106
          have f109 : Exa Z T106.heap b1 "com/example/concordia/concordia/index/LinkedCode" := (f99.keep Kc106)
          obtain ⟨cq108, kq108, q108a, q108b, q108c⟩ := isOf hZ rfl f109
          obtain ⟨_, _, ⟨T108, L108, k108, n108⟩, -, X108, ⟨Lc108, hQ108, l108, y108, z108⟩, st108⟩ := X106.virtualBack hx (y := (⟨"com/example/concordia/concordia/index/LinkedCode", "isEmpty", "()Z"⟩ : MethodName)) (z := (⟨"com/example/concordia/concordia/index/LinkedCode", "isEmpty", "()Z"⟩ : MethodName)) hown (mvT hZ (hw _ (List.mem_of_getElem? (i := 172) rfl))) (mvT hZ (hw _ (List.mem_of_getElem? (i := 173) rfl))) (notFace_of_selects (args := #[]) (mvT hZ (hw _ (List.mem_of_getElem? (i := 175) rfl)))) (mvT hZ (hw _ (List.mem_of_getElem? (i := 175) rfl))) (mvT hZ (hw _ (List.mem_of_getElem? (i := 174) rfl))) (by decide) (backOf (W := 0) (rm_em1 l Z a0 hw [] b1 rt_37 kr_37 (-1 : Int32) (0 : Int32) (-1 : Int32) (2 : Int32) T106.heap n0 (Nat.le_trans Z0 K107.1) p106_3 p106_6 (by decide : (-1 : Int32) = (-1 : Int32)) (by decide : ¬ ((0 : Int32) = (-1 : Int32)))) hZ (hw _ (List.mem_of_getElem? (i := 176) rfl)) (hw _ (List.mem_of_getElem? (i := 2) rfl)) (by decide) (by decide)) q108a q108c (g := (mkF m 93 #[.val (.int p1), .val (.int p2), .val (.ref b1), .val (.ref b41), .val (.int (1 : Int32)), .val (.int (p1 &&& (15 : Int32))), .unset] [(.ref b1)])) rfl (by rw [hml]; rfl) (Steps.refl _) (argsL := []) (rest := []) (lenOf pd__40_41Z rfl) rfl (by show 2 * 0 + _ ≤ _; exact Nat.le_of_eq rfl) (hb hby at_93) (fun _ _ => ⟨rfl, rfl, (by decide : 31 + 0 ≤ _), (by decide : 1183 + 0 ≤ _)⟩)
          dsimp only [Pt.U, Pt.locs, Pt.cells, Pt.slots] at X108 l108 y108 z108 st108 hQ108
          subst l108 y108 z108
          obtain ⟨rfl, Nq108, e108⟩ := hQ108
          have N108 := Fr.app N106 Nq108
          obtain ⟨fs, hr, hrun, hended, hW, hsame⟩ := X108.leave (v := some (.int (1 : Int32))) (fun h => by rw [Bd.returns] at h; cases h)
          refine ⟨_, _, pre0 _ ?_, hrun, hended, _, _, rfl, ?_, ⟨_, rfl⟩, hW, hsame.mono (by decide) (by decide)⟩
          · show Steps p.tables e below (s₁.setTop (mkF m 0 #[.val (.int p1), .val (.int p2), .unset, .unset, .unset, .unset, .unset] [])) _
            refine st1 _ ?_
            refine XS.dup X1.here hx rfl (hb hby at_3) rfl rfl ?_
            refine st16 _ ?_
            refine XS.dup X16.here hx rfl (hb hby at_7) rfl rfl ?_
            show Steps p.tables e below (T16.setTop (mkF m 8 #[.val (.int p1), .val (.int p2), .unset, .unset, .unset, .unset, .unset] [(.ref b16), (.ref b16), (.ref b1), (.ref b1)])) _
            refine st21.trans ?_
            refine st37.trans ?_
            refine XS.astoreN X37.here hx rfl (hb hby at_14) rfl rfl (l' := #[.val (.int p1), .val (.int p2), .val (.ref b1), .unset, .unset, .unset, .unset]) rfl ?_
            refine st41 _ ?_
            show Steps p.tables e below (T41.setTop (mkF m 18 #[.val (.int p1), .val (.int p2), .val (.ref b1), .unset, .unset, .unset, .unset] [(.ref b41)])) _
            refine XS.dup X41.here hx rfl (hb hby at_18) rfl rfl ?_
            refine st47.trans ?_
            refine XS.astoreN X47.here hx rfl (hb hby at_22) rfl rfl (l' := #[.val (.int p1), .val (.int p2), .val (.ref b1), .val (.ref b41), .unset, .unset, .unset]) rfl ?_
            refine XS.aloadN X47.here hx rfl (hb hby at_23) rfl rfl ?_
            show Steps p.tables e below (T47.setTop (mkF m 24 #[.val (.int p1), .val (.int p2), .val (.ref b1), .val (.ref b41), .unset, .unset, .unset] [(.ref b1)])) _
            refine st52.trans ?_
            refine XS.istore X52.here hx rfl (hb hby at_27) rfl (l' := #[.val (.int p1), .val (.int p2), .val (.ref b1), .val (.ref b41), .val (.int (1 : Int32)), .unset, .unset]) rfl ?_
            refine XS.iloadN X52.here hx rfl (hb hby at_29) rfl ?_
            refine XS.bipush X52.here hx rfl (hb hby at_30) ?_
            show Steps p.tables e below (T52.setTop (mkF m 32 #[.val (.int p1), .val (.int p2), .val (.ref b1), .val (.ref b41), .val (.int (1 : Int32)), .unset, .unset] [(.int (15 : Int32)), (.int p1)])) _
            refine XS.iand X52.here hx rfl (hb hby at_32) rfl ?_
            refine XS.istore X52.here hx rfl (hb hby at_33) rfl (l' := #[.val (.int p1), .val (.int p2), .val (.ref b1), .val (.ref b41), .val (.int (1 : Int32)), .val (.int (p1 &&& (15 : Int32))), .unset]) rfl ?_
            refine XS.iload X52.here hx rfl (hb hby at_35) rfl ?_
            refine XS.iconst X52.here hx rfl (hb hby at_37) ?_
            show Steps p.tables e below (T52.setTop (mkF m 38 #[.val (.int p1), .val (.int p2), .val (.ref b1), .val (.ref b41), .val (.int (1 : Int32)), .val (.int (p1 &&& (15 : Int32))), .unset] [(.int (1 : Int32)), (.int (p1 &&& (15 : Int32)))])) _
            refine XS.iand X52.here hx rfl (hb hby at_38) rfl ?_
            refine XS.ifYes X52.here hx rfl (pc0 := 39) (pc' := 49) rfl (hb hby at_39) rfl ((if0 _ _).trans (teq hc1).1) (by decide) (by decide) ?_
            refine XS.iload X52.here hx rfl (hb hby at_49) rfl ?_
            refine XS.iconst X52.here hx rfl (hb hby at_51) ?_
            show Steps p.tables e below (T52.setTop (mkF m 52 #[.val (.int p1), .val (.int p2), .val (.ref b1), .val (.ref b41), .val (.int (1 : Int32)), .val (.int (p1 &&& (15 : Int32))), .unset] [(.int (2 : Int32)), (.int (p1 &&& (15 : Int32)))])) _
            refine XS.iand X52.here hx rfl (hb hby at_52) rfl ?_
            refine XS.ifNo X52.here hx rfl (hb hby at_53) rfl ((if0 _ _).trans (feq hc2).1) ?_
            refine XS.aloadN X52.here hx rfl (hb hby at_56) rfl rfl ?_
            refine XS.iconst X52.here hx rfl (hb hby at_57) ?_
            show Steps p.tables e below (T52.setTop (mkF m 58 #[.val (.int p1), .val (.int p2), .val (.ref b1), .val (.ref b41), .val (.int (1 : Int32)), .val (.int (p1 &&& (15 : Int32))), .unset] [(.int (1 : Int32)), (.ref b1)])) _
            refine XS.aloadN X52.here hx rfl (hb hby at_58) rfl rfl ?_
            refine XS.iloadN X52.here hx rfl (hb hby at_59) rfl ?_
            refine st95.trans ?_
            refine XS.iload X95.here hx rfl (hb hby at_63) rfl ?_
            show Steps p.tables e below (T95.setTop (mkF m 65 #[.val (.int p1), .val (.int p2), .val (.ref b1), .val (.ref b41), .val (.int (1 : Int32)), .val (.int (p1 &&& (15 : Int32))), .unset] [(.int (p1 &&& (15 : Int32)))])) _
            refine XS.iconst X95.here hx rfl (hb hby at_65) ?_
            refine XS.iand X95.here hx rfl (hb hby at_66) rfl ?_
            refine XS.ifYes X95.here hx rfl (pc0 := 67) (pc' := 77) rfl (hb hby at_67) rfl ((if0 _ _).trans (teq hc6).1) (by decide) (by decide) ?_
            refine XS.iload X95.here hx rfl (hb hby at_77) rfl ?_
            show Steps p.tables e below (T95.setTop (mkF m 79 #[.val (.int p1), .val (.int p2), .val (.ref b1), .val (.ref b41), .val (.int (1 : Int32)), .val (.int (p1 &&& (15 : Int32))), .unset] [(.int (p1 &&& (15 : Int32)))])) _
            refine XS.bipush X95.here hx rfl (hb hby at_79) ?_
            refine XS.iand X95.here hx rfl (hb hby at_81) rfl ?_
            refine XS.ifNo X95.here hx rfl (hb hby at_82) rfl ((if0 _ _).trans (feq hc7).1) ?_
            refine XS.aloadN X95.here hx rfl (hb hby at_85) rfl rfl ?_
            show Steps p.tables e below (T95.setTop (mkF m 86 #[.val (.int p1), .val (.int p2), .val (.ref b1), .val (.ref b41), .val (.int (1 : Int32)), .val (.int (p1 &&& (15 : Int32))), .unset] [(.ref b1)])) _
            refine XS.iconst X95.here hx rfl (hb hby at_86) ?_
            refine XS.aloadN X95.here hx rfl (hb hby at_87) rfl rfl ?_
            refine XS.iloadN X95.here hx rfl (hb hby at_88) rfl ?_
            refine st106.trans ?_
            show Steps p.tables e below (T106.setTop (mkF m 92 #[.val (.int p1), .val (.int p2), .val (.ref b1), .val (.ref b41), .val (.int (1 : Int32)), .val (.int (p1 &&& (15 : Int32))), .unset] [])) _
            refine XS.aloadN X106.here hx rfl (hb hby at_92) rfl rfl ?_
            refine st108.trans ?_
            refine XS.istore X108.here hx rfl (hb hby at_96) rfl (l' := #[.val (.int p1), .val (.int p2), .val (.ref b1), .val (.ref b41), .val (.int (1 : Int32)), .val (.int (p1 &&& (15 : Int32))), .val (.int (0 : Int32))]) rfl ?_
            refine XS.iload X108.here hx rfl (hb hby at_98) rfl ?_
            show Steps p.tables e below (T108.setTop (mkF m 100 #[.val (.int p1), .val (.int p2), .val (.ref b1), .val (.ref b41), .val (.int (1 : Int32)), .val (.int (p1 &&& (15 : Int32))), .val (.int (0 : Int32))] [(.int (1 : Int32))])) _
            refine XS.ifNo X108.here hx rfl (hb hby at_100) rfl ((if0 _ _).trans (feq (by decide : ¬ ((1 : Int32) = (0 : Int32)))).1) ?_
            refine XS.iload X108.here hx rfl (hb hby at_103) rfl ?_
            refine XS.iload X108.here hx rfl (hb hby at_105) rfl ?_
            refine XS.ifYes X108.here hx rfl (pc0 := 107) (pc' := 114) rfl (hb hby at_107) rfl ((if0 _ _).trans (feq (own_nz hc2)).2) (by decide) (by decide) ?_
            show Steps p.tables e below (T108.setTop (mkF m 114 #[.val (.int p1), .val (.int p2), .val (.ref b1), .val (.ref b41), .val (.int (1 : Int32)), .val (.int (p1 &&& (15 : Int32))), .val (.int (0 : Int32))] [(.int (0 : Int32))])) _
            refine XS.iconst X108.here hx rfl (hb hby at_114) ?_
            refine XS.icmpNo X108.here hx rfl (hb hby at_115) rfl (teq (by decide : (0 : Int32) = (0 : Int32))).2 ?_
            refine XS.iconst X108.here hx rfl (hb hby at_118) ?_
            refine XS.goto X108.here hx rfl (pc0 := 119) (pc' := 123) rfl (hb hby at_119) (by decide) (by decide) ?_
            show Steps p.tables e below (T108.setTop (mkF m 123 #[.val (.int p1), .val (.int p2), .val (.ref b1), .val (.ref b41), .val (.int (1 : Int32)), .val (.int (p1 &&& (15 : Int32))), .val (.int (0 : Int32))] [(.int (1 : Int32))])) _
            exact retN X108 hx (t := .boolean) Bd.returns (by simp) (hb hby at_123) hr
          · show Q_rm0 Z p1 p2 wD h0 n0 _ T108.heap _
            exact ⟨rfl, N108⟩
      · have f110 : Exa Z T95.heap b1 "com/example/concordia/concordia/index/LinkedCode" := (f53.keep Kc95)
        have f111 : own_Ars Z T95.heap cd_37 .int (64 : Int32) := (f89.keep Kc95)
        have f112 : Exa Z T95.heap b41 "com/example/concordia/concordia/index/Program" := (f94.keep Kc95)
        have f113 : Fld Z T95.heap b41 "com/example/concordia/concordia/index/Program" "lastLiteralFrom" "I" (.int (0 : Int32)) := (p47_2.keep Kc95 (ninS (Ne.symm (Nat.ne_of_lt (Nat.lt_of_lt_of_le (f23.keep Kc37).lt (Nat.le_of_eq g41.symm)))) (ninS (Ne.symm (Nat.ne_of_lt (Nat.lt_of_lt_of_le p37_4.lt (Nat.le_of_eq g41.symm)))) (ninS (Ne.symm (Nat.ne_of_lt (Nat.lt_of_lt_of_le p37_6.lt (Nat.le_of_eq g41.symm)))) nin0))))
        have f114 : Fld Z T95.heap b41 "com/example/concordia/concordia/index/Program" "instructions" "Lcom/example/concordia/concordia/expr/IntList;" (.ref il_47) := (p47_1.keep Kc95 (ninS (Ne.symm (Nat.ne_of_lt (Nat.lt_of_lt_of_le (f23.keep Kc37).lt (Nat.le_of_eq g41.symm)))) (ninS (Ne.symm (Nat.ne_of_lt (Nat.lt_of_lt_of_le p37_4.lt (Nat.le_of_eq g41.symm)))) (ninS (Ne.symm (Nat.ne_of_lt (Nat.lt_of_lt_of_le p37_6.lt (Nat.le_of_eq g41.symm)))) nin0))))
        have f115 : Exa Z T95.heap il_47 "com/example/concordia/concordia/expr/IntList" := (p47_3.keep Kc95)
        have f116 : Fld Z T95.heap il_47 "com/example/concordia/concordia/expr/IntList" "size" "I" (.int (0 : Int32)) := (p47_4.keep Kc95 (ninS (Ne.symm (Nat.ne_of_lt (Nat.lt_of_lt_of_le ((f23.keep Kc37).ext E41).lt p47_0))) (ninS (Ne.symm (Nat.ne_of_lt (Nat.lt_of_lt_of_le (p37_4.ext E41).lt p47_0))) (ninS (Ne.symm (Nat.ne_of_lt (Nat.lt_of_lt_of_le (p37_6.ext E41).lt p47_0))) nin0))))
        obtain ⟨cq117, kq117, q117a, q117b, q117c⟩ := isOf hZ rfl f110
        obtain ⟨_, _, ⟨T117, L117, k117, n117⟩, -, X117, ⟨Lc117, hQ117, l117, y117, z117⟩, st117⟩ := X95.virtualBack hx (y := (⟨"com/example/concordia/concordia/index/LinkedCode", "add", "(ILcom/example/concordia/concordia/index/Program;I)V"⟩ : MethodName)) (z := (⟨"com/example/concordia/concordia/index/LinkedCode", "add", "(ILcom/example/concordia/concordia/index/Program;I)V"⟩ : MethodName)) hown (mvT hZ (hw _ (List.mem_of_getElem? (i := 177) rfl))) (mvT hZ (hw _ (List.mem_of_getElem? (i := 178) rfl))) (notFace_of_selects (args := #[]) (mvT hZ (hw _ (List.mem_of_getElem? (i := 180) rfl)))) (mvT hZ (hw _ (List.mem_of_getElem? (i := 180) rfl))) (mvT hZ (hw _ (List.mem_of_getElem? (i := 179) rfl))) (by decide) (backOf (W := 0) (rm_ad2 l Z a0 hw [] b1 b41 p2 cd_37 (2 : Int32) (1 : Int32) rt_37 il_47 kr_37 (.ref b41) (-1 : Int32) (0 : Int32) (-1 : Int32) (-1 : Int32) T95.heap n0 (Nat.le_trans Z0 K96.1) f110 gnb1 gncd_37 p95_0 f111 p95_1 p95_2 p95_3 p95_4 p95_5 p95_6 gnrt_37 p37_2 f112 f113 f114 f115 f116 (by decide : ¬ ((2 : Int32) < (0 : Int32))) (by decide : (2 : Int32) < (64 : Int32)) (by decide : ¬ (((2 : Int32) + (1 : Int32)) < (0 : Int32))) (by decide : ((2 : Int32) + (1 : Int32)) < (64 : Int32)) (by decide : ¬ ((64 : Int32) < ((2 : Int32) + (2 : Int32)))) (by decide : ¬ ((1024 : Int32) < ((2 : Int32) + (2 : Int32)))) (by decide : (-1 : Int32) = (-1 : Int32))) hZ (hw _ (List.mem_of_getElem? (i := 181) rfl)) (hw _ (List.mem_of_getElem? (i := 2) rfl)) (by decide) (by decide)) q117a q117c (g := (mkF m 74 #[.val (.int p1), .val (.int p2), .val (.ref b1), .val (.ref b41), .val (.int (1 : Int32)), .val (.int (p1 &&& (15 : Int32))), .unset] [(.int p2), (.ref b41), (.int (2 : Int32)), (.ref b1)])) rfl (by rw [hml]; rfl) (Steps.refl _) (argsL := [(.int (2 : Int32)), (.ref b41), (.int p2)]) (rest := []) (lenOf pd__40ILcom_47example_47concordia_47concordia_47index_47Program_59I_41V rfl) rfl (by show 2 * 0 + _ ≤ _; exact Nat.le_of_eq rfl) (hb hby at_74) (fun _ _ => ⟨rfl, rfl, (by decide : 31 + 0 ≤ _), (by decide : 1183 + 0 ≤ _)⟩)
        dsimp only [Pt.U, Pt.locs, Pt.cells, Pt.slots] at X117 l117 y117 z117 st117 hQ117
        subst l117 y117 z117
        obtain ⟨rfl, Nq117, Kc117, p117_0, p117_1, p117_2, p117_3, p117_4, p117_5, p117_6⟩ := hQ117
        have K118 : Keep h0 T117.heap [] := K96.trans Kc117 (allS (Or.inr gzb1) (allS (Or.inr gzcd_37) (allS (Or.inr gzrt_37) all0)))
        have N117 := Fr.app N95 Nq117
        by_cases hc8 : ((p1 &&& (15 : Int32)) &&& (8 : Int32)) = (0 : Int32)
        · have f120 : Exa Z T117.heap b1 "com/example/concordia/concordia/index/LinkedCode" := (f110.keep Kc117)
          obtain ⟨cq119, kq119, q119a, q119b, q119c⟩ := isOf hZ rfl f120
          obtain ⟨_, _, ⟨T119, L119, k119, n119⟩, -, X119, ⟨Lc119, hQ119, l119, y119, z119⟩, st119⟩ := X117.virtualBack hx (y := (⟨"com/example/concordia/concordia/index/LinkedCode", "isEmpty", "()Z"⟩ : MethodName)) (z := (⟨"com/example/concordia/concordia/index/LinkedCode", "isEmpty", "()Z"⟩ : MethodName)) hown (mvT hZ (hw _ (List.mem_of_getElem? (i := 172) rfl))) (mvT hZ (hw _ (List.mem_of_getElem? (i := 173) rfl))) (notFace_of_selects (args := #[]) (mvT hZ (hw _ (List.mem_of_getElem? (i := 175) rfl)))) (mvT hZ (hw _ (List.mem_of_getElem? (i := 175) rfl))) (mvT hZ (hw _ (List.mem_of_getElem? (i := 174) rfl))) (by decide) (backOf (W := 0) (rm_em1 l Z a0 hw [] b1 rt_37 kr_37 (-1 : Int32) (0 : Int32) (2 : Int32) (-1 : Int32) T117.heap n0 (Nat.le_trans Z0 K118.1) p117_3 p117_6 (by decide : (-1 : Int32) = (-1 : Int32)) (by decide : ¬ ((0 : Int32) = (-1 : Int32)))) hZ (hw _ (List.mem_of_getElem? (i := 176) rfl)) (hw _ (List.mem_of_getElem? (i := 2) rfl)) (by decide) (by decide)) q119a q119c (g := (mkF m 93 #[.val (.int p1), .val (.int p2), .val (.ref b1), .val (.ref b41), .val (.int (1 : Int32)), .val (.int (p1 &&& (15 : Int32))), .unset] [(.ref b1)])) rfl (by rw [hml]; rfl) (Steps.refl _) (argsL := []) (rest := []) (lenOf pd__40_41Z rfl) rfl (by show 2 * 0 + _ ≤ _; exact Nat.le_of_eq rfl) (hb hby at_93) (fun _ _ => ⟨rfl, rfl, (by decide : 31 + 0 ≤ _), (by decide : 1183 + 0 ≤ _)⟩)
          dsimp only [Pt.U, Pt.locs, Pt.cells, Pt.slots] at X119 l119 y119 z119 st119 hQ119
          subst l119 y119 z119
          obtain ⟨rfl, Nq119, e119⟩ := hQ119
          have N119 := Fr.app N117 Nq119
          obtain ⟨fs, hr, hrun, hended, hW, hsame⟩ := X119.leave (v := some (.int (1 : Int32))) (fun h => by rw [Bd.returns] at h; cases h)
          refine ⟨_, _, pre0 _ ?_, hrun, hended, _, _, rfl, ?_, ⟨_, rfl⟩, hW, hsame.mono (by decide) (by decide)⟩
          · show Steps p.tables e below (s₁.setTop (mkF m 0 #[.val (.int p1), .val (.int p2), .unset, .unset, .unset, .unset, .unset] [])) _
            refine st1 _ ?_
            refine XS.dup X1.here hx rfl (hb hby at_3) rfl rfl ?_
            refine st16 _ ?_
            refine XS.dup X16.here hx rfl (hb hby at_7) rfl rfl ?_
            show Steps p.tables e below (T16.setTop (mkF m 8 #[.val (.int p1), .val (.int p2), .unset, .unset, .unset, .unset, .unset] [(.ref b16), (.ref b16), (.ref b1), (.ref b1)])) _
            refine st21.trans ?_
            refine st37.trans ?_
            refine XS.astoreN X37.here hx rfl (hb hby at_14) rfl rfl (l' := #[.val (.int p1), .val (.int p2), .val (.ref b1), .unset, .unset, .unset, .unset]) rfl ?_
            refine st41 _ ?_
            show Steps p.tables e below (T41.setTop (mkF m 18 #[.val (.int p1), .val (.int p2), .val (.ref b1), .unset, .unset, .unset, .unset] [(.ref b41)])) _
            refine XS.dup X41.here hx rfl (hb hby at_18) rfl rfl ?_
            refine st47.trans ?_
            refine XS.astoreN X47.here hx rfl (hb hby at_22) rfl rfl (l' := #[.val (.int p1), .val (.int p2), .val (.ref b1), .val (.ref b41), .unset, .unset, .unset]) rfl ?_
            refine XS.aloadN X47.here hx rfl (hb hby at_23) rfl rfl ?_
            show Steps p.tables e below (T47.setTop (mkF m 24 #[.val (.int p1), .val (.int p2), .val (.ref b1), .val (.ref b41), .unset, .unset, .unset] [(.ref b1)])) _
            refine st52.trans ?_
            refine XS.istore X52.here hx rfl (hb hby at_27) rfl (l' := #[.val (.int p1), .val (.int p2), .val (.ref b1), .val (.ref b41), .val (.int (1 : Int32)), .unset, .unset]) rfl ?_
            refine XS.iloadN X52.here hx rfl (hb hby at_29) rfl ?_
            refine XS.bipush X52.here hx rfl (hb hby at_30) ?_
            show Steps p.tables e below (T52.setTop (mkF m 32 #[.val (.int p1), .val (.int p2), .val (.ref b1), .val (.ref b41), .val (.int (1 : Int32)), .unset, .unset] [(.int (15 : Int32)), (.int p1)])) _
            refine XS.iand X52.here hx rfl (hb hby at_32) rfl ?_
            refine XS.istore X52.here hx rfl (hb hby at_33) rfl (l' := #[.val (.int p1), .val (.int p2), .val (.ref b1), .val (.ref b41), .val (.int (1 : Int32)), .val (.int (p1 &&& (15 : Int32))), .unset]) rfl ?_
            refine XS.iload X52.here hx rfl (hb hby at_35) rfl ?_
            refine XS.iconst X52.here hx rfl (hb hby at_37) ?_
            show Steps p.tables e below (T52.setTop (mkF m 38 #[.val (.int p1), .val (.int p2), .val (.ref b1), .val (.ref b41), .val (.int (1 : Int32)), .val (.int (p1 &&& (15 : Int32))), .unset] [(.int (1 : Int32)), (.int (p1 &&& (15 : Int32)))])) _
            refine XS.iand X52.here hx rfl (hb hby at_38) rfl ?_
            refine XS.ifYes X52.here hx rfl (pc0 := 39) (pc' := 49) rfl (hb hby at_39) rfl ((if0 _ _).trans (teq hc1).1) (by decide) (by decide) ?_
            refine XS.iload X52.here hx rfl (hb hby at_49) rfl ?_
            refine XS.iconst X52.here hx rfl (hb hby at_51) ?_
            show Steps p.tables e below (T52.setTop (mkF m 52 #[.val (.int p1), .val (.int p2), .val (.ref b1), .val (.ref b41), .val (.int (1 : Int32)), .val (.int (p1 &&& (15 : Int32))), .unset] [(.int (2 : Int32)), (.int (p1 &&& (15 : Int32)))])) _
            refine XS.iand X52.here hx rfl (hb hby at_52) rfl ?_
            refine XS.ifNo X52.here hx rfl (hb hby at_53) rfl ((if0 _ _).trans (feq hc2).1) ?_
            refine XS.aloadN X52.here hx rfl (hb hby at_56) rfl rfl ?_
            refine XS.iconst X52.here hx rfl (hb hby at_57) ?_
            show Steps p.tables e below (T52.setTop (mkF m 58 #[.val (.int p1), .val (.int p2), .val (.ref b1), .val (.ref b41), .val (.int (1 : Int32)), .val (.int (p1 &&& (15 : Int32))), .unset] [(.int (1 : Int32)), (.ref b1)])) _
            refine XS.aloadN X52.here hx rfl (hb hby at_58) rfl rfl ?_
            refine XS.iloadN X52.here hx rfl (hb hby at_59) rfl ?_
            refine st95.trans ?_
            refine XS.iload X95.here hx rfl (hb hby at_63) rfl ?_
            show Steps p.tables e below (T95.setTop (mkF m 65 #[.val (.int p1), .val (.int p2), .val (.ref b1), .val (.ref b41), .val (.int (1 : Int32)), .val (.int (p1 &&& (15 : Int32))), .unset] [(.int (p1 &&& (15 : Int32)))])) _
            refine XS.iconst X95.here hx rfl (hb hby at_65) ?_
            refine XS.iand X95.here hx rfl (hb hby at_66) rfl ?_
            refine XS.ifNo X95.here hx rfl (hb hby at_67) rfl ((if0 _ _).trans (feq hc6).1) ?_
            refine XS.aloadN X95.here hx rfl (hb hby at_70) rfl rfl ?_
            show Steps p.tables e below (T95.setTop (mkF m 71 #[.val (.int p1), .val (.int p2), .val (.ref b1), .val (.ref b41), .val (.int (1 : Int32)), .val (.int (p1 &&& (15 : Int32))), .unset] [(.ref b1)])) _
            refine XS.iconst X95.here hx rfl (hb hby at_71) ?_
            refine XS.aloadN X95.here hx rfl (hb hby at_72) rfl rfl ?_
            refine XS.iloadN X95.here hx rfl (hb hby at_73) rfl ?_
            refine st117.trans ?_
            show Steps p.tables e below (T117.setTop (mkF m 77 #[.val (.int p1), .val (.int p2), .val (.ref b1), .val (.ref b41), .val (.int (1 : Int32)), .val (.int (p1 &&& (15 : Int32))), .unset] [])) _
            refine XS.iload X117.here hx rfl (hb hby at_77) rfl ?_
            refine XS.bipush X117.here hx rfl (hb hby at_79) ?_
            refine XS.iand X117.here hx rfl (hb hby at_81) rfl ?_
            refine XS.ifYes X117.here hx rfl (pc0 := 82) (pc' := 92) rfl (hb hby at_82) rfl ((if0 _ _).trans (teq hc8).1) (by decide) (by decide) ?_
            show Steps p.tables e below (T117.setTop (mkF m 92 #[.val (.int p1), .val (.int p2), .val (.ref b1), .val (.ref b41), .val (.int (1 : Int32)), .val (.int (p1 &&& (15 : Int32))), .unset] [])) _
            refine XS.aloadN X117.here hx rfl (hb hby at_92) rfl rfl ?_
            refine st119.trans ?_
            refine XS.istore X119.here hx rfl (hb hby at_96) rfl (l' := #[.val (.int p1), .val (.int p2), .val (.ref b1), .val (.ref b41), .val (.int (1 : Int32)), .val (.int (p1 &&& (15 : Int32))), .val (.int (0 : Int32))]) rfl ?_
            refine XS.iload X119.here hx rfl (hb hby at_98) rfl ?_
            show Steps p.tables e below (T119.setTop (mkF m 100 #[.val (.int p1), .val (.int p2), .val (.ref b1), .val (.ref b41), .val (.int (1 : Int32)), .val (.int (p1 &&& (15 : Int32))), .val (.int (0 : Int32))] [(.int (1 : Int32))])) _
            refine XS.ifNo X119.here hx rfl (hb hby at_100) rfl ((if0 _ _).trans (feq (by decide : ¬ ((1 : Int32) = (0 : Int32)))).1) ?_
            refine XS.iload X119.here hx rfl (hb hby at_103) rfl ?_
            refine XS.iload X119.here hx rfl (hb hby at_105) rfl ?_
            refine XS.ifYes X119.here hx rfl (pc0 := 107) (pc' := 114) rfl (hb hby at_107) rfl ((if0 _ _).trans (feq (own_nz hc2)).2) (by decide) (by decide) ?_
            show Steps p.tables e below (T119.setTop (mkF m 114 #[.val (.int p1), .val (.int p2), .val (.ref b1), .val (.ref b41), .val (.int (1 : Int32)), .val (.int (p1 &&& (15 : Int32))), .val (.int (0 : Int32))] [(.int (0 : Int32))])) _
            refine XS.iconst X119.here hx rfl (hb hby at_114) ?_
            refine XS.icmpNo X119.here hx rfl (hb hby at_115) rfl (teq (by decide : (0 : Int32) = (0 : Int32))).2 ?_
            refine XS.iconst X119.here hx rfl (hb hby at_118) ?_
            refine XS.goto X119.here hx rfl (pc0 := 119) (pc' := 123) rfl (hb hby at_119) (by decide) (by decide) ?_
            show Steps p.tables e below (T119.setTop (mkF m 123 #[.val (.int p1), .val (.int p2), .val (.ref b1), .val (.ref b41), .val (.int (1 : Int32)), .val (.int (p1 &&& (15 : Int32))), .val (.int (0 : Int32))] [(.int (1 : Int32))])) _
            exact retN X119 hx (t := .boolean) Bd.returns (by simp) (hb hby at_123) hr
          · show Q_rm0 Z p1 p2 wD h0 n0 _ T119.heap _
            exact ⟨rfl, N119⟩
        · have f121 : Exa Z T117.heap b1 "com/example/concordia/concordia/index/LinkedCode" := (f110.keep Kc117)
          have f122 : own_Ars Z T117.heap cd_37 .int (64 : Int32) := (f111.keep Kc117)
          have f123 : Exa Z T117.heap b41 "com/example/concordia/concordia/index/Program" := (f112.keep Kc117)
          have f124 : Fld Z T117.heap b41 "com/example/concordia/concordia/index/Program" "lastLiteralFrom" "I" (.int (0 : Int32)) := (f113.keep Kc117 (ninS (Ne.symm (Nat.ne_of_lt (Nat.lt_of_lt_of_le (f23.keep Kc37).lt (Nat.le_of_eq g41.symm)))) (ninS (Ne.symm (Nat.ne_of_lt (Nat.lt_of_lt_of_le p37_4.lt (Nat.le_of_eq g41.symm)))) (ninS (Ne.symm (Nat.ne_of_lt (Nat.lt_of_lt_of_le p37_6.lt (Nat.le_of_eq g41.symm)))) nin0))))
          have f125 : Fld Z T117.heap b41 "com/example/concordia/concordia/index/Program" "instructions" "Lcom/example/concordia/concordia/expr/IntList;" (.ref il_47) := (f114.keep Kc117 (ninS (Ne.symm (Nat.ne_of_lt (Nat.lt_of_lt_of_le (f23.keep Kc37).lt (Nat.le_of_eq g41.symm)))) (ninS (Ne.symm (Nat.ne_of_lt (Nat.lt_of_lt_of_le p37_4.lt (Nat.le_of_eq g41.symm)))) (ninS (Ne.symm (Nat.ne_of_lt (Nat.lt_of_lt_of_le p37_6.lt (Nat.le_of_eq g41.symm)))) nin0))))
          have f126 : Exa Z T117.heap il_47 "com/example/concordia/concordia/expr/IntList" := (f115.keep Kc117)
          have f127 : Fld Z T117.heap il_47 "com/example/concordia/concordia/expr/IntList" "size" "I" (.int (0 : Int32)) := (f116.keep Kc117 (ninS (Ne.symm (Nat.ne_of_lt (Nat.lt_of_lt_of_le ((f23.keep Kc37).ext E41).lt p47_0))) (ninS (Ne.symm (Nat.ne_of_lt (Nat.lt_of_lt_of_le (p37_4.ext E41).lt p47_0))) (ninS (Ne.symm (Nat.ne_of_lt (Nat.lt_of_lt_of_le (p37_6.ext E41).lt p47_0))) nin0))))
          obtain ⟨cq128, kq128, q128a, q128b, q128c⟩ := isOf hZ rfl f121
          obtain ⟨_, _, ⟨T128, L128, k128, n128⟩, -, X128, ⟨Lc128, hQ128, l128, y128, z128⟩, st128⟩ := X117.virtualBack hx (y := (⟨"com/example/concordia/concordia/index/LinkedCode", "add", "(ILcom/example/concordia/concordia/index/Program;I)V"⟩ : MethodName)) (z := (⟨"com/example/concordia/concordia/index/LinkedCode", "add", "(ILcom/example/concordia/concordia/index/Program;I)V"⟩ : MethodName)) hown (mvT hZ (hw _ (List.mem_of_getElem? (i := 177) rfl))) (mvT hZ (hw _ (List.mem_of_getElem? (i := 178) rfl))) (notFace_of_selects (args := #[]) (mvT hZ (hw _ (List.mem_of_getElem? (i := 180) rfl)))) (mvT hZ (hw _ (List.mem_of_getElem? (i := 180) rfl))) (mvT hZ (hw _ (List.mem_of_getElem? (i := 179) rfl))) (by decide) (backOf (W := 0) (rm_ad3 l Z a0 hw [] b1 b41 p2 cd_37 (4 : Int32) (2 : Int32) rt_37 il_47 kr_37 (.ref b41) (-1 : Int32) (0 : Int32) (2 : Int32) (-1 : Int32) T117.heap n0 (Nat.le_trans Z0 K118.1) f121 gnb1 gncd_37 p117_0 f122 p117_1 p117_2 p117_3 p117_4 p117_5 p117_6 gnrt_37 p37_2 f123 f124 f125 f126 f127 (by decide : ¬ ((4 : Int32) < (0 : Int32))) (by decide : (4 : Int32) < (64 : Int32)) (by decide : ¬ (((4 : Int32) + (1 : Int32)) < (0 : Int32))) (by decide : ((4 : Int32) + (1 : Int32)) < (64 : Int32)) (by decide : ¬ ((64 : Int32) < ((4 : Int32) + (2 : Int32)))) (by decide : ¬ ((1024 : Int32) < ((4 : Int32) + (2 : Int32)))) (by decide : (-1 : Int32) = (-1 : Int32))) hZ (hw _ (List.mem_of_getElem? (i := 181) rfl)) (hw _ (List.mem_of_getElem? (i := 2) rfl)) (by decide) (by decide)) q128a q128c (g := (mkF m 89 #[.val (.int p1), .val (.int p2), .val (.ref b1), .val (.ref b41), .val (.int (1 : Int32)), .val (.int (p1 &&& (15 : Int32))), .unset] [(.int p2), (.ref b41), (.int (3 : Int32)), (.ref b1)])) rfl (by rw [hml]; rfl) (Steps.refl _) (argsL := [(.int (3 : Int32)), (.ref b41), (.int p2)]) (rest := []) (lenOf pd__40ILcom_47example_47concordia_47concordia_47index_47Program_59I_41V rfl) rfl (by show 2 * 0 + _ ≤ _; exact Nat.le_of_eq rfl) (hb hby at_89) (fun _ _ => ⟨rfl, rfl, (by decide : 31 + 0 ≤ _), (by decide : 1183 + 0 ≤ _)⟩)
          dsimp only [Pt.U, Pt.locs, Pt.cells, Pt.slots] at X128 l128 y128 z128 st128 hQ128
          subst l128 y128 z128
          obtain ⟨rfl, Nq128, Kc128, p128_0, p128_1, p128_2, p128_3, p128_4, p128_5, p128_6⟩ := hQ128
          have K129 : Keep h0 T128.heap [] := K118.trans Kc128 (allS (Or.inr gzb1) (allS (Or.inr gzcd_37) (allS (Or.inr gzrt_37) all0)))
          have N128 := Fr.app N117 Nq128
          have f131 : Exa Z T128.heap b1 "com/example/concordia/concordia/index/LinkedCode" := (f121.keep Kc128)
          obtain ⟨cq130, kq130, q130a, q130b, q130c⟩ := isOf hZ rfl f131
          obtain ⟨_, _, ⟨T130, L130, k130, n130⟩, -, X130, ⟨Lc130, hQ130, l130, y130, z130⟩, st130⟩ := X128.virtualBack hx (y := (⟨"com/example/concordia/concordia/index/LinkedCode", "isEmpty", "()Z"⟩ : MethodName)) (z := (⟨"com/example/concordia/concordia/index/LinkedCode", "isEmpty", "()Z"⟩ : MethodName)) hown (mvT hZ (hw _ (List.mem_of_getElem? (i := 172) rfl))) (mvT hZ (hw _ (List.mem_of_getElem? (i := 173) rfl))) (notFace_of_selects (args := #[]) (mvT hZ (hw _ (List.mem_of_getElem? (i := 175) rfl)))) (mvT hZ (hw _ (List.mem_of_getElem? (i := 175) rfl))) (mvT hZ (hw _ (List.mem_of_getElem? (i := 174) rfl))) (by decide) (backOf (W := 0) (rm_em1 l Z a0 hw [] b1 rt_37 kr_37 (-1 : Int32) (0 : Int32) (2 : Int32) (4 : Int32) T128.heap n0 (Nat.le_trans Z0 K129.1) p128_3 p128_6 (by decide : (-1 : Int32) = (-1 : Int32)) (by decide : ¬ ((0 : Int32) = (-1 : Int32)))) hZ (hw _ (List.mem_of_getElem? (i := 176) rfl)) (hw _ (List.mem_of_getElem? (i := 2) rfl)) (by decide) (by decide)) q130a q130c (g := (mkF m 93 #[.val (.int p1), .val (.int p2), .val (.ref b1), .val (.ref b41), .val (.int (1 : Int32)), .val (.int (p1 &&& (15 : Int32))), .unset] [(.ref b1)])) rfl (by rw [hml]; rfl) (Steps.refl _) (argsL := []) (rest := []) (lenOf pd__40_41Z rfl) rfl (by show 2 * 0 + _ ≤ _; exact Nat.le_of_eq rfl) (hb hby at_93) (fun _ _ => ⟨rfl, rfl, (by decide : 31 + 0 ≤ _), (by decide : 1183 + 0 ≤ _)⟩)
          dsimp only [Pt.U, Pt.locs, Pt.cells, Pt.slots] at X130 l130 y130 z130 st130 hQ130
          subst l130 y130 z130
          obtain ⟨rfl, Nq130, e130⟩ := hQ130
          have N130 := Fr.app N128 Nq130
          obtain ⟨fs, hr, hrun, hended, hW, hsame⟩ := X130.leave (v := some (.int (1 : Int32))) (fun h => by rw [Bd.returns] at h; cases h)
          refine ⟨_, _, pre0 _ ?_, hrun, hended, _, _, rfl, ?_, ⟨_, rfl⟩, hW, hsame.mono (by decide) (by decide)⟩
          · show Steps p.tables e below (s₁.setTop (mkF m 0 #[.val (.int p1), .val (.int p2), .unset, .unset, .unset, .unset, .unset] [])) _
            refine st1 _ ?_
            refine XS.dup X1.here hx rfl (hb hby at_3) rfl rfl ?_
            refine st16 _ ?_
            refine XS.dup X16.here hx rfl (hb hby at_7) rfl rfl ?_
            show Steps p.tables e below (T16.setTop (mkF m 8 #[.val (.int p1), .val (.int p2), .unset, .unset, .unset, .unset, .unset] [(.ref b16), (.ref b16), (.ref b1), (.ref b1)])) _
            refine st21.trans ?_
            refine st37.trans ?_
            refine XS.astoreN X37.here hx rfl (hb hby at_14) rfl rfl (l' := #[.val (.int p1), .val (.int p2), .val (.ref b1), .unset, .unset, .unset, .unset]) rfl ?_
            refine st41 _ ?_
            show Steps p.tables e below (T41.setTop (mkF m 18 #[.val (.int p1), .val (.int p2), .val (.ref b1), .unset, .unset, .unset, .unset] [(.ref b41)])) _
            refine XS.dup X41.here hx rfl (hb hby at_18) rfl rfl ?_
            refine st47.trans ?_
            refine XS.astoreN X47.here hx rfl (hb hby at_22) rfl rfl (l' := #[.val (.int p1), .val (.int p2), .val (.ref b1), .val (.ref b41), .unset, .unset, .unset]) rfl ?_
            refine XS.aloadN X47.here hx rfl (hb hby at_23) rfl rfl ?_
            show Steps p.tables e below (T47.setTop (mkF m 24 #[.val (.int p1), .val (.int p2), .val (.ref b1), .val (.ref b41), .unset, .unset, .unset] [(.ref b1)])) _
            refine st52.trans ?_
            refine XS.istore X52.here hx rfl (hb hby at_27) rfl (l' := #[.val (.int p1), .val (.int p2), .val (.ref b1), .val (.ref b41), .val (.int (1 : Int32)), .unset, .unset]) rfl ?_
            refine XS.iloadN X52.here hx rfl (hb hby at_29) rfl ?_
            refine XS.bipush X52.here hx rfl (hb hby at_30) ?_
            show Steps p.tables e below (T52.setTop (mkF m 32 #[.val (.int p1), .val (.int p2), .val (.ref b1), .val (.ref b41), .val (.int (1 : Int32)), .unset, .unset] [(.int (15 : Int32)), (.int p1)])) _
            refine XS.iand X52.here hx rfl (hb hby at_32) rfl ?_
            refine XS.istore X52.here hx rfl (hb hby at_33) rfl (l' := #[.val (.int p1), .val (.int p2), .val (.ref b1), .val (.ref b41), .val (.int (1 : Int32)), .val (.int (p1 &&& (15 : Int32))), .unset]) rfl ?_
            refine XS.iload X52.here hx rfl (hb hby at_35) rfl ?_
            refine XS.iconst X52.here hx rfl (hb hby at_37) ?_
            show Steps p.tables e below (T52.setTop (mkF m 38 #[.val (.int p1), .val (.int p2), .val (.ref b1), .val (.ref b41), .val (.int (1 : Int32)), .val (.int (p1 &&& (15 : Int32))), .unset] [(.int (1 : Int32)), (.int (p1 &&& (15 : Int32)))])) _
            refine XS.iand X52.here hx rfl (hb hby at_38) rfl ?_
            refine XS.ifYes X52.here hx rfl (pc0 := 39) (pc' := 49) rfl (hb hby at_39) rfl ((if0 _ _).trans (teq hc1).1) (by decide) (by decide) ?_
            refine XS.iload X52.here hx rfl (hb hby at_49) rfl ?_
            refine XS.iconst X52.here hx rfl (hb hby at_51) ?_
            show Steps p.tables e below (T52.setTop (mkF m 52 #[.val (.int p1), .val (.int p2), .val (.ref b1), .val (.ref b41), .val (.int (1 : Int32)), .val (.int (p1 &&& (15 : Int32))), .unset] [(.int (2 : Int32)), (.int (p1 &&& (15 : Int32)))])) _
            refine XS.iand X52.here hx rfl (hb hby at_52) rfl ?_
            refine XS.ifNo X52.here hx rfl (hb hby at_53) rfl ((if0 _ _).trans (feq hc2).1) ?_
            refine XS.aloadN X52.here hx rfl (hb hby at_56) rfl rfl ?_
            refine XS.iconst X52.here hx rfl (hb hby at_57) ?_
            show Steps p.tables e below (T52.setTop (mkF m 58 #[.val (.int p1), .val (.int p2), .val (.ref b1), .val (.ref b41), .val (.int (1 : Int32)), .val (.int (p1 &&& (15 : Int32))), .unset] [(.int (1 : Int32)), (.ref b1)])) _
            refine XS.aloadN X52.here hx rfl (hb hby at_58) rfl rfl ?_
            refine XS.iloadN X52.here hx rfl (hb hby at_59) rfl ?_
            refine st95.trans ?_
            refine XS.iload X95.here hx rfl (hb hby at_63) rfl ?_
            show Steps p.tables e below (T95.setTop (mkF m 65 #[.val (.int p1), .val (.int p2), .val (.ref b1), .val (.ref b41), .val (.int (1 : Int32)), .val (.int (p1 &&& (15 : Int32))), .unset] [(.int (p1 &&& (15 : Int32)))])) _
            refine XS.iconst X95.here hx rfl (hb hby at_65) ?_
            refine XS.iand X95.here hx rfl (hb hby at_66) rfl ?_
            refine XS.ifNo X95.here hx rfl (hb hby at_67) rfl ((if0 _ _).trans (feq hc6).1) ?_
            refine XS.aloadN X95.here hx rfl (hb hby at_70) rfl rfl ?_
            show Steps p.tables e below (T95.setTop (mkF m 71 #[.val (.int p1), .val (.int p2), .val (.ref b1), .val (.ref b41), .val (.int (1 : Int32)), .val (.int (p1 &&& (15 : Int32))), .unset] [(.ref b1)])) _
            refine XS.iconst X95.here hx rfl (hb hby at_71) ?_
            refine XS.aloadN X95.here hx rfl (hb hby at_72) rfl rfl ?_
            refine XS.iloadN X95.here hx rfl (hb hby at_73) rfl ?_
            refine st117.trans ?_
            show Steps p.tables e below (T117.setTop (mkF m 77 #[.val (.int p1), .val (.int p2), .val (.ref b1), .val (.ref b41), .val (.int (1 : Int32)), .val (.int (p1 &&& (15 : Int32))), .unset] [])) _
            refine XS.iload X117.here hx rfl (hb hby at_77) rfl ?_
            refine XS.bipush X117.here hx rfl (hb hby at_79) ?_
            refine XS.iand X117.here hx rfl (hb hby at_81) rfl ?_
            refine XS.ifNo X117.here hx rfl (hb hby at_82) rfl ((if0 _ _).trans (feq hc8).1) ?_
            show Steps p.tables e below (T117.setTop (mkF m 85 #[.val (.int p1), .val (.int p2), .val (.ref b1), .val (.ref b41), .val (.int (1 : Int32)), .val (.int (p1 &&& (15 : Int32))), .unset] [])) _
            refine XS.aloadN X117.here hx rfl (hb hby at_85) rfl rfl ?_
            refine XS.iconst X117.here hx rfl (hb hby at_86) ?_
            refine XS.aloadN X117.here hx rfl (hb hby at_87) rfl rfl ?_
            refine XS.iloadN X117.here hx rfl (hb hby at_88) rfl ?_
            show Steps p.tables e below (T117.setTop (mkF m 89 #[.val (.int p1), .val (.int p2), .val (.ref b1), .val (.ref b41), .val (.int (1 : Int32)), .val (.int (p1 &&& (15 : Int32))), .unset] [(.int p2), (.ref b41), (.int (3 : Int32)), (.ref b1)])) _
            refine st128.trans ?_
            refine XS.aloadN X128.here hx rfl (hb hby at_92) rfl rfl ?_
            refine st130.trans ?_
            refine XS.istore X130.here hx rfl (hb hby at_96) rfl (l' := #[.val (.int p1), .val (.int p2), .val (.ref b1), .val (.ref b41), .val (.int (1 : Int32)), .val (.int (p1 &&& (15 : Int32))), .val (.int (0 : Int32))]) rfl ?_
            show Steps p.tables e below (T130.setTop (mkF m 98 #[.val (.int p1), .val (.int p2), .val (.ref b1), .val (.ref b41), .val (.int (1 : Int32)), .val (.int (p1 &&& (15 : Int32))), .val (.int (0 : Int32))] [])) _
            refine XS.iload X130.here hx rfl (hb hby at_98) rfl ?_
            refine XS.ifNo X130.here hx rfl (hb hby at_100) rfl ((if0 _ _).trans (feq (by decide : ¬ ((1 : Int32) = (0 : Int32)))).1) ?_
            refine XS.iload X130.here hx rfl (hb hby at_103) rfl ?_
            refine XS.iload X130.here hx rfl (hb hby at_105) rfl ?_
            show Steps p.tables e below (T130.setTop (mkF m 107 #[.val (.int p1), .val (.int p2), .val (.ref b1), .val (.ref b41), .val (.int (1 : Int32)), .val (.int (p1 &&& (15 : Int32))), .val (.int (0 : Int32))] [(.int (p1 &&& (15 : Int32))), (.int (0 : Int32))])) _
            refine XS.ifYes X130.here hx rfl (pc0 := 107) (pc' := 114) rfl (hb hby at_107) rfl ((if0 _ _).trans (feq (own_nz hc2)).2) (by decide) (by decide) ?_
            refine XS.iconst X130.here hx rfl (hb hby at_114) ?_
            refine XS.icmpNo X130.here hx rfl (hb hby at_115) rfl (teq (by decide : (0 : Int32) = (0 : Int32))).2 ?_
            refine XS.iconst X130.here hx rfl (hb hby at_118) ?_
            show Steps p.tables e below (T130.setTop (mkF m 119 #[.val (.int p1), .val (.int p2), .val (.ref b1), .val (.ref b41), .val (.int (1 : Int32)), .val (.int (p1 &&& (15 : Int32))), .val (.int (0 : Int32))] [(.int (1 : Int32))])) _
            refine XS.goto X130.here hx rfl (pc0 := 119) (pc' := 123) rfl (hb hby at_119) (by decide) (by decide) ?_
            exact retN X130 hx (t := .boolean) Bd.returns (by simp) (hb hby at_123) hr
          · show Q_rm0 Z p1 p2 wD h0 n0 _ T130.heap _
            exact ⟨rfl, N130⟩
  · have f132 : Fld Z T47.heap b1 "com/example/concordia/concordia/index/LinkedCode" "code" "[I" (.ref cd_37) := ((p37_3.ext E41).keep Kc47 (ninS (Nat.ne_of_lt (Nat.lt_of_lt_of_le (f23.keep Kc37).lt (Nat.le_of_eq g41.symm))) nin0))
    have f133 : own_Ars Z T47.heap cd_37 .int (64 : Int32) := ((p37_4.ext E41).keep Kc47)
    have f134 : Fld Z T47.heap b1 "com/example/concordia/concordia/index/LinkedCode" "codeSize" "I" (.int (0 : Int32)) := ((p37_8.ext E41).keep Kc47 (ninS (Nat.ne_of_lt (Nat.lt_of_lt_of_le (f23.keep Kc37).lt (Nat.le_of_eq g41.symm))) nin0))
    have f135 : Fld Z T47.heap b1 "com/example/concordia/concordia/index/LinkedCode" "liveInstructions" "I" (.int (0 : Int32)) := ((p37_9.ext E41).keep Kc47 (ninS (Nat.ne_of_lt (Nat.lt_of_lt_of_le (f23.keep Kc37).lt (Nat.le_of_eq g41.symm))) nin0))
    have f136 : Fld Z T47.heap b1 "com/example/concordia/concordia/index/LinkedCode" "layOutAt" "I" (.int (1024 : Int32)) := ((p37_7.ext E41).keep Kc47 (ninS (Nat.ne_of_lt (Nat.lt_of_lt_of_le (f23.keep Kc37).lt (Nat.le_of_eq g41.symm))) nin0))
    have f137 : Fld Z T47.heap b1 "com/example/concordia/concordia/index/LinkedCode" "program" "Lcom/example/concordia/concordia/index/Program;" .null := ((p37_10.ext E41).keep Kc47 (ninS (Nat.ne_of_lt (Nat.lt_of_lt_of_le (f23.keep Kc37).lt (Nat.le_of_eq g41.symm))) nin0))
    have f138 : Exa Z T47.heap b41 "com/example/concordia/concordia/index/Program" := (A41.keep Kc47)
    obtain ⟨cq139, kq139, q139a, q139b, q139c⟩ := isOf hZ e52 f53
    obtain ⟨_, _, ⟨T139, L139, k139, n139⟩, -, X139, ⟨Lc139, hQ139, l139, y139, z139⟩, st139⟩ := X52.virtualBack hx (y := (⟨"com/example/concordia/concordia/index/LinkedCode", "add", "(ILcom/example/concordia/concordia/index/Program;I)V"⟩ : MethodName)) (z := (⟨"com/example/concordia/concordia/index/LinkedCode", "add", "(ILcom/example/concordia/concordia/index/Program;I)V"⟩ : MethodName)) hown (mvT hZ (hw _ (List.mem_of_getElem? (i := 177) rfl))) (mvT hZ (hw _ (List.mem_of_getElem? (i := 178) rfl))) (notFace_of_selects (args := #[]) (mvT hZ (hw _ (List.mem_of_getElem? (i := 180) rfl)))) (mvT hZ (hw _ (List.mem_of_getElem? (i := 180) rfl))) (mvT hZ (hw _ (List.mem_of_getElem? (i := 179) rfl))) (by decide) (backOf (W := 0) (rm_ad0 l Z a0 hw [] b1 b41 p2 cd_37 (0 : Int32) (0 : Int32) rt_37 il_47 kr_37 .null (-1 : Int32) (-1 : Int32) (-1 : Int32) (-1 : Int32) T47.heap n0 (Nat.le_trans Z0 K49.1) f53 gnb1 gncd_37 f132 f133 f134 f135 f50 f136 f137 f51 gnrt_37 p37_2 f138 p47_2 p47_1 p47_3 p47_4 (by decide : ¬ ((0 : Int32) < (0 : Int32))) (by decide : (0 : Int32) < (64 : Int32)) (by decide : ¬ (((0 : Int32) + (1 : Int32)) < (0 : Int32))) (by decide : ((0 : Int32) + (1 : Int32)) < (64 : Int32)) (by decide : ¬ ((64 : Int32) < ((0 : Int32) + (2 : Int32)))) (by decide : ¬ ((1024 : Int32) < ((0 : Int32) + (2 : Int32)))) (by decide : (-1 : Int32) = (-1 : Int32))) hZ (hw _ (List.mem_of_getElem? (i := 181) rfl)) (hw _ (List.mem_of_getElem? (i := 2) rfl)) (by decide) (by decide)) q139a q139c (g := (mkF m 46 #[.val (.int p1), .val (.int p2), .val (.ref b1), .val (.ref b41), .val (.int (1 : Int32)), .val (.int (p1 &&& (15 : Int32))), .unset] [(.int p2), (.ref b41), (.int (0 : Int32)), (.ref b1)])) rfl (by rw [hml]; rfl) (Steps.refl _) (argsL := [(.int (0 : Int32)), (.ref b41), (.int p2)]) (rest := []) (lenOf pd__40ILcom_47example_47concordia_47concordia_47index_47Program_59I_41V rfl) rfl (by show 2 * 0 + _ ≤ _; exact Nat.le_of_eq rfl) (hb hby at_46) (fun _ _ => ⟨rfl, e52, (by decide : 31 + 0 ≤ _), (by decide : 1183 + 0 ≤ _)⟩)
    dsimp only [Pt.U, Pt.locs, Pt.cells, Pt.slots] at X139 l139 y139 z139 st139 hQ139
    subst l139 y139 z139
    obtain ⟨rfl, Nq139, Kc139, p139_0, p139_1, p139_2, p139_3, p139_4, p139_5, p139_6⟩ := hQ139
    have K140 : Keep h0 T139.heap [] := K49.trans Kc139 (allS (Or.inr gzb1) (allS (Or.inr gzcd_37) (allS (Or.inr gzrt_37) all0)))
    have N139 := Fr.app N52 Nq139
    by_cases hc9 : ((p1 &&& (15 : Int32)) &&& (2 : Int32)) = (0 : Int32)
    · by_cases hc10 : ((p1 &&& (15 : Int32)) &&& (4 : Int32)) = (0 : Int32)
      · by_cases hc11 : ((p1 &&& (15 : Int32)) &&& (8 : Int32)) = (0 : Int32)
        · have f142 : Exa Z T139.heap b1 "com/example/concordia/concordia/index/LinkedCode" := (f53.keep Kc139)
          obtain ⟨cq141, kq141, q141a, q141b, q141c⟩ := isOf hZ rfl f142
          obtain ⟨_, _, ⟨T141, L141, k141, n141⟩, -, X141, ⟨Lc141, hQ141, l141, y141, z141⟩, st141⟩ := X139.virtualBack hx (y := (⟨"com/example/concordia/concordia/index/LinkedCode", "isEmpty", "()Z"⟩ : MethodName)) (z := (⟨"com/example/concordia/concordia/index/LinkedCode", "isEmpty", "()Z"⟩ : MethodName)) hown (mvT hZ (hw _ (List.mem_of_getElem? (i := 172) rfl))) (mvT hZ (hw _ (List.mem_of_getElem? (i := 173) rfl))) (notFace_of_selects (args := #[]) (mvT hZ (hw _ (List.mem_of_getElem? (i := 175) rfl)))) (mvT hZ (hw _ (List.mem_of_getElem? (i := 175) rfl))) (mvT hZ (hw _ (List.mem_of_getElem? (i := 174) rfl))) (by decide) (backOf (W := 0) (rm_em0 l Z a0 hw [] b1 rt_37 kr_37 (0 : Int32) (-1 : Int32) (-1 : Int32) (-1 : Int32) T139.heap n0 (Nat.le_trans Z0 K140.1) p139_3 p139_6 (by decide : ¬ ((0 : Int32) = (-1 : Int32)))) hZ (hw _ (List.mem_of_getElem? (i := 176) rfl)) (hw _ (List.mem_of_getElem? (i := 2) rfl)) (by decide) (by decide)) q141a q141c (g := (mkF m 93 #[.val (.int p1), .val (.int p2), .val (.ref b1), .val (.ref b41), .val (.int (1 : Int32)), .val (.int (p1 &&& (15 : Int32))), .unset] [(.ref b1)])) rfl (by rw [hml]; rfl) (Steps.refl _) (argsL := []) (rest := []) (lenOf pd__40_41Z rfl) rfl (by show 2 * 0 + _ ≤ _; exact Nat.le_of_eq rfl) (hb hby at_93) (fun _ _ => ⟨rfl, rfl, (by decide : 31 + 0 ≤ _), (by decide : 1183 + 0 ≤ _)⟩)
          dsimp only [Pt.U, Pt.locs, Pt.cells, Pt.slots] at X141 l141 y141 z141 st141 hQ141
          subst l141 y141 z141
          obtain ⟨rfl, Nq141, e141⟩ := hQ141
          have N141 := Fr.app N139 Nq141
          obtain ⟨fs, hr, hrun, hended, hW, hsame⟩ := X141.leave (v := some (.int (1 : Int32))) (fun h => by rw [Bd.returns] at h; cases h)
          refine ⟨_, _, pre0 _ ?_, hrun, hended, _, _, rfl, ?_, ⟨_, rfl⟩, hW, hsame.mono (by decide) (by decide)⟩
          · show Steps p.tables e below (s₁.setTop (mkF m 0 #[.val (.int p1), .val (.int p2), .unset, .unset, .unset, .unset, .unset] [])) _
            refine st1 _ ?_
            refine XS.dup X1.here hx rfl (hb hby at_3) rfl rfl ?_
            refine st16 _ ?_
            refine XS.dup X16.here hx rfl (hb hby at_7) rfl rfl ?_
            show Steps p.tables e below (T16.setTop (mkF m 8 #[.val (.int p1), .val (.int p2), .unset, .unset, .unset, .unset, .unset] [(.ref b16), (.ref b16), (.ref b1), (.ref b1)])) _
            refine st21.trans ?_
            refine st37.trans ?_
            refine XS.astoreN X37.here hx rfl (hb hby at_14) rfl rfl (l' := #[.val (.int p1), .val (.int p2), .val (.ref b1), .unset, .unset, .unset, .unset]) rfl ?_
            refine st41 _ ?_
            show Steps p.tables e below (T41.setTop (mkF m 18 #[.val (.int p1), .val (.int p2), .val (.ref b1), .unset, .unset, .unset, .unset] [(.ref b41)])) _
            refine XS.dup X41.here hx rfl (hb hby at_18) rfl rfl ?_
            refine st47.trans ?_
            refine XS.astoreN X47.here hx rfl (hb hby at_22) rfl rfl (l' := #[.val (.int p1), .val (.int p2), .val (.ref b1), .val (.ref b41), .unset, .unset, .unset]) rfl ?_
            refine XS.aloadN X47.here hx rfl (hb hby at_23) rfl rfl ?_
            show Steps p.tables e below (T47.setTop (mkF m 24 #[.val (.int p1), .val (.int p2), .val (.ref b1), .val (.ref b41), .unset, .unset, .unset] [(.ref b1)])) _
            refine st52.trans ?_
            refine XS.istore X52.here hx rfl (hb hby at_27) rfl (l' := #[.val (.int p1), .val (.int p2), .val (.ref b1), .val (.ref b41), .val (.int (1 : Int32)), .unset, .unset]) rfl ?_
            refine XS.iloadN X52.here hx rfl (hb hby at_29) rfl ?_
            refine XS.bipush X52.here hx rfl (hb hby at_30) ?_
            show Steps p.tables e below (T52.setTop (mkF m 32 #[.val (.int p1), .val (.int p2), .val (.ref b1), .val (.ref b41), .val (.int (1 : Int32)), .unset, .unset] [(.int (15 : Int32)), (.int p1)])) _
            refine XS.iand X52.here hx rfl (hb hby at_32) rfl ?_
            refine XS.istore X52.here hx rfl (hb hby at_33) rfl (l' := #[.val (.int p1), .val (.int p2), .val (.ref b1), .val (.ref b41), .val (.int (1 : Int32)), .val (.int (p1 &&& (15 : Int32))), .unset]) rfl ?_
            refine XS.iload X52.here hx rfl (hb hby at_35) rfl ?_
            refine XS.iconst X52.here hx rfl (hb hby at_37) ?_
            show Steps p.tables e below (T52.setTop (mkF m 38 #[.val (.int p1), .val (.int p2), .val (.ref b1), .val (.ref b41), .val (.int (1 : Int32)), .val (.int (p1 &&& (15 : Int32))), .unset] [(.int (1 : Int32)), (.int (p1 &&& (15 : Int32)))])) _
            refine XS.iand X52.here hx rfl (hb hby at_38) rfl ?_
            refine XS.ifNo X52.here hx rfl (hb hby at_39) rfl ((if0 _ _).trans (feq hc1).1) ?_
            refine XS.aloadN X52.here hx rfl (hb hby at_42) rfl rfl ?_
            refine XS.iconst X52.here hx rfl (hb hby at_43) ?_
            show Steps p.tables e below (T52.setTop (mkF m 44 #[.val (.int p1), .val (.int p2), .val (.ref b1), .val (.ref b41), .val (.int (1 : Int32)), .val (.int (p1 &&& (15 : Int32))), .unset] [(.int (0 : Int32)), (.ref b1)])) _
            refine XS.aloadN X52.here hx rfl (hb hby at_44) rfl rfl ?_
            refine XS.iloadN X52.here hx rfl (hb hby at_45) rfl ?_
            refine st139.trans ?_
            refine XS.iload X139.here hx rfl (hb hby at_49) rfl ?_
            show Steps p.tables e below (T139.setTop (mkF m 51 #[.val (.int p1), .val (.int p2), .val (.ref b1), .val (.ref b41), .val (.int (1 : Int32)), .val (.int (p1 &&& (15 : Int32))), .unset] [(.int (p1 &&& (15 : Int32)))])) _
            refine XS.iconst X139.here hx rfl (hb hby at_51) ?_
            refine XS.iand X139.here hx rfl (hb hby at_52) rfl ?_
            refine XS.ifYes X139.here hx rfl (pc0 := 53) (pc' := 63) rfl (hb hby at_53) rfl ((if0 _ _).trans (teq hc9).1) (by decide) (by decide) ?_
            refine XS.iload X139.here hx rfl (hb hby at_63) rfl ?_
            show Steps p.tables e below (T139.setTop (mkF m 65 #[.val (.int p1), .val (.int p2), .val (.ref b1), .val (.ref b41), .val (.int (1 : Int32)), .val (.int (p1 &&& (15 : Int32))), .unset] [(.int (p1 &&& (15 : Int32)))])) _
            refine XS.iconst X139.here hx rfl (hb hby at_65) ?_
            refine XS.iand X139.here hx rfl (hb hby at_66) rfl ?_
            refine XS.ifYes X139.here hx rfl (pc0 := 67) (pc' := 77) rfl (hb hby at_67) rfl ((if0 _ _).trans (teq hc10).1) (by decide) (by decide) ?_
            refine XS.iload X139.here hx rfl (hb hby at_77) rfl ?_
            show Steps p.tables e below (T139.setTop (mkF m 79 #[.val (.int p1), .val (.int p2), .val (.ref b1), .val (.ref b41), .val (.int (1 : Int32)), .val (.int (p1 &&& (15 : Int32))), .unset] [(.int (p1 &&& (15 : Int32)))])) _
            refine XS.bipush X139.here hx rfl (hb hby at_79) ?_
            refine XS.iand X139.here hx rfl (hb hby at_81) rfl ?_
            refine XS.ifYes X139.here hx rfl (pc0 := 82) (pc' := 92) rfl (hb hby at_82) rfl ((if0 _ _).trans (teq hc11).1) (by decide) (by decide) ?_
            refine XS.aloadN X139.here hx rfl (hb hby at_92) rfl rfl ?_
            show Steps p.tables e below (T139.setTop (mkF m 93 #[.val (.int p1), .val (.int p2), .val (.ref b1), .val (.ref b41), .val (.int (1 : Int32)), .val (.int (p1 &&& (15 : Int32))), .unset] [(.ref b1)])) _
            refine st141.trans ?_
            refine XS.istore X141.here hx rfl (hb hby at_96) rfl (l' := #[.val (.int p1), .val (.int p2), .val (.ref b1), .val (.ref b41), .val (.int (1 : Int32)), .val (.int (p1 &&& (15 : Int32))), .val (.int (0 : Int32))]) rfl ?_
            refine XS.iload X141.here hx rfl (hb hby at_98) rfl ?_
            refine XS.ifNo X141.here hx rfl (hb hby at_100) rfl ((if0 _ _).trans (feq (by decide : ¬ ((1 : Int32) = (0 : Int32)))).1) ?_
            show Steps p.tables e below (T141.setTop (mkF m 103 #[.val (.int p1), .val (.int p2), .val (.ref b1), .val (.ref b41), .val (.int (1 : Int32)), .val (.int (p1 &&& (15 : Int32))), .val (.int (0 : Int32))] [])) _
            refine XS.iload X141.here hx rfl (hb hby at_103) rfl ?_
            refine XS.iload X141.here hx rfl (hb hby at_105) rfl ?_
            refine XS.ifYes X141.here hx rfl (pc0 := 107) (pc' := 114) rfl (hb hby at_107) rfl ((if0 _ _).trans (feq (own_nz hc1)).2) (by decide) (by decide) ?_
            refine XS.iconst X141.here hx rfl (hb hby at_114) ?_
            show Steps p.tables e below (T141.setTop (mkF m 115 #[.val (.int p1), .val (.int p2), .val (.ref b1), .val (.ref b41), .val (.int (1 : Int32)), .val (.int (p1 &&& (15 : Int32))), .val (.int (0 : Int32))] [(.int (0 : Int32)), (.int (0 : Int32))])) _
            refine XS.icmpNo X141.here hx rfl (hb hby at_115) rfl (teq (by decide : (0 : Int32) = (0 : Int32))).2 ?_
            refine XS.iconst X141.here hx rfl (hb hby at_118) ?_
            refine XS.goto X141.here hx rfl (pc0 := 119) (pc' := 123) rfl (hb hby at_119) (by decide) (by decide) ?_
            exact retN X141 hx (t := .boolean) Bd.returns (by simp) (hb hby at_123) hr
          · show Q_rm0 Z p1 p2 wD h0 n0 _ T141.heap _
            exact ⟨rfl, N141⟩
        · have f143 : Exa Z T139.heap b1 "com/example/concordia/concordia/index/LinkedCode" := (f53.keep Kc139)
          have f144 : own_Ars Z T139.heap cd_37 .int (64 : Int32) := (f133.keep Kc139)
          have f145 : Exa Z T139.heap b41 "com/example/concordia/concordia/index/Program" := (f138.keep Kc139)
          have f146 : Fld Z T139.heap b41 "com/example/concordia/concordia/index/Program" "lastLiteralFrom" "I" (.int (0 : Int32)) := (p47_2.keep Kc139 (ninS (Ne.symm (Nat.ne_of_lt (Nat.lt_of_lt_of_le (f23.keep Kc37).lt (Nat.le_of_eq g41.symm)))) (ninS (Ne.symm (Nat.ne_of_lt (Nat.lt_of_lt_of_le p37_4.lt (Nat.le_of_eq g41.symm)))) (ninS (Ne.symm (Nat.ne_of_lt (Nat.lt_of_lt_of_le p37_6.lt (Nat.le_of_eq g41.symm)))) nin0))))
          have f147 : Fld Z T139.heap b41 "com/example/concordia/concordia/index/Program" "instructions" "Lcom/example/concordia/concordia/expr/IntList;" (.ref il_47) := (p47_1.keep Kc139 (ninS (Ne.symm (Nat.ne_of_lt (Nat.lt_of_lt_of_le (f23.keep Kc37).lt (Nat.le_of_eq g41.symm)))) (ninS (Ne.symm (Nat.ne_of_lt (Nat.lt_of_lt_of_le p37_4.lt (Nat.le_of_eq g41.symm)))) (ninS (Ne.symm (Nat.ne_of_lt (Nat.lt_of_lt_of_le p37_6.lt (Nat.le_of_eq g41.symm)))) nin0))))
          have f148 : Exa Z T139.heap il_47 "com/example/concordia/concordia/expr/IntList" := (p47_3.keep Kc139)
          have f149 : Fld Z T139.heap il_47 "com/example/concordia/concordia/expr/IntList" "size" "I" (.int (0 : Int32)) := (p47_4.keep Kc139 (ninS (Ne.symm (Nat.ne_of_lt (Nat.lt_of_lt_of_le ((f23.keep Kc37).ext E41).lt p47_0))) (ninS (Ne.symm (Nat.ne_of_lt (Nat.lt_of_lt_of_le (p37_4.ext E41).lt p47_0))) (ninS (Ne.symm (Nat.ne_of_lt (Nat.lt_of_lt_of_le (p37_6.ext E41).lt p47_0))) nin0))))
          obtain ⟨cq150, kq150, q150a, q150b, q150c⟩ := isOf hZ rfl f143
          obtain ⟨_, _, ⟨T150, L150, k150, n150⟩, -, X150, ⟨Lc150, hQ150, l150, y150, z150⟩, st150⟩ := X139.virtualBack hx (y := (⟨"com/example/concordia/concordia/index/LinkedCode", "add", "(ILcom/example/concordia/concordia/index/Program;I)V"⟩ : MethodName)) (z := (⟨"com/example/concordia/concordia/index/LinkedCode", "add", "(ILcom/example/concordia/concordia/index/Program;I)V"⟩ : MethodName)) hown (mvT hZ (hw _ (List.mem_of_getElem? (i := 177) rfl))) (mvT hZ (hw _ (List.mem_of_getElem? (i := 178) rfl))) (notFace_of_selects (args := #[]) (mvT hZ (hw _ (List.mem_of_getElem? (i := 180) rfl)))) (mvT hZ (hw _ (List.mem_of_getElem? (i := 180) rfl))) (mvT hZ (hw _ (List.mem_of_getElem? (i := 179) rfl))) (by decide) (backOf (W := 0) (rm_ad3 l Z a0 hw [] b1 b41 p2 cd_37 (2 : Int32) (1 : Int32) rt_37 il_47 kr_37 (.ref b41) (0 : Int32) (-1 : Int32) (-1 : Int32) (-1 : Int32) T139.heap n0 (Nat.le_trans Z0 K140.1) f143 gnb1 gncd_37 p139_0 f144 p139_1 p139_2 p139_3 p139_4 p139_5 p139_6 gnrt_37 p37_2 f145 f146 f147 f148 f149 (by decide : ¬ ((2 : Int32) < (0 : Int32))) (by decide : (2 : Int32) < (64 : Int32)) (by decide : ¬ (((2 : Int32) + (1 : Int32)) < (0 : Int32))) (by decide : ((2 : Int32) + (1 : Int32)) < (64 : Int32)) (by decide : ¬ ((64 : Int32) < ((2 : Int32) + (2 : Int32)))) (by decide : ¬ ((1024 : Int32) < ((2 : Int32) + (2 : Int32)))) (by decide : (-1 : Int32) = (-1 : Int32))) hZ (hw _ (List.mem_of_getElem? (i := 181) rfl)) (hw _ (List.mem_of_getElem? (i := 2) rfl)) (by decide) (by decide)) q150a q150c (g := (mkF m 89 #[.val (.int p1), .val (.int p2), .val (.ref b1), .val (.ref b41), .val (.int (1 : Int32)), .val (.int (p1 &&& (15 : Int32))), .unset] [(.int p2), (.ref b41), (.int (3 : Int32)), (.ref b1)])) rfl (by rw [hml]; rfl) (Steps.refl _) (argsL := [(.int (3 : Int32)), (.ref b41), (.int p2)]) (rest := []) (lenOf pd__40ILcom_47example_47concordia_47concordia_47index_47Program_59I_41V rfl) rfl (by show 2 * 0 + _ ≤ _; exact Nat.le_of_eq rfl) (hb hby at_89) (fun _ _ => ⟨rfl, rfl, (by decide : 31 + 0 ≤ _), (by decide : 1183 + 0 ≤ _)⟩)
          dsimp only [Pt.U, Pt.locs, Pt.cells, Pt.slots] at X150 l150 y150 z150 st150 hQ150
          subst l150 y150 z150
          obtain ⟨rfl, Nq150, Kc150, p150_0, p150_1, p150_2, p150_3, p150_4, p150_5, p150_6⟩ := hQ150
          have K151 : Keep h0 T150.heap [] := K140.trans Kc150 (allS (Or.inr gzb1) (allS (Or.inr gzcd_37) (allS (Or.inr gzrt_37) all0)))
          have N150 := Fr.app N139 Nq150
          have f153 : Exa Z T150.heap b1 "com/example/concordia/concordia/index/LinkedCode" := (f143.keep Kc150)
          obtain ⟨cq152, kq152, q152a, q152b, q152c⟩ := isOf hZ rfl f153
          obtain ⟨_, _, ⟨T152, L152, k152, n152⟩, -, X152, ⟨Lc152, hQ152, l152, y152, z152⟩, st152⟩ := X150.virtualBack hx (y := (⟨"com/example/concordia/concordia/index/LinkedCode", "isEmpty", "()Z"⟩ : MethodName)) (z := (⟨"com/example/concordia/concordia/index/LinkedCode", "isEmpty", "()Z"⟩ : MethodName)) hown (mvT hZ (hw _ (List.mem_of_getElem? (i := 172) rfl))) (mvT hZ (hw _ (List.mem_of_getElem? (i := 173) rfl))) (notFace_of_selects (args := #[]) (mvT hZ (hw _ (List.mem_of_getElem? (i := 175) rfl)))) (mvT hZ (hw _ (List.mem_of_getElem? (i := 175) rfl))) (mvT hZ (hw _ (List.mem_of_getElem? (i := 174) rfl))) (by decide) (backOf (W := 0) (rm_em0 l Z a0 hw [] b1 rt_37 kr_37 (0 : Int32) (-1 : Int32) (-1 : Int32) (2 : Int32) T150.heap n0 (Nat.le_trans Z0 K151.1) p150_3 p150_6 (by decide : ¬ ((0 : Int32) = (-1 : Int32)))) hZ (hw _ (List.mem_of_getElem? (i := 176) rfl)) (hw _ (List.mem_of_getElem? (i := 2) rfl)) (by decide) (by decide)) q152a q152c (g := (mkF m 93 #[.val (.int p1), .val (.int p2), .val (.ref b1), .val (.ref b41), .val (.int (1 : Int32)), .val (.int (p1 &&& (15 : Int32))), .unset] [(.ref b1)])) rfl (by rw [hml]; rfl) (Steps.refl _) (argsL := []) (rest := []) (lenOf pd__40_41Z rfl) rfl (by show 2 * 0 + _ ≤ _; exact Nat.le_of_eq rfl) (hb hby at_93) (fun _ _ => ⟨rfl, rfl, (by decide : 31 + 0 ≤ _), (by decide : 1183 + 0 ≤ _)⟩)
          dsimp only [Pt.U, Pt.locs, Pt.cells, Pt.slots] at X152 l152 y152 z152 st152 hQ152
          subst l152 y152 z152
          obtain ⟨rfl, Nq152, e152⟩ := hQ152
          have N152 := Fr.app N150 Nq152
          obtain ⟨fs, hr, hrun, hended, hW, hsame⟩ := X152.leave (v := some (.int (1 : Int32))) (fun h => by rw [Bd.returns] at h; cases h)
          refine ⟨_, _, pre0 _ ?_, hrun, hended, _, _, rfl, ?_, ⟨_, rfl⟩, hW, hsame.mono (by decide) (by decide)⟩
          · show Steps p.tables e below (s₁.setTop (mkF m 0 #[.val (.int p1), .val (.int p2), .unset, .unset, .unset, .unset, .unset] [])) _
            refine st1 _ ?_
            refine XS.dup X1.here hx rfl (hb hby at_3) rfl rfl ?_
            refine st16 _ ?_
            refine XS.dup X16.here hx rfl (hb hby at_7) rfl rfl ?_
            show Steps p.tables e below (T16.setTop (mkF m 8 #[.val (.int p1), .val (.int p2), .unset, .unset, .unset, .unset, .unset] [(.ref b16), (.ref b16), (.ref b1), (.ref b1)])) _
            refine st21.trans ?_
            refine st37.trans ?_
            refine XS.astoreN X37.here hx rfl (hb hby at_14) rfl rfl (l' := #[.val (.int p1), .val (.int p2), .val (.ref b1), .unset, .unset, .unset, .unset]) rfl ?_
            refine st41 _ ?_
            show Steps p.tables e below (T41.setTop (mkF m 18 #[.val (.int p1), .val (.int p2), .val (.ref b1), .unset, .unset, .unset, .unset] [(.ref b41)])) _
            refine XS.dup X41.here hx rfl (hb hby at_18) rfl rfl ?_
            refine st47.trans ?_
            refine XS.astoreN X47.here hx rfl (hb hby at_22) rfl rfl (l' := #[.val (.int p1), .val (.int p2), .val (.ref b1), .val (.ref b41), .unset, .unset, .unset]) rfl ?_
            refine XS.aloadN X47.here hx rfl (hb hby at_23) rfl rfl ?_
            show Steps p.tables e below (T47.setTop (mkF m 24 #[.val (.int p1), .val (.int p2), .val (.ref b1), .val (.ref b41), .unset, .unset, .unset] [(.ref b1)])) _
            refine st52.trans ?_
            refine XS.istore X52.here hx rfl (hb hby at_27) rfl (l' := #[.val (.int p1), .val (.int p2), .val (.ref b1), .val (.ref b41), .val (.int (1 : Int32)), .unset, .unset]) rfl ?_
            refine XS.iloadN X52.here hx rfl (hb hby at_29) rfl ?_
            refine XS.bipush X52.here hx rfl (hb hby at_30) ?_
            show Steps p.tables e below (T52.setTop (mkF m 32 #[.val (.int p1), .val (.int p2), .val (.ref b1), .val (.ref b41), .val (.int (1 : Int32)), .unset, .unset] [(.int (15 : Int32)), (.int p1)])) _
            refine XS.iand X52.here hx rfl (hb hby at_32) rfl ?_
            refine XS.istore X52.here hx rfl (hb hby at_33) rfl (l' := #[.val (.int p1), .val (.int p2), .val (.ref b1), .val (.ref b41), .val (.int (1 : Int32)), .val (.int (p1 &&& (15 : Int32))), .unset]) rfl ?_
            refine XS.iload X52.here hx rfl (hb hby at_35) rfl ?_
            refine XS.iconst X52.here hx rfl (hb hby at_37) ?_
            show Steps p.tables e below (T52.setTop (mkF m 38 #[.val (.int p1), .val (.int p2), .val (.ref b1), .val (.ref b41), .val (.int (1 : Int32)), .val (.int (p1 &&& (15 : Int32))), .unset] [(.int (1 : Int32)), (.int (p1 &&& (15 : Int32)))])) _
            refine XS.iand X52.here hx rfl (hb hby at_38) rfl ?_
            refine XS.ifNo X52.here hx rfl (hb hby at_39) rfl ((if0 _ _).trans (feq hc1).1) ?_
            refine XS.aloadN X52.here hx rfl (hb hby at_42) rfl rfl ?_
            refine XS.iconst X52.here hx rfl (hb hby at_43) ?_
            show Steps p.tables e below (T52.setTop (mkF m 44 #[.val (.int p1), .val (.int p2), .val (.ref b1), .val (.ref b41), .val (.int (1 : Int32)), .val (.int (p1 &&& (15 : Int32))), .unset] [(.int (0 : Int32)), (.ref b1)])) _
            refine XS.aloadN X52.here hx rfl (hb hby at_44) rfl rfl ?_
            refine XS.iloadN X52.here hx rfl (hb hby at_45) rfl ?_
            refine st139.trans ?_
            refine XS.iload X139.here hx rfl (hb hby at_49) rfl ?_
            show Steps p.tables e below (T139.setTop (mkF m 51 #[.val (.int p1), .val (.int p2), .val (.ref b1), .val (.ref b41), .val (.int (1 : Int32)), .val (.int (p1 &&& (15 : Int32))), .unset] [(.int (p1 &&& (15 : Int32)))])) _
            refine XS.iconst X139.here hx rfl (hb hby at_51) ?_
            refine XS.iand X139.here hx rfl (hb hby at_52) rfl ?_
            refine XS.ifYes X139.here hx rfl (pc0 := 53) (pc' := 63) rfl (hb hby at_53) rfl ((if0 _ _).trans (teq hc9).1) (by decide) (by decide) ?_
            refine XS.iload X139.here hx rfl (hb hby at_63) rfl ?_
            show Steps p.tables e below (T139.setTop (mkF m 65 #[.val (.int p1), .val (.int p2), .val (.ref b1), .val (.ref b41), .val (.int (1 : Int32)), .val (.int (p1 &&& (15 : Int32))), .unset] [(.int (p1 &&& (15 : Int32)))])) _
            refine XS.iconst X139.here hx rfl (hb hby at_65) ?_
            refine XS.iand X139.here hx rfl (hb hby at_66) rfl ?_
            refine XS.ifYes X139.here hx rfl (pc0 := 67) (pc' := 77) rfl (hb hby at_67) rfl ((if0 _ _).trans (teq hc10).1) (by decide) (by decide) ?_
            refine XS.iload X139.here hx rfl (hb hby at_77) rfl ?_
            show Steps p.tables e below (T139.setTop (mkF m 79 #[.val (.int p1), .val (.int p2), .val (.ref b1), .val (.ref b41), .val (.int (1 : Int32)), .val (.int (p1 &&& (15 : Int32))), .unset] [(.int (p1 &&& (15 : Int32)))])) _
            refine XS.bipush X139.here hx rfl (hb hby at_79) ?_
            refine XS.iand X139.here hx rfl (hb hby at_81) rfl ?_
            refine XS.ifNo X139.here hx rfl (hb hby at_82) rfl ((if0 _ _).trans (feq hc11).1) ?_
            refine XS.aloadN X139.here hx rfl (hb hby at_85) rfl rfl ?_
            show Steps p.tables e below (T139.setTop (mkF m 86 #[.val (.int p1), .val (.int p2), .val (.ref b1), .val (.ref b41), .val (.int (1 : Int32)), .val (.int (p1 &&& (15 : Int32))), .unset] [(.ref b1)])) _
            refine XS.iconst X139.here hx rfl (hb hby at_86) ?_
            refine XS.aloadN X139.here hx rfl (hb hby at_87) rfl rfl ?_
            refine XS.iloadN X139.here hx rfl (hb hby at_88) rfl ?_
            refine st150.trans ?_
            show Steps p.tables e below (T150.setTop (mkF m 92 #[.val (.int p1), .val (.int p2), .val (.ref b1), .val (.ref b41), .val (.int (1 : Int32)), .val (.int (p1 &&& (15 : Int32))), .unset] [])) _
            refine XS.aloadN X150.here hx rfl (hb hby at_92) rfl rfl ?_
            refine st152.trans ?_
            refine XS.istore X152.here hx rfl (hb hby at_96) rfl (l' := #[.val (.int p1), .val (.int p2), .val (.ref b1), .val (.ref b41), .val (.int (1 : Int32)), .val (.int (p1 &&& (15 : Int32))), .val (.int (0 : Int32))]) rfl ?_
            refine XS.iload X152.here hx rfl (hb hby at_98) rfl ?_
            show Steps p.tables e below (T152.setTop (mkF m 100 #[.val (.int p1), .val (.int p2), .val (.ref b1), .val (.ref b41), .val (.int (1 : Int32)), .val (.int (p1 &&& (15 : Int32))), .val (.int (0 : Int32))] [(.int (1 : Int32))])) _
            refine XS.ifNo X152.here hx rfl (hb hby at_100) rfl ((if0 _ _).trans (feq (by decide : ¬ ((1 : Int32) = (0 : Int32)))).1) ?_
            refine XS.iload X152.here hx rfl (hb hby at_103) rfl ?_
            refine XS.iload X152.here hx rfl (hb hby at_105) rfl ?_
            refine XS.ifYes X152.here hx rfl (pc0 := 107) (pc' := 114) rfl (hb hby at_107) rfl ((if0 _ _).trans (feq (own_nz hc1)).2) (by decide) (by decide) ?_
            show Steps p.tables e below (T152.setTop (mkF m 114 #[.val (.int p1), .val (.int p2), .val (.ref b1), .val (.ref b41), .val (.int (1 : Int32)), .val (.int (p1 &&& (15 : Int32))), .val (.int (0 : Int32))] [(.int (0 : Int32))])) _
            refine XS.iconst X152.here hx rfl (hb hby at_114) ?_
            refine XS.icmpNo X152.here hx rfl (hb hby at_115) rfl (teq (by decide : (0 : Int32) = (0 : Int32))).2 ?_
            refine XS.iconst X152.here hx rfl (hb hby at_118) ?_
            refine XS.goto X152.here hx rfl (pc0 := 119) (pc' := 123) rfl (hb hby at_119) (by decide) (by decide) ?_
            show Steps p.tables e below (T152.setTop (mkF m 123 #[.val (.int p1), .val (.int p2), .val (.ref b1), .val (.ref b41), .val (.int (1 : Int32)), .val (.int (p1 &&& (15 : Int32))), .val (.int (0 : Int32))] [(.int (1 : Int32))])) _
            exact retN X152 hx (t := .boolean) Bd.returns (by simp) (hb hby at_123) hr
          · show Q_rm0 Z p1 p2 wD h0 n0 _ T152.heap _
            exact ⟨rfl, N152⟩
      · have f154 : Exa Z T139.heap b1 "com/example/concordia/concordia/index/LinkedCode" := (f53.keep Kc139)
        have f155 : own_Ars Z T139.heap cd_37 .int (64 : Int32) := (f133.keep Kc139)
        have f156 : Exa Z T139.heap b41 "com/example/concordia/concordia/index/Program" := (f138.keep Kc139)
        have f157 : Fld Z T139.heap b41 "com/example/concordia/concordia/index/Program" "lastLiteralFrom" "I" (.int (0 : Int32)) := (p47_2.keep Kc139 (ninS (Ne.symm (Nat.ne_of_lt (Nat.lt_of_lt_of_le (f23.keep Kc37).lt (Nat.le_of_eq g41.symm)))) (ninS (Ne.symm (Nat.ne_of_lt (Nat.lt_of_lt_of_le p37_4.lt (Nat.le_of_eq g41.symm)))) (ninS (Ne.symm (Nat.ne_of_lt (Nat.lt_of_lt_of_le p37_6.lt (Nat.le_of_eq g41.symm)))) nin0))))
        have f158 : Fld Z T139.heap b41 "com/example/concordia/concordia/index/Program" "instructions" "Lcom/example/concordia/concordia/expr/IntList;" (.ref il_47) := (p47_1.keep Kc139 (ninS (Ne.symm (Nat.ne_of_lt (Nat.lt_of_lt_of_le (f23.keep Kc37).lt (Nat.le_of_eq g41.symm)))) (ninS (Ne.symm (Nat.ne_of_lt (Nat.lt_of_lt_of_le p37_4.lt (Nat.le_of_eq g41.symm)))) (ninS (Ne.symm (Nat.ne_of_lt (Nat.lt_of_lt_of_le p37_6.lt (Nat.le_of_eq g41.symm)))) nin0))))
        have f159 : Exa Z T139.heap il_47 "com/example/concordia/concordia/expr/IntList" := (p47_3.keep Kc139)
        have f160 : Fld Z T139.heap il_47 "com/example/concordia/concordia/expr/IntList" "size" "I" (.int (0 : Int32)) := (p47_4.keep Kc139 (ninS (Ne.symm (Nat.ne_of_lt (Nat.lt_of_lt_of_le ((f23.keep Kc37).ext E41).lt p47_0))) (ninS (Ne.symm (Nat.ne_of_lt (Nat.lt_of_lt_of_le (p37_4.ext E41).lt p47_0))) (ninS (Ne.symm (Nat.ne_of_lt (Nat.lt_of_lt_of_le (p37_6.ext E41).lt p47_0))) nin0))))
        obtain ⟨cq161, kq161, q161a, q161b, q161c⟩ := isOf hZ rfl f154
        obtain ⟨_, _, ⟨T161, L161, k161, n161⟩, -, X161, ⟨Lc161, hQ161, l161, y161, z161⟩, st161⟩ := X139.virtualBack hx (y := (⟨"com/example/concordia/concordia/index/LinkedCode", "add", "(ILcom/example/concordia/concordia/index/Program;I)V"⟩ : MethodName)) (z := (⟨"com/example/concordia/concordia/index/LinkedCode", "add", "(ILcom/example/concordia/concordia/index/Program;I)V"⟩ : MethodName)) hown (mvT hZ (hw _ (List.mem_of_getElem? (i := 177) rfl))) (mvT hZ (hw _ (List.mem_of_getElem? (i := 178) rfl))) (notFace_of_selects (args := #[]) (mvT hZ (hw _ (List.mem_of_getElem? (i := 180) rfl)))) (mvT hZ (hw _ (List.mem_of_getElem? (i := 180) rfl))) (mvT hZ (hw _ (List.mem_of_getElem? (i := 179) rfl))) (by decide) (backOf (W := 0) (rm_ad2 l Z a0 hw [] b1 b41 p2 cd_37 (2 : Int32) (1 : Int32) rt_37 il_47 kr_37 (.ref b41) (0 : Int32) (-1 : Int32) (-1 : Int32) (-1 : Int32) T139.heap n0 (Nat.le_trans Z0 K140.1) f154 gnb1 gncd_37 p139_0 f155 p139_1 p139_2 p139_3 p139_4 p139_5 p139_6 gnrt_37 p37_2 f156 f157 f158 f159 f160 (by decide : ¬ ((2 : Int32) < (0 : Int32))) (by decide : (2 : Int32) < (64 : Int32)) (by decide : ¬ (((2 : Int32) + (1 : Int32)) < (0 : Int32))) (by decide : ((2 : Int32) + (1 : Int32)) < (64 : Int32)) (by decide : ¬ ((64 : Int32) < ((2 : Int32) + (2 : Int32)))) (by decide : ¬ ((1024 : Int32) < ((2 : Int32) + (2 : Int32)))) (by decide : (-1 : Int32) = (-1 : Int32))) hZ (hw _ (List.mem_of_getElem? (i := 181) rfl)) (hw _ (List.mem_of_getElem? (i := 2) rfl)) (by decide) (by decide)) q161a q161c (g := (mkF m 74 #[.val (.int p1), .val (.int p2), .val (.ref b1), .val (.ref b41), .val (.int (1 : Int32)), .val (.int (p1 &&& (15 : Int32))), .unset] [(.int p2), (.ref b41), (.int (2 : Int32)), (.ref b1)])) rfl (by rw [hml]; rfl) (Steps.refl _) (argsL := [(.int (2 : Int32)), (.ref b41), (.int p2)]) (rest := []) (lenOf pd__40ILcom_47example_47concordia_47concordia_47index_47Program_59I_41V rfl) rfl (by show 2 * 0 + _ ≤ _; exact Nat.le_of_eq rfl) (hb hby at_74) (fun _ _ => ⟨rfl, rfl, (by decide : 31 + 0 ≤ _), (by decide : 1183 + 0 ≤ _)⟩)
        dsimp only [Pt.U, Pt.locs, Pt.cells, Pt.slots] at X161 l161 y161 z161 st161 hQ161
        subst l161 y161 z161
        obtain ⟨rfl, Nq161, Kc161, p161_0, p161_1, p161_2, p161_3, p161_4, p161_5, p161_6⟩ := hQ161
        have K162 : Keep h0 T161.heap [] := K140.trans Kc161 (allS (Or.inr gzb1) (allS (Or.inr gzcd_37) (allS (Or.inr gzrt_37) all0)))
        have N161 := Fr.app N139 Nq161
        by_cases hc12 : ((p1 &&& (15 : Int32)) &&& (8 : Int32)) = (0 : Int32)
        · have f164 : Exa Z T161.heap b1 "com/example/concordia/concordia/index/LinkedCode" := (f154.keep Kc161)
          obtain ⟨cq163, kq163, q163a, q163b, q163c⟩ := isOf hZ rfl f164
          obtain ⟨_, _, ⟨T163, L163, k163, n163⟩, -, X163, ⟨Lc163, hQ163, l163, y163, z163⟩, st163⟩ := X161.virtualBack hx (y := (⟨"com/example/concordia/concordia/index/LinkedCode", "isEmpty", "()Z"⟩ : MethodName)) (z := (⟨"com/example/concordia/concordia/index/LinkedCode", "isEmpty", "()Z"⟩ : MethodName)) hown (mvT hZ (hw _ (List.mem_of_getElem? (i := 172) rfl))) (mvT hZ (hw _ (List.mem_of_getElem? (i := 173) rfl))) (notFace_of_selects (args := #[]) (mvT hZ (hw _ (List.mem_of_getElem? (i := 175) rfl)))) (mvT hZ (hw _ (List.mem_of_getElem? (i := 175) rfl))) (mvT hZ (hw _ (List.mem_of_getElem? (i := 174) rfl))) (by decide) (backOf (W := 0) (rm_em0 l Z a0 hw [] b1 rt_37 kr_37 (0 : Int32) (-1 : Int32) (2 : Int32) (-1 : Int32) T161.heap n0 (Nat.le_trans Z0 K162.1) p161_3 p161_6 (by decide : ¬ ((0 : Int32) = (-1 : Int32)))) hZ (hw _ (List.mem_of_getElem? (i := 176) rfl)) (hw _ (List.mem_of_getElem? (i := 2) rfl)) (by decide) (by decide)) q163a q163c (g := (mkF m 93 #[.val (.int p1), .val (.int p2), .val (.ref b1), .val (.ref b41), .val (.int (1 : Int32)), .val (.int (p1 &&& (15 : Int32))), .unset] [(.ref b1)])) rfl (by rw [hml]; rfl) (Steps.refl _) (argsL := []) (rest := []) (lenOf pd__40_41Z rfl) rfl (by show 2 * 0 + _ ≤ _; exact Nat.le_of_eq rfl) (hb hby at_93) (fun _ _ => ⟨rfl, rfl, (by decide : 31 + 0 ≤ _), (by decide : 1183 + 0 ≤ _)⟩)
          dsimp only [Pt.U, Pt.locs, Pt.cells, Pt.slots] at X163 l163 y163 z163 st163 hQ163
          subst l163 y163 z163
          obtain ⟨rfl, Nq163, e163⟩ := hQ163
          have N163 := Fr.app N161 Nq163
          obtain ⟨fs, hr, hrun, hended, hW, hsame⟩ := X163.leave (v := some (.int (1 : Int32))) (fun h => by rw [Bd.returns] at h; cases h)
          refine ⟨_, _, pre0 _ ?_, hrun, hended, _, _, rfl, ?_, ⟨_, rfl⟩, hW, hsame.mono (by decide) (by decide)⟩
          · show Steps p.tables e below (s₁.setTop (mkF m 0 #[.val (.int p1), .val (.int p2), .unset, .unset, .unset, .unset, .unset] [])) _
            refine st1 _ ?_
            refine XS.dup X1.here hx rfl (hb hby at_3) rfl rfl ?_
            refine st16 _ ?_
            refine XS.dup X16.here hx rfl (hb hby at_7) rfl rfl ?_
            show Steps p.tables e below (T16.setTop (mkF m 8 #[.val (.int p1), .val (.int p2), .unset, .unset, .unset, .unset, .unset] [(.ref b16), (.ref b16), (.ref b1), (.ref b1)])) _
            refine st21.trans ?_
            refine st37.trans ?_
            refine XS.astoreN X37.here hx rfl (hb hby at_14) rfl rfl (l' := #[.val (.int p1), .val (.int p2), .val (.ref b1), .unset, .unset, .unset, .unset]) rfl ?_
            refine st41 _ ?_
            show Steps p.tables e below (T41.setTop (mkF m 18 #[.val (.int p1), .val (.int p2), .val (.ref b1), .unset, .unset, .unset, .unset] [(.ref b41)])) _
            refine XS.dup X41.here hx rfl (hb hby at_18) rfl rfl ?_
            refine st47.trans ?_
            refine XS.astoreN X47.here hx rfl (hb hby at_22) rfl rfl (l' := #[.val (.int p1), .val (.int p2), .val (.ref b1), .val (.ref b41), .unset, .unset, .unset]) rfl ?_
            refine XS.aloadN X47.here hx rfl (hb hby at_23) rfl rfl ?_
            show Steps p.tables e below (T47.setTop (mkF m 24 #[.val (.int p1), .val (.int p2), .val (.ref b1), .val (.ref b41), .unset, .unset, .unset] [(.ref b1)])) _
            refine st52.trans ?_
            refine XS.istore X52.here hx rfl (hb hby at_27) rfl (l' := #[.val (.int p1), .val (.int p2), .val (.ref b1), .val (.ref b41), .val (.int (1 : Int32)), .unset, .unset]) rfl ?_
            refine XS.iloadN X52.here hx rfl (hb hby at_29) rfl ?_
            refine XS.bipush X52.here hx rfl (hb hby at_30) ?_
            show Steps p.tables e below (T52.setTop (mkF m 32 #[.val (.int p1), .val (.int p2), .val (.ref b1), .val (.ref b41), .val (.int (1 : Int32)), .unset, .unset] [(.int (15 : Int32)), (.int p1)])) _
            refine XS.iand X52.here hx rfl (hb hby at_32) rfl ?_
            refine XS.istore X52.here hx rfl (hb hby at_33) rfl (l' := #[.val (.int p1), .val (.int p2), .val (.ref b1), .val (.ref b41), .val (.int (1 : Int32)), .val (.int (p1 &&& (15 : Int32))), .unset]) rfl ?_
            refine XS.iload X52.here hx rfl (hb hby at_35) rfl ?_
            refine XS.iconst X52.here hx rfl (hb hby at_37) ?_
            show Steps p.tables e below (T52.setTop (mkF m 38 #[.val (.int p1), .val (.int p2), .val (.ref b1), .val (.ref b41), .val (.int (1 : Int32)), .val (.int (p1 &&& (15 : Int32))), .unset] [(.int (1 : Int32)), (.int (p1 &&& (15 : Int32)))])) _
            refine XS.iand X52.here hx rfl (hb hby at_38) rfl ?_
            refine XS.ifNo X52.here hx rfl (hb hby at_39) rfl ((if0 _ _).trans (feq hc1).1) ?_
            refine XS.aloadN X52.here hx rfl (hb hby at_42) rfl rfl ?_
            refine XS.iconst X52.here hx rfl (hb hby at_43) ?_
            show Steps p.tables e below (T52.setTop (mkF m 44 #[.val (.int p1), .val (.int p2), .val (.ref b1), .val (.ref b41), .val (.int (1 : Int32)), .val (.int (p1 &&& (15 : Int32))), .unset] [(.int (0 : Int32)), (.ref b1)])) _
            refine XS.aloadN X52.here hx rfl (hb hby at_44) rfl rfl ?_
            refine XS.iloadN X52.here hx rfl (hb hby at_45) rfl ?_
            refine st139.trans ?_
            refine XS.iload X139.here hx rfl (hb hby at_49) rfl ?_
            show Steps p.tables e below (T139.setTop (mkF m 51 #[.val (.int p1), .val (.int p2), .val (.ref b1), .val (.ref b41), .val (.int (1 : Int32)), .val (.int (p1 &&& (15 : Int32))), .unset] [(.int (p1 &&& (15 : Int32)))])) _
            refine XS.iconst X139.here hx rfl (hb hby at_51) ?_
            refine XS.iand X139.here hx rfl (hb hby at_52) rfl ?_
            refine XS.ifYes X139.here hx rfl (pc0 := 53) (pc' := 63) rfl (hb hby at_53) rfl ((if0 _ _).trans (teq hc9).1) (by decide) (by decide) ?_
            refine XS.iload X139.here hx rfl (hb hby at_63) rfl ?_
            show Steps p.tables e below (T139.setTop (mkF m 65 #[.val (.int p1), .val (.int p2), .val (.ref b1), .val (.ref b41), .val (.int (1 : Int32)), .val (.int (p1 &&& (15 : Int32))), .unset] [(.int (p1 &&& (15 : Int32)))])) _
            refine XS.iconst X139.here hx rfl (hb hby at_65) ?_
            refine XS.iand X139.here hx rfl (hb hby at_66) rfl ?_
            refine XS.ifNo X139.here hx rfl (hb hby at_67) rfl ((if0 _ _).trans (feq hc10).1) ?_
            refine XS.aloadN X139.here hx rfl (hb hby at_70) rfl rfl ?_
            show Steps p.tables e below (T139.setTop (mkF m 71 #[.val (.int p1), .val (.int p2), .val (.ref b1), .val (.ref b41), .val (.int (1 : Int32)), .val (.int (p1 &&& (15 : Int32))), .unset] [(.ref b1)])) _
            refine XS.iconst X139.here hx rfl (hb hby at_71) ?_
            refine XS.aloadN X139.here hx rfl (hb hby at_72) rfl rfl ?_
            refine XS.iloadN X139.here hx rfl (hb hby at_73) rfl ?_
            refine st161.trans ?_
            show Steps p.tables e below (T161.setTop (mkF m 77 #[.val (.int p1), .val (.int p2), .val (.ref b1), .val (.ref b41), .val (.int (1 : Int32)), .val (.int (p1 &&& (15 : Int32))), .unset] [])) _
            refine XS.iload X161.here hx rfl (hb hby at_77) rfl ?_
            refine XS.bipush X161.here hx rfl (hb hby at_79) ?_
            refine XS.iand X161.here hx rfl (hb hby at_81) rfl ?_
            refine XS.ifYes X161.here hx rfl (pc0 := 82) (pc' := 92) rfl (hb hby at_82) rfl ((if0 _ _).trans (teq hc12).1) (by decide) (by decide) ?_
            show Steps p.tables e below (T161.setTop (mkF m 92 #[.val (.int p1), .val (.int p2), .val (.ref b1), .val (.ref b41), .val (.int (1 : Int32)), .val (.int (p1 &&& (15 : Int32))), .unset] [])) _
            refine XS.aloadN X161.here hx rfl (hb hby at_92) rfl rfl ?_
            refine st163.trans ?_
            refine XS.istore X163.here hx rfl (hb hby at_96) rfl (l' := #[.val (.int p1), .val (.int p2), .val (.ref b1), .val (.ref b41), .val (.int (1 : Int32)), .val (.int (p1 &&& (15 : Int32))), .val (.int (0 : Int32))]) rfl ?_
            refine XS.iload X163.here hx rfl (hb hby at_98) rfl ?_
            show Steps p.tables e below (T163.setTop (mkF m 100 #[.val (.int p1), .val (.int p2), .val (.ref b1), .val (.ref b41), .val (.int (1 : Int32)), .val (.int (p1 &&& (15 : Int32))), .val (.int (0 : Int32))] [(.int (1 : Int32))])) _
            refine XS.ifNo X163.here hx rfl (hb hby at_100) rfl ((if0 _ _).trans (feq (by decide : ¬ ((1 : Int32) = (0 : Int32)))).1) ?_
            refine XS.iload X163.here hx rfl (hb hby at_103) rfl ?_
            refine XS.iload X163.here hx rfl (hb hby at_105) rfl ?_
            refine XS.ifYes X163.here hx rfl (pc0 := 107) (pc' := 114) rfl (hb hby at_107) rfl ((if0 _ _).trans (feq (own_nz hc1)).2) (by decide) (by decide) ?_
            show Steps p.tables e below (T163.setTop (mkF m 114 #[.val (.int p1), .val (.int p2), .val (.ref b1), .val (.ref b41), .val (.int (1 : Int32)), .val (.int (p1 &&& (15 : Int32))), .val (.int (0 : Int32))] [(.int (0 : Int32))])) _
            refine XS.iconst X163.here hx rfl (hb hby at_114) ?_
            refine XS.icmpNo X163.here hx rfl (hb hby at_115) rfl (teq (by decide : (0 : Int32) = (0 : Int32))).2 ?_
            refine XS.iconst X163.here hx rfl (hb hby at_118) ?_
            refine XS.goto X163.here hx rfl (pc0 := 119) (pc' := 123) rfl (hb hby at_119) (by decide) (by decide) ?_
            show Steps p.tables e below (T163.setTop (mkF m 123 #[.val (.int p1), .val (.int p2), .val (.ref b1), .val (.ref b41), .val (.int (1 : Int32)), .val (.int (p1 &&& (15 : Int32))), .val (.int (0 : Int32))] [(.int (1 : Int32))])) _
            exact retN X163 hx (t := .boolean) Bd.returns (by simp) (hb hby at_123) hr
          · show Q_rm0 Z p1 p2 wD h0 n0 _ T163.heap _
            exact ⟨rfl, N163⟩
        · have f165 : Exa Z T161.heap b1 "com/example/concordia/concordia/index/LinkedCode" := (f154.keep Kc161)
          have f166 : own_Ars Z T161.heap cd_37 .int (64 : Int32) := (f155.keep Kc161)
          have f167 : Exa Z T161.heap b41 "com/example/concordia/concordia/index/Program" := (f156.keep Kc161)
          have f168 : Fld Z T161.heap b41 "com/example/concordia/concordia/index/Program" "lastLiteralFrom" "I" (.int (0 : Int32)) := (f157.keep Kc161 (ninS (Ne.symm (Nat.ne_of_lt (Nat.lt_of_lt_of_le (f23.keep Kc37).lt (Nat.le_of_eq g41.symm)))) (ninS (Ne.symm (Nat.ne_of_lt (Nat.lt_of_lt_of_le p37_4.lt (Nat.le_of_eq g41.symm)))) (ninS (Ne.symm (Nat.ne_of_lt (Nat.lt_of_lt_of_le p37_6.lt (Nat.le_of_eq g41.symm)))) nin0))))
          have f169 : Fld Z T161.heap b41 "com/example/concordia/concordia/index/Program" "instructions" "Lcom/example/concordia/concordia/expr/IntList;" (.ref il_47) := (f158.keep Kc161 (ninS (Ne.symm (Nat.ne_of_lt (Nat.lt_of_lt_of_le (f23.keep Kc37).lt (Nat.le_of_eq g41.symm)))) (ninS (Ne.symm (Nat.ne_of_lt (Nat.lt_of_lt_of_le p37_4.lt (Nat.le_of_eq g41.symm)))) (ninS (Ne.symm (Nat.ne_of_lt (Nat.lt_of_lt_of_le p37_6.lt (Nat.le_of_eq g41.symm)))) nin0))))
          have f170 : Exa Z T161.heap il_47 "com/example/concordia/concordia/expr/IntList" := (f159.keep Kc161)
          have f171 : Fld Z T161.heap il_47 "com/example/concordia/concordia/expr/IntList" "size" "I" (.int (0 : Int32)) := (f160.keep Kc161 (ninS (Ne.symm (Nat.ne_of_lt (Nat.lt_of_lt_of_le ((f23.keep Kc37).ext E41).lt p47_0))) (ninS (Ne.symm (Nat.ne_of_lt (Nat.lt_of_lt_of_le (p37_4.ext E41).lt p47_0))) (ninS (Ne.symm (Nat.ne_of_lt (Nat.lt_of_lt_of_le (p37_6.ext E41).lt p47_0))) nin0))))
          obtain ⟨cq172, kq172, q172a, q172b, q172c⟩ := isOf hZ rfl f165
          obtain ⟨_, _, ⟨T172, L172, k172, n172⟩, -, X172, ⟨Lc172, hQ172, l172, y172, z172⟩, st172⟩ := X161.virtualBack hx (y := (⟨"com/example/concordia/concordia/index/LinkedCode", "add", "(ILcom/example/concordia/concordia/index/Program;I)V"⟩ : MethodName)) (z := (⟨"com/example/concordia/concordia/index/LinkedCode", "add", "(ILcom/example/concordia/concordia/index/Program;I)V"⟩ : MethodName)) hown (mvT hZ (hw _ (List.mem_of_getElem? (i := 177) rfl))) (mvT hZ (hw _ (List.mem_of_getElem? (i := 178) rfl))) (notFace_of_selects (args := #[]) (mvT hZ (hw _ (List.mem_of_getElem? (i := 180) rfl)))) (mvT hZ (hw _ (List.mem_of_getElem? (i := 180) rfl))) (mvT hZ (hw _ (List.mem_of_getElem? (i := 179) rfl))) (by decide) (backOf (W := 0) (rm_ad3 l Z a0 hw [] b1 b41 p2 cd_37 (4 : Int32) (2 : Int32) rt_37 il_47 kr_37 (.ref b41) (0 : Int32) (-1 : Int32) (2 : Int32) (-1 : Int32) T161.heap n0 (Nat.le_trans Z0 K162.1) f165 gnb1 gncd_37 p161_0 f166 p161_1 p161_2 p161_3 p161_4 p161_5 p161_6 gnrt_37 p37_2 f167 f168 f169 f170 f171 (by decide : ¬ ((4 : Int32) < (0 : Int32))) (by decide : (4 : Int32) < (64 : Int32)) (by decide : ¬ (((4 : Int32) + (1 : Int32)) < (0 : Int32))) (by decide : ((4 : Int32) + (1 : Int32)) < (64 : Int32)) (by decide : ¬ ((64 : Int32) < ((4 : Int32) + (2 : Int32)))) (by decide : ¬ ((1024 : Int32) < ((4 : Int32) + (2 : Int32)))) (by decide : (-1 : Int32) = (-1 : Int32))) hZ (hw _ (List.mem_of_getElem? (i := 181) rfl)) (hw _ (List.mem_of_getElem? (i := 2) rfl)) (by decide) (by decide)) q172a q172c (g := (mkF m 89 #[.val (.int p1), .val (.int p2), .val (.ref b1), .val (.ref b41), .val (.int (1 : Int32)), .val (.int (p1 &&& (15 : Int32))), .unset] [(.int p2), (.ref b41), (.int (3 : Int32)), (.ref b1)])) rfl (by rw [hml]; rfl) (Steps.refl _) (argsL := [(.int (3 : Int32)), (.ref b41), (.int p2)]) (rest := []) (lenOf pd__40ILcom_47example_47concordia_47concordia_47index_47Program_59I_41V rfl) rfl (by show 2 * 0 + _ ≤ _; exact Nat.le_of_eq rfl) (hb hby at_89) (fun _ _ => ⟨rfl, rfl, (by decide : 31 + 0 ≤ _), (by decide : 1183 + 0 ≤ _)⟩)
          dsimp only [Pt.U, Pt.locs, Pt.cells, Pt.slots] at X172 l172 y172 z172 st172 hQ172
          subst l172 y172 z172
          obtain ⟨rfl, Nq172, Kc172, p172_0, p172_1, p172_2, p172_3, p172_4, p172_5, p172_6⟩ := hQ172
          have K173 : Keep h0 T172.heap [] := K162.trans Kc172 (allS (Or.inr gzb1) (allS (Or.inr gzcd_37) (allS (Or.inr gzrt_37) all0)))
          have N172 := Fr.app N161 Nq172
          have f175 : Exa Z T172.heap b1 "com/example/concordia/concordia/index/LinkedCode" := (f165.keep Kc172)
          obtain ⟨cq174, kq174, q174a, q174b, q174c⟩ := isOf hZ rfl f175
          obtain ⟨_, _, ⟨T174, L174, k174, n174⟩, -, X174, ⟨Lc174, hQ174, l174, y174, z174⟩, st174⟩ := X172.virtualBack hx (y := (⟨"com/example/concordia/concordia/index/LinkedCode", "isEmpty", "()Z"⟩ : MethodName)) (z := (⟨"com/example/concordia/concordia/index/LinkedCode", "isEmpty", "()Z"⟩ : MethodName)) hown (mvT hZ (hw _ (List.mem_of_getElem? (i := 172) rfl))) (mvT hZ (hw _ (List.mem_of_getElem? (i := 173) rfl))) (notFace_of_selects (args := #[]) (mvT hZ (hw _ (List.mem_of_getElem? (i := 175) rfl)))) (mvT hZ (hw _ (List.mem_of_getElem? (i := 175) rfl))) (mvT hZ (hw _ (List.mem_of_getElem? (i := 174) rfl))) (by decide) (backOf (W := 0) (rm_em0 l Z a0 hw [] b1 rt_37 kr_37 (0 : Int32) (-1 : Int32) (2 : Int32) (4 : Int32) T172.heap n0 (Nat.le_trans Z0 K173.1) p172_3 p172_6 (by decide : ¬ ((0 : Int32) = (-1 : Int32)))) hZ (hw _ (List.mem_of_getElem? (i := 176) rfl)) (hw _ (List.mem_of_getElem? (i := 2) rfl)) (by decide) (by decide)) q174a q174c (g := (mkF m 93 #[.val (.int p1), .val (.int p2), .val (.ref b1), .val (.ref b41), .val (.int (1 : Int32)), .val (.int (p1 &&& (15 : Int32))), .unset] [(.ref b1)])) rfl (by rw [hml]; rfl) (Steps.refl _) (argsL := []) (rest := []) (lenOf pd__40_41Z rfl) rfl (by show 2 * 0 + _ ≤ _; exact Nat.le_of_eq rfl) (hb hby at_93) (fun _ _ => ⟨rfl, rfl, (by decide : 31 + 0 ≤ _), (by decide : 1183 + 0 ≤ _)⟩)
          dsimp only [Pt.U, Pt.locs, Pt.cells, Pt.slots] at X174 l174 y174 z174 st174 hQ174
          subst l174 y174 z174
          obtain ⟨rfl, Nq174, e174⟩ := hQ174
          have N174 := Fr.app N172 Nq174
          obtain ⟨fs, hr, hrun, hended, hW, hsame⟩ := X174.leave (v := some (.int (1 : Int32))) (fun h => by rw [Bd.returns] at h; cases h)
          refine ⟨_, _, pre0 _ ?_, hrun, hended, _, _, rfl, ?_, ⟨_, rfl⟩, hW, hsame.mono (by decide) (by decide)⟩
          · show Steps p.tables e below (s₁.setTop (mkF m 0 #[.val (.int p1), .val (.int p2), .unset, .unset, .unset, .unset, .unset] [])) _
            refine st1 _ ?_
            refine XS.dup X1.here hx rfl (hb hby at_3) rfl rfl ?_
            refine st16 _ ?_
            refine XS.dup X16.here hx rfl (hb hby at_7) rfl rfl ?_
            show Steps p.tables e below (T16.setTop (mkF m 8 #[.val (.int p1), .val (.int p2), .unset, .unset, .unset, .unset, .unset] [(.ref b16), (.ref b16), (.ref b1), (.ref b1)])) _
            refine st21.trans ?_
            refine st37.trans ?_
            refine XS.astoreN X37.here hx rfl (hb hby at_14) rfl rfl (l' := #[.val (.int p1), .val (.int p2), .val (.ref b1), .unset, .unset, .unset, .unset]) rfl ?_
            refine st41 _ ?_
            show Steps p.tables e below (T41.setTop (mkF m 18 #[.val (.int p1), .val (.int p2), .val (.ref b1), .unset, .unset, .unset, .unset] [(.ref b41)])) _
            refine XS.dup X41.here hx rfl (hb hby at_18) rfl rfl ?_
            refine st47.trans ?_
            refine XS.astoreN X47.here hx rfl (hb hby at_22) rfl rfl (l' := #[.val (.int p1), .val (.int p2), .val (.ref b1), .val (.ref b41), .unset, .unset, .unset]) rfl ?_
            refine XS.aloadN X47.here hx rfl (hb hby at_23) rfl rfl ?_
            show Steps p.tables e below (T47.setTop (mkF m 24 #[.val (.int p1), .val (.int p2), .val (.ref b1), .val (.ref b41), .unset, .unset, .unset] [(.ref b1)])) _
            refine st52.trans ?_
            refine XS.istore X52.here hx rfl (hb hby at_27) rfl (l' := #[.val (.int p1), .val (.int p2), .val (.ref b1), .val (.ref b41), .val (.int (1 : Int32)), .unset, .unset]) rfl ?_
            refine XS.iloadN X52.here hx rfl (hb hby at_29) rfl ?_
            refine XS.bipush X52.here hx rfl (hb hby at_30) ?_
            show Steps p.tables e below (T52.setTop (mkF m 32 #[.val (.int p1), .val (.int p2), .val (.ref b1), .val (.ref b41), .val (.int (1 : Int32)), .unset, .unset] [(.int (15 : Int32)), (.int p1)])) _
            refine XS.iand X52.here hx rfl (hb hby at_32) rfl ?_
            refine XS.istore X52.here hx rfl (hb hby at_33) rfl (l' := #[.val (.int p1), .val (.int p2), .val (.ref b1), .val (.ref b41), .val (.int (1 : Int32)), .val (.int (p1 &&& (15 : Int32))), .unset]) rfl ?_
            refine XS.iload X52.here hx rfl (hb hby at_35) rfl ?_
            refine XS.iconst X52.here hx rfl (hb hby at_37) ?_
            show Steps p.tables e below (T52.setTop (mkF m 38 #[.val (.int p1), .val (.int p2), .val (.ref b1), .val (.ref b41), .val (.int (1 : Int32)), .val (.int (p1 &&& (15 : Int32))), .unset] [(.int (1 : Int32)), (.int (p1 &&& (15 : Int32)))])) _
            refine XS.iand X52.here hx rfl (hb hby at_38) rfl ?_
            refine XS.ifNo X52.here hx rfl (hb hby at_39) rfl ((if0 _ _).trans (feq hc1).1) ?_
            refine XS.aloadN X52.here hx rfl (hb hby at_42) rfl rfl ?_
            refine XS.iconst X52.here hx rfl (hb hby at_43) ?_
            show Steps p.tables e below (T52.setTop (mkF m 44 #[.val (.int p1), .val (.int p2), .val (.ref b1), .val (.ref b41), .val (.int (1 : Int32)), .val (.int (p1 &&& (15 : Int32))), .unset] [(.int (0 : Int32)), (.ref b1)])) _
            refine XS.aloadN X52.here hx rfl (hb hby at_44) rfl rfl ?_
            refine XS.iloadN X52.here hx rfl (hb hby at_45) rfl ?_
            refine st139.trans ?_
            refine XS.iload X139.here hx rfl (hb hby at_49) rfl ?_
            show Steps p.tables e below (T139.setTop (mkF m 51 #[.val (.int p1), .val (.int p2), .val (.ref b1), .val (.ref b41), .val (.int (1 : Int32)), .val (.int (p1 &&& (15 : Int32))), .unset] [(.int (p1 &&& (15 : Int32)))])) _
            refine XS.iconst X139.here hx rfl (hb hby at_51) ?_
            refine XS.iand X139.here hx rfl (hb hby at_52) rfl ?_
            refine XS.ifYes X139.here hx rfl (pc0 := 53) (pc' := 63) rfl (hb hby at_53) rfl ((if0 _ _).trans (teq hc9).1) (by decide) (by decide) ?_
            refine XS.iload X139.here hx rfl (hb hby at_63) rfl ?_
            show Steps p.tables e below (T139.setTop (mkF m 65 #[.val (.int p1), .val (.int p2), .val (.ref b1), .val (.ref b41), .val (.int (1 : Int32)), .val (.int (p1 &&& (15 : Int32))), .unset] [(.int (p1 &&& (15 : Int32)))])) _
            refine XS.iconst X139.here hx rfl (hb hby at_65) ?_
            refine XS.iand X139.here hx rfl (hb hby at_66) rfl ?_
            refine XS.ifNo X139.here hx rfl (hb hby at_67) rfl ((if0 _ _).trans (feq hc10).1) ?_
            refine XS.aloadN X139.here hx rfl (hb hby at_70) rfl rfl ?_
            show Steps p.tables e below (T139.setTop (mkF m 71 #[.val (.int p1), .val (.int p2), .val (.ref b1), .val (.ref b41), .val (.int (1 : Int32)), .val (.int (p1 &&& (15 : Int32))), .unset] [(.ref b1)])) _
            refine XS.iconst X139.here hx rfl (hb hby at_71) ?_
            refine XS.aloadN X139.here hx rfl (hb hby at_72) rfl rfl ?_
            refine XS.iloadN X139.here hx rfl (hb hby at_73) rfl ?_
            refine st161.trans ?_
            show Steps p.tables e below (T161.setTop (mkF m 77 #[.val (.int p1), .val (.int p2), .val (.ref b1), .val (.ref b41), .val (.int (1 : Int32)), .val (.int (p1 &&& (15 : Int32))), .unset] [])) _
            refine XS.iload X161.here hx rfl (hb hby at_77) rfl ?_
            refine XS.bipush X161.here hx rfl (hb hby at_79) ?_
            refine XS.iand X161.here hx rfl (hb hby at_81) rfl ?_
            refine XS.ifNo X161.here hx rfl (hb hby at_82) rfl ((if0 _ _).trans (feq hc12).1) ?_
            show Steps p.tables e below (T161.setTop (mkF m 85 #[.val (.int p1), .val (.int p2), .val (.ref b1), .val (.ref b41), .val (.int (1 : Int32)), .val (.int (p1 &&& (15 : Int32))), .unset] [])) _
            refine XS.aloadN X161.here hx rfl (hb hby at_85) rfl rfl ?_
            refine XS.iconst X161.here hx rfl (hb hby at_86) ?_
            refine XS.aloadN X161.here hx rfl (hb hby at_87) rfl rfl ?_
            refine XS.iloadN X161.here hx rfl (hb hby at_88) rfl ?_
            show Steps p.tables e below (T161.setTop (mkF m 89 #[.val (.int p1), .val (.int p2), .val (.ref b1), .val (.ref b41), .val (.int (1 : Int32)), .val (.int (p1 &&& (15 : Int32))), .unset] [(.int p2), (.ref b41), (.int (3 : Int32)), (.ref b1)])) _
            refine st172.trans ?_
            refine XS.aloadN X172.here hx rfl (hb hby at_92) rfl rfl ?_
            refine st174.trans ?_
            refine XS.istore X174.here hx rfl (hb hby at_96) rfl (l' := #[.val (.int p1), .val (.int p2), .val (.ref b1), .val (.ref b41), .val (.int (1 : Int32)), .val (.int (p1 &&& (15 : Int32))), .val (.int (0 : Int32))]) rfl ?_
            show Steps p.tables e below (T174.setTop (mkF m 98 #[.val (.int p1), .val (.int p2), .val (.ref b1), .val (.ref b41), .val (.int (1 : Int32)), .val (.int (p1 &&& (15 : Int32))), .val (.int (0 : Int32))] [])) _
            refine XS.iload X174.here hx rfl (hb hby at_98) rfl ?_
            refine XS.ifNo X174.here hx rfl (hb hby at_100) rfl ((if0 _ _).trans (feq (by decide : ¬ ((1 : Int32) = (0 : Int32)))).1) ?_
            refine XS.iload X174.here hx rfl (hb hby at_103) rfl ?_
            refine XS.iload X174.here hx rfl (hb hby at_105) rfl ?_
            show Steps p.tables e below (T174.setTop (mkF m 107 #[.val (.int p1), .val (.int p2), .val (.ref b1), .val (.ref b41), .val (.int (1 : Int32)), .val (.int (p1 &&& (15 : Int32))), .val (.int (0 : Int32))] [(.int (p1 &&& (15 : Int32))), (.int (0 : Int32))])) _
            refine XS.ifYes X174.here hx rfl (pc0 := 107) (pc' := 114) rfl (hb hby at_107) rfl ((if0 _ _).trans (feq (own_nz hc1)).2) (by decide) (by decide) ?_
            refine XS.iconst X174.here hx rfl (hb hby at_114) ?_
            refine XS.icmpNo X174.here hx rfl (hb hby at_115) rfl (teq (by decide : (0 : Int32) = (0 : Int32))).2 ?_
            refine XS.iconst X174.here hx rfl (hb hby at_118) ?_
            show Steps p.tables e below (T174.setTop (mkF m 119 #[.val (.int p1), .val (.int p2), .val (.ref b1), .val (.ref b41), .val (.int (1 : Int32)), .val (.int (p1 &&& (15 : Int32))), .val (.int (0 : Int32))] [(.int (1 : Int32))])) _
            refine XS.goto X174.here hx rfl (pc0 := 119) (pc' := 123) rfl (hb hby at_119) (by decide) (by decide) ?_
            exact retN X174 hx (t := .boolean) Bd.returns (by simp) (hb hby at_123) hr
          · show Q_rm0 Z p1 p2 wD h0 n0 _ T174.heap _
            exact ⟨rfl, N174⟩
    · have f176 : Exa Z T139.heap b1 "com/example/concordia/concordia/index/LinkedCode" := (f53.keep Kc139)
      have f177 : own_Ars Z T139.heap cd_37 .int (64 : Int32) := (f133.keep Kc139)
      have f178 : Exa Z T139.heap b41 "com/example/concordia/concordia/index/Program" := (f138.keep Kc139)
      have f179 : Fld Z T139.heap b41 "com/example/concordia/concordia/index/Program" "lastLiteralFrom" "I" (.int (0 : Int32)) := (p47_2.keep Kc139 (ninS (Ne.symm (Nat.ne_of_lt (Nat.lt_of_lt_of_le (f23.keep Kc37).lt (Nat.le_of_eq g41.symm)))) (ninS (Ne.symm (Nat.ne_of_lt (Nat.lt_of_lt_of_le p37_4.lt (Nat.le_of_eq g41.symm)))) (ninS (Ne.symm (Nat.ne_of_lt (Nat.lt_of_lt_of_le p37_6.lt (Nat.le_of_eq g41.symm)))) nin0))))
      have f180 : Fld Z T139.heap b41 "com/example/concordia/concordia/index/Program" "instructions" "Lcom/example/concordia/concordia/expr/IntList;" (.ref il_47) := (p47_1.keep Kc139 (ninS (Ne.symm (Nat.ne_of_lt (Nat.lt_of_lt_of_le (f23.keep Kc37).lt (Nat.le_of_eq g41.symm)))) (ninS (Ne.symm (Nat.ne_of_lt (Nat.lt_of_lt_of_le p37_4.lt (Nat.le_of_eq g41.symm)))) (ninS (Ne.symm (Nat.ne_of_lt (Nat.lt_of_lt_of_le p37_6.lt (Nat.le_of_eq g41.symm)))) nin0))))
      have f181 : Exa Z T139.heap il_47 "com/example/concordia/concordia/expr/IntList" := (p47_3.keep Kc139)
      have f182 : Fld Z T139.heap il_47 "com/example/concordia/concordia/expr/IntList" "size" "I" (.int (0 : Int32)) := (p47_4.keep Kc139 (ninS (Ne.symm (Nat.ne_of_lt (Nat.lt_of_lt_of_le ((f23.keep Kc37).ext E41).lt p47_0))) (ninS (Ne.symm (Nat.ne_of_lt (Nat.lt_of_lt_of_le (p37_4.ext E41).lt p47_0))) (ninS (Ne.symm (Nat.ne_of_lt (Nat.lt_of_lt_of_le (p37_6.ext E41).lt p47_0))) nin0))))
      obtain ⟨cq183, kq183, q183a, q183b, q183c⟩ := isOf hZ rfl f176
      obtain ⟨_, _, ⟨T183, L183, k183, n183⟩, -, X183, ⟨Lc183, hQ183, l183, y183, z183⟩, st183⟩ := X139.virtualBack hx (y := (⟨"com/example/concordia/concordia/index/LinkedCode", "add", "(ILcom/example/concordia/concordia/index/Program;I)V"⟩ : MethodName)) (z := (⟨"com/example/concordia/concordia/index/LinkedCode", "add", "(ILcom/example/concordia/concordia/index/Program;I)V"⟩ : MethodName)) hown (mvT hZ (hw _ (List.mem_of_getElem? (i := 177) rfl))) (mvT hZ (hw _ (List.mem_of_getElem? (i := 178) rfl))) (notFace_of_selects (args := #[]) (mvT hZ (hw _ (List.mem_of_getElem? (i := 180) rfl)))) (mvT hZ (hw _ (List.mem_of_getElem? (i := 180) rfl))) (mvT hZ (hw _ (List.mem_of_getElem? (i := 179) rfl))) (by decide) (backOf (W := 0) (rm_ad1 l Z a0 hw [] b1 b41 p2 cd_37 (2 : Int32) (1 : Int32) rt_37 il_47 kr_37 (.ref b41) (0 : Int32) (-1 : Int32) (-1 : Int32) (-1 : Int32) T139.heap n0 (Nat.le_trans Z0 K140.1) f176 gnb1 gncd_37 p139_0 f177 p139_1 p139_2 p139_3 p139_4 p139_5 p139_6 gnrt_37 p37_2 f178 f179 f180 f181 f182 (by decide : ¬ ((2 : Int32) < (0 : Int32))) (by decide : (2 : Int32) < (64 : Int32)) (by decide : ¬ (((2 : Int32) + (1 : Int32)) < (0 : Int32))) (by decide : ((2 : Int32) + (1 : Int32)) < (64 : Int32)) (by decide : ¬ ((64 : Int32) < ((2 : Int32) + (2 : Int32)))) (by decide : ¬ ((1024 : Int32) < ((2 : Int32) + (2 : Int32)))) (by decide : (-1 : Int32) = (-1 : Int32))) hZ (hw _ (List.mem_of_getElem? (i := 181) rfl)) (hw _ (List.mem_of_getElem? (i := 2) rfl)) (by decide) (by decide)) q183a q183c (g := (mkF m 60 #[.val (.int p1), .val (.int p2), .val (.ref b1), .val (.ref b41), .val (.int (1 : Int32)), .val (.int (p1 &&& (15 : Int32))), .unset] [(.int p2), (.ref b41), (.int (1 : Int32)), (.ref b1)])) rfl (by rw [hml]; rfl) (Steps.refl _) (argsL := [(.int (1 : Int32)), (.ref b41), (.int p2)]) (rest := []) (lenOf pd__40ILcom_47example_47concordia_47concordia_47index_47Program_59I_41V rfl) rfl (by show 2 * 0 + _ ≤ _; exact Nat.le_of_eq rfl) (hb hby at_60) (fun _ _ => ⟨rfl, rfl, (by decide : 31 + 0 ≤ _), (by decide : 1183 + 0 ≤ _)⟩)
      dsimp only [Pt.U, Pt.locs, Pt.cells, Pt.slots] at X183 l183 y183 z183 st183 hQ183
      subst l183 y183 z183
      obtain ⟨rfl, Nq183, Kc183, p183_0, p183_1, p183_2, p183_3, p183_4, p183_5, p183_6⟩ := hQ183
      have K184 : Keep h0 T183.heap [] := K140.trans Kc183 (allS (Or.inr gzb1) (allS (Or.inr gzcd_37) (allS (Or.inr gzrt_37) all0)))
      have N183 := Fr.app N139 Nq183
      by_cases hc13 : ((p1 &&& (15 : Int32)) &&& (4 : Int32)) = (0 : Int32)
      · by_cases hc14 : ((p1 &&& (15 : Int32)) &&& (8 : Int32)) = (0 : Int32)
        · have f186 : Exa Z T183.heap b1 "com/example/concordia/concordia/index/LinkedCode" := (f176.keep Kc183)
          obtain ⟨cq185, kq185, q185a, q185b, q185c⟩ := isOf hZ rfl f186
          obtain ⟨_, _, ⟨T185, L185, k185, n185⟩, -, X185, ⟨Lc185, hQ185, l185, y185, z185⟩, st185⟩ := X183.virtualBack hx (y := (⟨"com/example/concordia/concordia/index/LinkedCode", "isEmpty", "()Z"⟩ : MethodName)) (z := (⟨"com/example/concordia/concordia/index/LinkedCode", "isEmpty", "()Z"⟩ : MethodName)) hown (mvT hZ (hw _ (List.mem_of_getElem? (i := 172) rfl))) (mvT hZ (hw _ (List.mem_of_getElem? (i := 173) rfl))) (notFace_of_selects (args := #[]) (mvT hZ (hw _ (List.mem_of_getElem? (i := 175) rfl)))) (mvT hZ (hw _ (List.mem_of_getElem? (i := 175) rfl))) (mvT hZ (hw _ (List.mem_of_getElem? (i := 174) rfl))) (by decide) (backOf (W := 0) (rm_em0 l Z a0 hw [] b1 rt_37 kr_37 (0 : Int32) (2 : Int32) (-1 : Int32) (-1 : Int32) T183.heap n0 (Nat.le_trans Z0 K184.1) p183_3 p183_6 (by decide : ¬ ((0 : Int32) = (-1 : Int32)))) hZ (hw _ (List.mem_of_getElem? (i := 176) rfl)) (hw _ (List.mem_of_getElem? (i := 2) rfl)) (by decide) (by decide)) q185a q185c (g := (mkF m 93 #[.val (.int p1), .val (.int p2), .val (.ref b1), .val (.ref b41), .val (.int (1 : Int32)), .val (.int (p1 &&& (15 : Int32))), .unset] [(.ref b1)])) rfl (by rw [hml]; rfl) (Steps.refl _) (argsL := []) (rest := []) (lenOf pd__40_41Z rfl) rfl (by show 2 * 0 + _ ≤ _; exact Nat.le_of_eq rfl) (hb hby at_93) (fun _ _ => ⟨rfl, rfl, (by decide : 31 + 0 ≤ _), (by decide : 1183 + 0 ≤ _)⟩)
          dsimp only [Pt.U, Pt.locs, Pt.cells, Pt.slots] at X185 l185 y185 z185 st185 hQ185
          subst l185 y185 z185
          obtain ⟨rfl, Nq185, e185⟩ := hQ185
          have N185 := Fr.app N183 Nq185
          obtain ⟨fs, hr, hrun, hended, hW, hsame⟩ := X185.leave (v := some (.int (1 : Int32))) (fun h => by rw [Bd.returns] at h; cases h)
          refine ⟨_, _, pre0 _ ?_, hrun, hended, _, _, rfl, ?_, ⟨_, rfl⟩, hW, hsame.mono (by decide) (by decide)⟩
          · show Steps p.tables e below (s₁.setTop (mkF m 0 #[.val (.int p1), .val (.int p2), .unset, .unset, .unset, .unset, .unset] [])) _
            refine st1 _ ?_
            refine XS.dup X1.here hx rfl (hb hby at_3) rfl rfl ?_
            refine st16 _ ?_
            refine XS.dup X16.here hx rfl (hb hby at_7) rfl rfl ?_
            show Steps p.tables e below (T16.setTop (mkF m 8 #[.val (.int p1), .val (.int p2), .unset, .unset, .unset, .unset, .unset] [(.ref b16), (.ref b16), (.ref b1), (.ref b1)])) _
            refine st21.trans ?_
            refine st37.trans ?_
            refine XS.astoreN X37.here hx rfl (hb hby at_14) rfl rfl (l' := #[.val (.int p1), .val (.int p2), .val (.ref b1), .unset, .unset, .unset, .unset]) rfl ?_
            refine st41 _ ?_
            show Steps p.tables e below (T41.setTop (mkF m 18 #[.val (.int p1), .val (.int p2), .val (.ref b1), .unset, .unset, .unset, .unset] [(.ref b41)])) _
            refine XS.dup X41.here hx rfl (hb hby at_18) rfl rfl ?_
            refine st47.trans ?_
            refine XS.astoreN X47.here hx rfl (hb hby at_22) rfl rfl (l' := #[.val (.int p1), .val (.int p2), .val (.ref b1), .val (.ref b41), .unset, .unset, .unset]) rfl ?_
            refine XS.aloadN X47.here hx rfl (hb hby at_23) rfl rfl ?_
            show Steps p.tables e below (T47.setTop (mkF m 24 #[.val (.int p1), .val (.int p2), .val (.ref b1), .val (.ref b41), .unset, .unset, .unset] [(.ref b1)])) _
            refine st52.trans ?_
            refine XS.istore X52.here hx rfl (hb hby at_27) rfl (l' := #[.val (.int p1), .val (.int p2), .val (.ref b1), .val (.ref b41), .val (.int (1 : Int32)), .unset, .unset]) rfl ?_
            refine XS.iloadN X52.here hx rfl (hb hby at_29) rfl ?_
            refine XS.bipush X52.here hx rfl (hb hby at_30) ?_
            show Steps p.tables e below (T52.setTop (mkF m 32 #[.val (.int p1), .val (.int p2), .val (.ref b1), .val (.ref b41), .val (.int (1 : Int32)), .unset, .unset] [(.int (15 : Int32)), (.int p1)])) _
            refine XS.iand X52.here hx rfl (hb hby at_32) rfl ?_
            refine XS.istore X52.here hx rfl (hb hby at_33) rfl (l' := #[.val (.int p1), .val (.int p2), .val (.ref b1), .val (.ref b41), .val (.int (1 : Int32)), .val (.int (p1 &&& (15 : Int32))), .unset]) rfl ?_
            refine XS.iload X52.here hx rfl (hb hby at_35) rfl ?_
            refine XS.iconst X52.here hx rfl (hb hby at_37) ?_
            show Steps p.tables e below (T52.setTop (mkF m 38 #[.val (.int p1), .val (.int p2), .val (.ref b1), .val (.ref b41), .val (.int (1 : Int32)), .val (.int (p1 &&& (15 : Int32))), .unset] [(.int (1 : Int32)), (.int (p1 &&& (15 : Int32)))])) _
            refine XS.iand X52.here hx rfl (hb hby at_38) rfl ?_
            refine XS.ifNo X52.here hx rfl (hb hby at_39) rfl ((if0 _ _).trans (feq hc1).1) ?_
            refine XS.aloadN X52.here hx rfl (hb hby at_42) rfl rfl ?_
            refine XS.iconst X52.here hx rfl (hb hby at_43) ?_
            show Steps p.tables e below (T52.setTop (mkF m 44 #[.val (.int p1), .val (.int p2), .val (.ref b1), .val (.ref b41), .val (.int (1 : Int32)), .val (.int (p1 &&& (15 : Int32))), .unset] [(.int (0 : Int32)), (.ref b1)])) _
            refine XS.aloadN X52.here hx rfl (hb hby at_44) rfl rfl ?_
            refine XS.iloadN X52.here hx rfl (hb hby at_45) rfl ?_
            refine st139.trans ?_
            refine XS.iload X139.here hx rfl (hb hby at_49) rfl ?_
            show Steps p.tables e below (T139.setTop (mkF m 51 #[.val (.int p1), .val (.int p2), .val (.ref b1), .val (.ref b41), .val (.int (1 : Int32)), .val (.int (p1 &&& (15 : Int32))), .unset] [(.int (p1 &&& (15 : Int32)))])) _
            refine XS.iconst X139.here hx rfl (hb hby at_51) ?_
            refine XS.iand X139.here hx rfl (hb hby at_52) rfl ?_
            refine XS.ifNo X139.here hx rfl (hb hby at_53) rfl ((if0 _ _).trans (feq hc9).1) ?_
            refine XS.aloadN X139.here hx rfl (hb hby at_56) rfl rfl ?_
            show Steps p.tables e below (T139.setTop (mkF m 57 #[.val (.int p1), .val (.int p2), .val (.ref b1), .val (.ref b41), .val (.int (1 : Int32)), .val (.int (p1 &&& (15 : Int32))), .unset] [(.ref b1)])) _
            refine XS.iconst X139.here hx rfl (hb hby at_57) ?_
            refine XS.aloadN X139.here hx rfl (hb hby at_58) rfl rfl ?_
            refine XS.iloadN X139.here hx rfl (hb hby at_59) rfl ?_
            refine st183.trans ?_
            show Steps p.tables e below (T183.setTop (mkF m 63 #[.val (.int p1), .val (.int p2), .val (.ref b1), .val (.ref b41), .val (.int (1 : Int32)), .val (.int (p1 &&& (15 : Int32))), .unset] [])) _
            refine XS.iload X183.here hx rfl (hb hby at_63) rfl ?_
            refine XS.iconst X183.here hx rfl (hb hby at_65) ?_
            refine XS.iand X183.here hx rfl (hb hby at_66) rfl ?_
            refine XS.ifYes X183.here hx rfl (pc0 := 67) (pc' := 77) rfl (hb hby at_67) rfl ((if0 _ _).trans (teq hc13).1) (by decide) (by decide) ?_
            show Steps p.tables e below (T183.setTop (mkF m 77 #[.val (.int p1), .val (.int p2), .val (.ref b1), .val (.ref b41), .val (.int (1 : Int32)), .val (.int (p1 &&& (15 : Int32))), .unset] [])) _
            refine XS.iload X183.here hx rfl (hb hby at_77) rfl ?_
            refine XS.bipush X183.here hx rfl (hb hby at_79) ?_
            refine XS.iand X183.here hx rfl (hb hby at_81) rfl ?_
            refine XS.ifYes X183.here hx rfl (pc0 := 82) (pc' := 92) rfl (hb hby at_82) rfl ((if0 _ _).trans (teq hc14).1) (by decide) (by decide) ?_
            show Steps p.tables e below (T183.setTop (mkF m 92 #[.val (.int p1), .val (.int p2), .val (.ref b1), .val (.ref b41), .val (.int (1 : Int32)), .val (.int (p1 &&& (15 : Int32))), .unset] [])) _
            refine XS.aloadN X183.here hx rfl (hb hby at_92) rfl rfl ?_
            refine st185.trans ?_
            refine XS.istore X185.here hx rfl (hb hby at_96) rfl (l' := #[.val (.int p1), .val (.int p2), .val (.ref b1), .val (.ref b41), .val (.int (1 : Int32)), .val (.int (p1 &&& (15 : Int32))), .val (.int (0 : Int32))]) rfl ?_
            refine XS.iload X185.here hx rfl (hb hby at_98) rfl ?_
            show Steps p.tables e below (T185.setTop (mkF m 100 #[.val (.int p1), .val (.int p2), .val (.ref b1), .val (.ref b41), .val (.int (1 : Int32)), .val (.int (p1 &&& (15 : Int32))), .val (.int (0 : Int32))] [(.int (1 : Int32))])) _
            refine XS.ifNo X185.here hx rfl (hb hby at_100) rfl ((if0 _ _).trans (feq (by decide : ¬ ((1 : Int32) = (0 : Int32)))).1) ?_
            refine XS.iload X185.here hx rfl (hb hby at_103) rfl ?_
            refine XS.iload X185.here hx rfl (hb hby at_105) rfl ?_
            refine XS.ifYes X185.here hx rfl (pc0 := 107) (pc' := 114) rfl (hb hby at_107) rfl ((if0 _ _).trans (feq (own_nz hc1)).2) (by decide) (by decide) ?_
            show Steps p.tables e below (T185.setTop (mkF m 114 #[.val (.int p1), .val (.int p2), .val (.ref b1), .val (.ref b41), .val (.int (1 : Int32)), .val (.int (p1 &&& (15 : Int32))), .val (.int (0 : Int32))] [(.int (0 : Int32))])) _
            refine XS.iconst X185.here hx rfl (hb hby at_114) ?_
            refine XS.icmpNo X185.here hx rfl (hb hby at_115) rfl (teq (by decide : (0 : Int32) = (0 : Int32))).2 ?_
            refine XS.iconst X185.here hx rfl (hb hby at_118) ?_
            refine XS.goto X185.here hx rfl (pc0 := 119) (pc' := 123) rfl (hb hby at_119) (by decide) (by decide) ?_
            show Steps p.tables e below (T185.setTop (mkF m 123 #[.val (.int p1), .val (.int p2), .val (.ref b1), .val (.ref b41), .val (.int (1 : Int32)), .val (.int (p1 &&& (15 : Int32))), .val (.int (0 : Int32))] [(.int (1 : Int32))])) _
            exact retN X185 hx (t := .boolean) Bd.returns (by simp) (hb hby at_123) hr
          · show Q_rm0 Z p1 p2 wD h0 n0 _ T185.heap _
            exact ⟨rfl, N185⟩
        · have f187 : Exa Z T183.heap b1 "com/example/concordia/concordia/index/LinkedCode" := (f176.keep Kc183)
          have f188 : own_Ars Z T183.heap cd_37 .int (64 : Int32) := (f177.keep Kc183)
          have f189 : Exa Z T183.heap b41 "com/example/concordia/concordia/index/Program" := (f178.keep Kc183)
          have f190 : Fld Z T183.heap b41 "com/example/concordia/concordia/index/Program" "lastLiteralFrom" "I" (.int (0 : Int32)) := (f179.keep Kc183 (ninS (Ne.symm (Nat.ne_of_lt (Nat.lt_of_lt_of_le (f23.keep Kc37).lt (Nat.le_of_eq g41.symm)))) (ninS (Ne.symm (Nat.ne_of_lt (Nat.lt_of_lt_of_le p37_4.lt (Nat.le_of_eq g41.symm)))) (ninS (Ne.symm (Nat.ne_of_lt (Nat.lt_of_lt_of_le p37_6.lt (Nat.le_of_eq g41.symm)))) nin0))))
          have f191 : Fld Z T183.heap b41 "com/example/concordia/concordia/index/Program" "instructions" "Lcom/example/concordia/concordia/expr/IntList;" (.ref il_47) := (f180.keep Kc183 (ninS (Ne.symm (Nat.ne_of_lt (Nat.lt_of_lt_of_le (f23.keep Kc37).lt (Nat.le_of_eq g41.symm)))) (ninS (Ne.symm (Nat.ne_of_lt (Nat.lt_of_lt_of_le p37_4.lt (Nat.le_of_eq g41.symm)))) (ninS (Ne.symm (Nat.ne_of_lt (Nat.lt_of_lt_of_le p37_6.lt (Nat.le_of_eq g41.symm)))) nin0))))
          have f192 : Exa Z T183.heap il_47 "com/example/concordia/concordia/expr/IntList" := (f181.keep Kc183)
          have f193 : Fld Z T183.heap il_47 "com/example/concordia/concordia/expr/IntList" "size" "I" (.int (0 : Int32)) := (f182.keep Kc183 (ninS (Ne.symm (Nat.ne_of_lt (Nat.lt_of_lt_of_le ((f23.keep Kc37).ext E41).lt p47_0))) (ninS (Ne.symm (Nat.ne_of_lt (Nat.lt_of_lt_of_le (p37_4.ext E41).lt p47_0))) (ninS (Ne.symm (Nat.ne_of_lt (Nat.lt_of_lt_of_le (p37_6.ext E41).lt p47_0))) nin0))))
          obtain ⟨cq194, kq194, q194a, q194b, q194c⟩ := isOf hZ rfl f187
          obtain ⟨_, _, ⟨T194, L194, k194, n194⟩, -, X194, ⟨Lc194, hQ194, l194, y194, z194⟩, st194⟩ := X183.virtualBack hx (y := (⟨"com/example/concordia/concordia/index/LinkedCode", "add", "(ILcom/example/concordia/concordia/index/Program;I)V"⟩ : MethodName)) (z := (⟨"com/example/concordia/concordia/index/LinkedCode", "add", "(ILcom/example/concordia/concordia/index/Program;I)V"⟩ : MethodName)) hown (mvT hZ (hw _ (List.mem_of_getElem? (i := 177) rfl))) (mvT hZ (hw _ (List.mem_of_getElem? (i := 178) rfl))) (notFace_of_selects (args := #[]) (mvT hZ (hw _ (List.mem_of_getElem? (i := 180) rfl)))) (mvT hZ (hw _ (List.mem_of_getElem? (i := 180) rfl))) (mvT hZ (hw _ (List.mem_of_getElem? (i := 179) rfl))) (by decide) (backOf (W := 0) (rm_ad3 l Z a0 hw [] b1 b41 p2 cd_37 (4 : Int32) (2 : Int32) rt_37 il_47 kr_37 (.ref b41) (0 : Int32) (2 : Int32) (-1 : Int32) (-1 : Int32) T183.heap n0 (Nat.le_trans Z0 K184.1) f187 gnb1 gncd_37 p183_0 f188 p183_1 p183_2 p183_3 p183_4 p183_5 p183_6 gnrt_37 p37_2 f189 f190 f191 f192 f193 (by decide : ¬ ((4 : Int32) < (0 : Int32))) (by decide : (4 : Int32) < (64 : Int32)) (by decide : ¬ (((4 : Int32) + (1 : Int32)) < (0 : Int32))) (by decide : ((4 : Int32) + (1 : Int32)) < (64 : Int32)) (by decide : ¬ ((64 : Int32) < ((4 : Int32) + (2 : Int32)))) (by decide : ¬ ((1024 : Int32) < ((4 : Int32) + (2 : Int32)))) (by decide : (-1 : Int32) = (-1 : Int32))) hZ (hw _ (List.mem_of_getElem? (i := 181) rfl)) (hw _ (List.mem_of_getElem? (i := 2) rfl)) (by decide) (by decide)) q194a q194c (g := (mkF m 89 #[.val (.int p1), .val (.int p2), .val (.ref b1), .val (.ref b41), .val (.int (1 : Int32)), .val (.int (p1 &&& (15 : Int32))), .unset] [(.int p2), (.ref b41), (.int (3 : Int32)), (.ref b1)])) rfl (by rw [hml]; rfl) (Steps.refl _) (argsL := [(.int (3 : Int32)), (.ref b41), (.int p2)]) (rest := []) (lenOf pd__40ILcom_47example_47concordia_47concordia_47index_47Program_59I_41V rfl) rfl (by show 2 * 0 + _ ≤ _; exact Nat.le_of_eq rfl) (hb hby at_89) (fun _ _ => ⟨rfl, rfl, (by decide : 31 + 0 ≤ _), (by decide : 1183 + 0 ≤ _)⟩)
          dsimp only [Pt.U, Pt.locs, Pt.cells, Pt.slots] at X194 l194 y194 z194 st194 hQ194
          subst l194 y194 z194
          obtain ⟨rfl, Nq194, Kc194, p194_0, p194_1, p194_2, p194_3, p194_4, p194_5, p194_6⟩ := hQ194
          have K195 : Keep h0 T194.heap [] := K184.trans Kc194 (allS (Or.inr gzb1) (allS (Or.inr gzcd_37) (allS (Or.inr gzrt_37) all0)))
          have N194 := Fr.app N183 Nq194
          have f197 : Exa Z T194.heap b1 "com/example/concordia/concordia/index/LinkedCode" := (f187.keep Kc194)
          obtain ⟨cq196, kq196, q196a, q196b, q196c⟩ := isOf hZ rfl f197
          obtain ⟨_, _, ⟨T196, L196, k196, n196⟩, -, X196, ⟨Lc196, hQ196, l196, y196, z196⟩, st196⟩ := X194.virtualBack hx (y := (⟨"com/example/concordia/concordia/index/LinkedCode", "isEmpty", "()Z"⟩ : MethodName)) (z := (⟨"com/example/concordia/concordia/index/LinkedCode", "isEmpty", "()Z"⟩ : MethodName)) hown (mvT hZ (hw _ (List.mem_of_getElem? (i := 172) rfl))) (mvT hZ (hw _ (List.mem_of_getElem? (i := 173) rfl))) (notFace_of_selects (args := #[]) (mvT hZ (hw _ (List.mem_of_getElem? (i := 175) rfl)))) (mvT hZ (hw _ (List.mem_of_getElem? (i := 175) rfl))) (mvT hZ (hw _ (List.mem_of_getElem? (i := 174) rfl))) (by decide) (backOf (W := 0) (rm_em0 l Z a0 hw [] b1 rt_37 kr_37 (0 : Int32) (2 : Int32) (-1 : Int32) (4 : Int32) T194.heap n0 (Nat.le_trans Z0 K195.1) p194_3 p194_6 (by decide : ¬ ((0 : Int32) = (-1 : Int32)))) hZ (hw _ (List.mem_of_getElem? (i := 176) rfl)) (hw _ (List.mem_of_getElem? (i := 2) rfl)) (by decide) (by decide)) q196a q196c (g := (mkF m 93 #[.val (.int p1), .val (.int p2), .val (.ref b1), .val (.ref b41), .val (.int (1 : Int32)), .val (.int (p1 &&& (15 : Int32))), .unset] [(.ref b1)])) rfl (by rw [hml]; rfl) (Steps.refl _) (argsL := []) (rest := []) (lenOf pd__40_41Z rfl) rfl (by show 2 * 0 + _ ≤ _; exact Nat.le_of_eq rfl) (hb hby at_93) (fun _ _ => ⟨rfl, rfl, (by decide : 31 + 0 ≤ _), (by decide : 1183 + 0 ≤ _)⟩)
          dsimp only [Pt.U, Pt.locs, Pt.cells, Pt.slots] at X196 l196 y196 z196 st196 hQ196
          subst l196 y196 z196
          obtain ⟨rfl, Nq196, e196⟩ := hQ196
          have N196 := Fr.app N194 Nq196
          obtain ⟨fs, hr, hrun, hended, hW, hsame⟩ := X196.leave (v := some (.int (1 : Int32))) (fun h => by rw [Bd.returns] at h; cases h)
          refine ⟨_, _, pre0 _ ?_, hrun, hended, _, _, rfl, ?_, ⟨_, rfl⟩, hW, hsame.mono (by decide) (by decide)⟩
          · show Steps p.tables e below (s₁.setTop (mkF m 0 #[.val (.int p1), .val (.int p2), .unset, .unset, .unset, .unset, .unset] [])) _
            refine st1 _ ?_
            refine XS.dup X1.here hx rfl (hb hby at_3) rfl rfl ?_
            refine st16 _ ?_
            refine XS.dup X16.here hx rfl (hb hby at_7) rfl rfl ?_
            show Steps p.tables e below (T16.setTop (mkF m 8 #[.val (.int p1), .val (.int p2), .unset, .unset, .unset, .unset, .unset] [(.ref b16), (.ref b16), (.ref b1), (.ref b1)])) _
            refine st21.trans ?_
            refine st37.trans ?_
            refine XS.astoreN X37.here hx rfl (hb hby at_14) rfl rfl (l' := #[.val (.int p1), .val (.int p2), .val (.ref b1), .unset, .unset, .unset, .unset]) rfl ?_
            refine st41 _ ?_
            show Steps p.tables e below (T41.setTop (mkF m 18 #[.val (.int p1), .val (.int p2), .val (.ref b1), .unset, .unset, .unset, .unset] [(.ref b41)])) _
            refine XS.dup X41.here hx rfl (hb hby at_18) rfl rfl ?_
            refine st47.trans ?_
            refine XS.astoreN X47.here hx rfl (hb hby at_22) rfl rfl (l' := #[.val (.int p1), .val (.int p2), .val (.ref b1), .val (.ref b41), .unset, .unset, .unset]) rfl ?_
            refine XS.aloadN X47.here hx rfl (hb hby at_23) rfl rfl ?_
            show Steps p.tables e below (T47.setTop (mkF m 24 #[.val (.int p1), .val (.int p2), .val (.ref b1), .val (.ref b41), .unset, .unset, .unset] [(.ref b1)])) _
            refine st52.trans ?_
            refine XS.istore X52.here hx rfl (hb hby at_27) rfl (l' := #[.val (.int p1), .val (.int p2), .val (.ref b1), .val (.ref b41), .val (.int (1 : Int32)), .unset, .unset]) rfl ?_
            refine XS.iloadN X52.here hx rfl (hb hby at_29) rfl ?_
            refine XS.bipush X52.here hx rfl (hb hby at_30) ?_
            show Steps p.tables e below (T52.setTop (mkF m 32 #[.val (.int p1), .val (.int p2), .val (.ref b1), .val (.ref b41), .val (.int (1 : Int32)), .unset, .unset] [(.int (15 : Int32)), (.int p1)])) _
            refine XS.iand X52.here hx rfl (hb hby at_32) rfl ?_
            refine XS.istore X52.here hx rfl (hb hby at_33) rfl (l' := #[.val (.int p1), .val (.int p2), .val (.ref b1), .val (.ref b41), .val (.int (1 : Int32)), .val (.int (p1 &&& (15 : Int32))), .unset]) rfl ?_
            refine XS.iload X52.here hx rfl (hb hby at_35) rfl ?_
            refine XS.iconst X52.here hx rfl (hb hby at_37) ?_
            show Steps p.tables e below (T52.setTop (mkF m 38 #[.val (.int p1), .val (.int p2), .val (.ref b1), .val (.ref b41), .val (.int (1 : Int32)), .val (.int (p1 &&& (15 : Int32))), .unset] [(.int (1 : Int32)), (.int (p1 &&& (15 : Int32)))])) _
            refine XS.iand X52.here hx rfl (hb hby at_38) rfl ?_
            refine XS.ifNo X52.here hx rfl (hb hby at_39) rfl ((if0 _ _).trans (feq hc1).1) ?_
            refine XS.aloadN X52.here hx rfl (hb hby at_42) rfl rfl ?_
            refine XS.iconst X52.here hx rfl (hb hby at_43) ?_
            show Steps p.tables e below (T52.setTop (mkF m 44 #[.val (.int p1), .val (.int p2), .val (.ref b1), .val (.ref b41), .val (.int (1 : Int32)), .val (.int (p1 &&& (15 : Int32))), .unset] [(.int (0 : Int32)), (.ref b1)])) _
            refine XS.aloadN X52.here hx rfl (hb hby at_44) rfl rfl ?_
            refine XS.iloadN X52.here hx rfl (hb hby at_45) rfl ?_
            refine st139.trans ?_
            refine XS.iload X139.here hx rfl (hb hby at_49) rfl ?_
            show Steps p.tables e below (T139.setTop (mkF m 51 #[.val (.int p1), .val (.int p2), .val (.ref b1), .val (.ref b41), .val (.int (1 : Int32)), .val (.int (p1 &&& (15 : Int32))), .unset] [(.int (p1 &&& (15 : Int32)))])) _
            refine XS.iconst X139.here hx rfl (hb hby at_51) ?_
            refine XS.iand X139.here hx rfl (hb hby at_52) rfl ?_
            refine XS.ifNo X139.here hx rfl (hb hby at_53) rfl ((if0 _ _).trans (feq hc9).1) ?_
            refine XS.aloadN X139.here hx rfl (hb hby at_56) rfl rfl ?_
            show Steps p.tables e below (T139.setTop (mkF m 57 #[.val (.int p1), .val (.int p2), .val (.ref b1), .val (.ref b41), .val (.int (1 : Int32)), .val (.int (p1 &&& (15 : Int32))), .unset] [(.ref b1)])) _
            refine XS.iconst X139.here hx rfl (hb hby at_57) ?_
            refine XS.aloadN X139.here hx rfl (hb hby at_58) rfl rfl ?_
            refine XS.iloadN X139.here hx rfl (hb hby at_59) rfl ?_
            refine st183.trans ?_
            show Steps p.tables e below (T183.setTop (mkF m 63 #[.val (.int p1), .val (.int p2), .val (.ref b1), .val (.ref b41), .val (.int (1 : Int32)), .val (.int (p1 &&& (15 : Int32))), .unset] [])) _
            refine XS.iload X183.here hx rfl (hb hby at_63) rfl ?_
            refine XS.iconst X183.here hx rfl (hb hby at_65) ?_
            refine XS.iand X183.here hx rfl (hb hby at_66) rfl ?_
            refine XS.ifYes X183.here hx rfl (pc0 := 67) (pc' := 77) rfl (hb hby at_67) rfl ((if0 _ _).trans (teq hc13).1) (by decide) (by decide) ?_
            show Steps p.tables e below (T183.setTop (mkF m 77 #[.val (.int p1), .val (.int p2), .val (.ref b1), .val (.ref b41), .val (.int (1 : Int32)), .val (.int (p1 &&& (15 : Int32))), .unset] [])) _
            refine XS.iload X183.here hx rfl (hb hby at_77) rfl ?_
            refine XS.bipush X183.here hx rfl (hb hby at_79) ?_
            refine XS.iand X183.here hx rfl (hb hby at_81) rfl ?_
            refine XS.ifNo X183.here hx rfl (hb hby at_82) rfl ((if0 _ _).trans (feq hc14).1) ?_
            show Steps p.tables e below (T183.setTop (mkF m 85 #[.val (.int p1), .val (.int p2), .val (.ref b1), .val (.ref b41), .val (.int (1 : Int32)), .val (.int (p1 &&& (15 : Int32))), .unset] [])) _
            refine XS.aloadN X183.here hx rfl (hb hby at_85) rfl rfl ?_
            refine XS.iconst X183.here hx rfl (hb hby at_86) ?_
            refine XS.aloadN X183.here hx rfl (hb hby at_87) rfl rfl ?_
            refine XS.iloadN X183.here hx rfl (hb hby at_88) rfl ?_
            show Steps p.tables e below (T183.setTop (mkF m 89 #[.val (.int p1), .val (.int p2), .val (.ref b1), .val (.ref b41), .val (.int (1 : Int32)), .val (.int (p1 &&& (15 : Int32))), .unset] [(.int p2), (.ref b41), (.int (3 : Int32)), (.ref b1)])) _
            refine st194.trans ?_
            refine XS.aloadN X194.here hx rfl (hb hby at_92) rfl rfl ?_
            refine st196.trans ?_
            refine XS.istore X196.here hx rfl (hb hby at_96) rfl (l' := #[.val (.int p1), .val (.int p2), .val (.ref b1), .val (.ref b41), .val (.int (1 : Int32)), .val (.int (p1 &&& (15 : Int32))), .val (.int (0 : Int32))]) rfl ?_
            show Steps p.tables e below (T196.setTop (mkF m 98 #[.val (.int p1), .val (.int p2), .val (.ref b1), .val (.ref b41), .val (.int (1 : Int32)), .val (.int (p1 &&& (15 : Int32))), .val (.int (0 : Int32))] [])) _
            refine XS.iload X196.here hx rfl (hb hby at_98) rfl ?_
            refine XS.ifNo X196.here hx rfl (hb hby at_100) rfl ((if0 _ _).trans (feq (by decide : ¬ ((1 : Int32) = (0 : Int32)))).1) ?_
            refine XS.iload X196.here hx rfl (hb hby at_103) rfl ?_
            refine XS.iload X196.here hx rfl (hb hby at_105) rfl ?_
            show Steps p.tables e below (T196.setTop (mkF m 107 #[.val (.int p1), .val (.int p2), .val (.ref b1), .val (.ref b41), .val (.int (1 : Int32)), .val (.int (p1 &&& (15 : Int32))), .val (.int (0 : Int32))] [(.int (p1 &&& (15 : Int32))), (.int (0 : Int32))])) _
            refine XS.ifYes X196.here hx rfl (pc0 := 107) (pc' := 114) rfl (hb hby at_107) rfl ((if0 _ _).trans (feq (own_nz hc1)).2) (by decide) (by decide) ?_
            refine XS.iconst X196.here hx rfl (hb hby at_114) ?_
            refine XS.icmpNo X196.here hx rfl (hb hby at_115) rfl (teq (by decide : (0 : Int32) = (0 : Int32))).2 ?_
            refine XS.iconst X196.here hx rfl (hb hby at_118) ?_
            show Steps p.tables e below (T196.setTop (mkF m 119 #[.val (.int p1), .val (.int p2), .val (.ref b1), .val (.ref b41), .val (.int (1 : Int32)), .val (.int (p1 &&& (15 : Int32))), .val (.int (0 : Int32))] [(.int (1 : Int32))])) _
            refine XS.goto X196.here hx rfl (pc0 := 119) (pc' := 123) rfl (hb hby at_119) (by decide) (by decide) ?_
            exact retN X196 hx (t := .boolean) Bd.returns (by simp) (hb hby at_123) hr
          · show Q_rm0 Z p1 p2 wD h0 n0 _ T196.heap _
            exact ⟨rfl, N196⟩
      · have f198 : Exa Z T183.heap b1 "com/example/concordia/concordia/index/LinkedCode" := (f176.keep Kc183)
        have f199 : own_Ars Z T183.heap cd_37 .int (64 : Int32) := (f177.keep Kc183)
        have f200 : Exa Z T183.heap b41 "com/example/concordia/concordia/index/Program" := (f178.keep Kc183)
        have f201 : Fld Z T183.heap b41 "com/example/concordia/concordia/index/Program" "lastLiteralFrom" "I" (.int (0 : Int32)) := (f179.keep Kc183 (ninS (Ne.symm (Nat.ne_of_lt (Nat.lt_of_lt_of_le (f23.keep Kc37).lt (Nat.le_of_eq g41.symm)))) (ninS (Ne.symm (Nat.ne_of_lt (Nat.lt_of_lt_of_le p37_4.lt (Nat.le_of_eq g41.symm)))) (ninS (Ne.symm (Nat.ne_of_lt (Nat.lt_of_lt_of_le p37_6.lt (Nat.le_of_eq g41.symm)))) nin0))))
        have f202 : Fld Z T183.heap b41 "com/example/concordia/concordia/index/Program" "instructions" "Lcom/example/concordia/concordia/expr/IntList;" (.ref il_47) := (f180.keep Kc183 (ninS (Ne.symm (Nat.ne_of_lt (Nat.lt_of_lt_of_le (f23.keep Kc37).lt (Nat.le_of_eq g41.symm)))) (ninS (Ne.symm (Nat.ne_of_lt (Nat.lt_of_lt_of_le p37_4.lt (Nat.le_of_eq g41.symm)))) (ninS (Ne.symm (Nat.ne_of_lt (Nat.lt_of_lt_of_le p37_6.lt (Nat.le_of_eq g41.symm)))) nin0))))
        have f203 : Exa Z T183.heap il_47 "com/example/concordia/concordia/expr/IntList" := (f181.keep Kc183)
        have f204 : Fld Z T183.heap il_47 "com/example/concordia/concordia/expr/IntList" "size" "I" (.int (0 : Int32)) := (f182.keep Kc183 (ninS (Ne.symm (Nat.ne_of_lt (Nat.lt_of_lt_of_le ((f23.keep Kc37).ext E41).lt p47_0))) (ninS (Ne.symm (Nat.ne_of_lt (Nat.lt_of_lt_of_le (p37_4.ext E41).lt p47_0))) (ninS (Ne.symm (Nat.ne_of_lt (Nat.lt_of_lt_of_le (p37_6.ext E41).lt p47_0))) nin0))))
        obtain ⟨cq205, kq205, q205a, q205b, q205c⟩ := isOf hZ rfl f198
        obtain ⟨_, _, ⟨T205, L205, k205, n205⟩, -, X205, ⟨Lc205, hQ205, l205, y205, z205⟩, st205⟩ := X183.virtualBack hx (y := (⟨"com/example/concordia/concordia/index/LinkedCode", "add", "(ILcom/example/concordia/concordia/index/Program;I)V"⟩ : MethodName)) (z := (⟨"com/example/concordia/concordia/index/LinkedCode", "add", "(ILcom/example/concordia/concordia/index/Program;I)V"⟩ : MethodName)) hown (mvT hZ (hw _ (List.mem_of_getElem? (i := 177) rfl))) (mvT hZ (hw _ (List.mem_of_getElem? (i := 178) rfl))) (notFace_of_selects (args := #[]) (mvT hZ (hw _ (List.mem_of_getElem? (i := 180) rfl)))) (mvT hZ (hw _ (List.mem_of_getElem? (i := 180) rfl))) (mvT hZ (hw _ (List.mem_of_getElem? (i := 179) rfl))) (by decide) (backOf (W := 0) (rm_ad2 l Z a0 hw [] b1 b41 p2 cd_37 (4 : Int32) (2 : Int32) rt_37 il_47 kr_37 (.ref b41) (0 : Int32) (2 : Int32) (-1 : Int32) (-1 : Int32) T183.heap n0 (Nat.le_trans Z0 K184.1) f198 gnb1 gncd_37 p183_0 f199 p183_1 p183_2 p183_3 p183_4 p183_5 p183_6 gnrt_37 p37_2 f200 f201 f202 f203 f204 (by decide : ¬ ((4 : Int32) < (0 : Int32))) (by decide : (4 : Int32) < (64 : Int32)) (by decide : ¬ (((4 : Int32) + (1 : Int32)) < (0 : Int32))) (by decide : ((4 : Int32) + (1 : Int32)) < (64 : Int32)) (by decide : ¬ ((64 : Int32) < ((4 : Int32) + (2 : Int32)))) (by decide : ¬ ((1024 : Int32) < ((4 : Int32) + (2 : Int32)))) (by decide : (-1 : Int32) = (-1 : Int32))) hZ (hw _ (List.mem_of_getElem? (i := 181) rfl)) (hw _ (List.mem_of_getElem? (i := 2) rfl)) (by decide) (by decide)) q205a q205c (g := (mkF m 74 #[.val (.int p1), .val (.int p2), .val (.ref b1), .val (.ref b41), .val (.int (1 : Int32)), .val (.int (p1 &&& (15 : Int32))), .unset] [(.int p2), (.ref b41), (.int (2 : Int32)), (.ref b1)])) rfl (by rw [hml]; rfl) (Steps.refl _) (argsL := [(.int (2 : Int32)), (.ref b41), (.int p2)]) (rest := []) (lenOf pd__40ILcom_47example_47concordia_47concordia_47index_47Program_59I_41V rfl) rfl (by show 2 * 0 + _ ≤ _; exact Nat.le_of_eq rfl) (hb hby at_74) (fun _ _ => ⟨rfl, rfl, (by decide : 31 + 0 ≤ _), (by decide : 1183 + 0 ≤ _)⟩)
        dsimp only [Pt.U, Pt.locs, Pt.cells, Pt.slots] at X205 l205 y205 z205 st205 hQ205
        subst l205 y205 z205
        obtain ⟨rfl, Nq205, Kc205, p205_0, p205_1, p205_2, p205_3, p205_4, p205_5, p205_6⟩ := hQ205
        have K206 : Keep h0 T205.heap [] := K184.trans Kc205 (allS (Or.inr gzb1) (allS (Or.inr gzcd_37) (allS (Or.inr gzrt_37) all0)))
        have N205 := Fr.app N183 Nq205
        by_cases hc15 : ((p1 &&& (15 : Int32)) &&& (8 : Int32)) = (0 : Int32)
        · have f208 : Exa Z T205.heap b1 "com/example/concordia/concordia/index/LinkedCode" := (f198.keep Kc205)
          obtain ⟨cq207, kq207, q207a, q207b, q207c⟩ := isOf hZ rfl f208
          obtain ⟨_, _, ⟨T207, L207, k207, n207⟩, -, X207, ⟨Lc207, hQ207, l207, y207, z207⟩, st207⟩ := X205.virtualBack hx (y := (⟨"com/example/concordia/concordia/index/LinkedCode", "isEmpty", "()Z"⟩ : MethodName)) (z := (⟨"com/example/concordia/concordia/index/LinkedCode", "isEmpty", "()Z"⟩ : MethodName)) hown (mvT hZ (hw _ (List.mem_of_getElem? (i := 172) rfl))) (mvT hZ (hw _ (List.mem_of_getElem? (i := 173) rfl))) (notFace_of_selects (args := #[]) (mvT hZ (hw _ (List.mem_of_getElem? (i := 175) rfl)))) (mvT hZ (hw _ (List.mem_of_getElem? (i := 175) rfl))) (mvT hZ (hw _ (List.mem_of_getElem? (i := 174) rfl))) (by decide) (backOf (W := 0) (rm_em0 l Z a0 hw [] b1 rt_37 kr_37 (0 : Int32) (2 : Int32) (4 : Int32) (-1 : Int32) T205.heap n0 (Nat.le_trans Z0 K206.1) p205_3 p205_6 (by decide : ¬ ((0 : Int32) = (-1 : Int32)))) hZ (hw _ (List.mem_of_getElem? (i := 176) rfl)) (hw _ (List.mem_of_getElem? (i := 2) rfl)) (by decide) (by decide)) q207a q207c (g := (mkF m 93 #[.val (.int p1), .val (.int p2), .val (.ref b1), .val (.ref b41), .val (.int (1 : Int32)), .val (.int (p1 &&& (15 : Int32))), .unset] [(.ref b1)])) rfl (by rw [hml]; rfl) (Steps.refl _) (argsL := []) (rest := []) (lenOf pd__40_41Z rfl) rfl (by show 2 * 0 + _ ≤ _; exact Nat.le_of_eq rfl) (hb hby at_93) (fun _ _ => ⟨rfl, rfl, (by decide : 31 + 0 ≤ _), (by decide : 1183 + 0 ≤ _)⟩)
          dsimp only [Pt.U, Pt.locs, Pt.cells, Pt.slots] at X207 l207 y207 z207 st207 hQ207
          subst l207 y207 z207
          obtain ⟨rfl, Nq207, e207⟩ := hQ207
          have N207 := Fr.app N205 Nq207
          obtain ⟨fs, hr, hrun, hended, hW, hsame⟩ := X207.leave (v := some (.int (1 : Int32))) (fun h => by rw [Bd.returns] at h; cases h)
          refine ⟨_, _, pre0 _ ?_, hrun, hended, _, _, rfl, ?_, ⟨_, rfl⟩, hW, hsame.mono (by decide) (by decide)⟩
          · show Steps p.tables e below (s₁.setTop (mkF m 0 #[.val (.int p1), .val (.int p2), .unset, .unset, .unset, .unset, .unset] [])) _
            refine st1 _ ?_
            refine XS.dup X1.here hx rfl (hb hby at_3) rfl rfl ?_
            refine st16 _ ?_
            refine XS.dup X16.here hx rfl (hb hby at_7) rfl rfl ?_
            show Steps p.tables e below (T16.setTop (mkF m 8 #[.val (.int p1), .val (.int p2), .unset, .unset, .unset, .unset, .unset] [(.ref b16), (.ref b16), (.ref b1), (.ref b1)])) _
            refine st21.trans ?_
            refine st37.trans ?_
            refine XS.astoreN X37.here hx rfl (hb hby at_14) rfl rfl (l' := #[.val (.int p1), .val (.int p2), .val (.ref b1), .unset, .unset, .unset, .unset]) rfl ?_
            refine st41 _ ?_
            show Steps p.tables e below (T41.setTop (mkF m 18 #[.val (.int p1), .val (.int p2), .val (.ref b1), .unset, .unset, .unset, .unset] [(.ref b41)])) _
            refine XS.dup X41.here hx rfl (hb hby at_18) rfl rfl ?_
            refine st47.trans ?_
            refine XS.astoreN X47.here hx rfl (hb hby at_22) rfl rfl (l' := #[.val (.int p1), .val (.int p2), .val (.ref b1), .val (.ref b41), .unset, .unset, .unset]) rfl ?_
            refine XS.aloadN X47.here hx rfl (hb hby at_23) rfl rfl ?_
            show Steps p.tables e below (T47.setTop (mkF m 24 #[.val (.int p1), .val (.int p2), .val (.ref b1), .val (.ref b41), .unset, .unset, .unset] [(.ref b1)])) _
            refine st52.trans ?_
            refine XS.istore X52.here hx rfl (hb hby at_27) rfl (l' := #[.val (.int p1), .val (.int p2), .val (.ref b1), .val (.ref b41), .val (.int (1 : Int32)), .unset, .unset]) rfl ?_
            refine XS.iloadN X52.here hx rfl (hb hby at_29) rfl ?_
            refine XS.bipush X52.here hx rfl (hb hby at_30) ?_
            show Steps p.tables e below (T52.setTop (mkF m 32 #[.val (.int p1), .val (.int p2), .val (.ref b1), .val (.ref b41), .val (.int (1 : Int32)), .unset, .unset] [(.int (15 : Int32)), (.int p1)])) _
            refine XS.iand X52.here hx rfl (hb hby at_32) rfl ?_
            refine XS.istore X52.here hx rfl (hb hby at_33) rfl (l' := #[.val (.int p1), .val (.int p2), .val (.ref b1), .val (.ref b41), .val (.int (1 : Int32)), .val (.int (p1 &&& (15 : Int32))), .unset]) rfl ?_
            refine XS.iload X52.here hx rfl (hb hby at_35) rfl ?_
            refine XS.iconst X52.here hx rfl (hb hby at_37) ?_
            show Steps p.tables e below (T52.setTop (mkF m 38 #[.val (.int p1), .val (.int p2), .val (.ref b1), .val (.ref b41), .val (.int (1 : Int32)), .val (.int (p1 &&& (15 : Int32))), .unset] [(.int (1 : Int32)), (.int (p1 &&& (15 : Int32)))])) _
            refine XS.iand X52.here hx rfl (hb hby at_38) rfl ?_
            refine XS.ifNo X52.here hx rfl (hb hby at_39) rfl ((if0 _ _).trans (feq hc1).1) ?_
            refine XS.aloadN X52.here hx rfl (hb hby at_42) rfl rfl ?_
            refine XS.iconst X52.here hx rfl (hb hby at_43) ?_
            show Steps p.tables e below (T52.setTop (mkF m 44 #[.val (.int p1), .val (.int p2), .val (.ref b1), .val (.ref b41), .val (.int (1 : Int32)), .val (.int (p1 &&& (15 : Int32))), .unset] [(.int (0 : Int32)), (.ref b1)])) _
            refine XS.aloadN X52.here hx rfl (hb hby at_44) rfl rfl ?_
            refine XS.iloadN X52.here hx rfl (hb hby at_45) rfl ?_
            refine st139.trans ?_
            refine XS.iload X139.here hx rfl (hb hby at_49) rfl ?_
            show Steps p.tables e below (T139.setTop (mkF m 51 #[.val (.int p1), .val (.int p2), .val (.ref b1), .val (.ref b41), .val (.int (1 : Int32)), .val (.int (p1 &&& (15 : Int32))), .unset] [(.int (p1 &&& (15 : Int32)))])) _
            refine XS.iconst X139.here hx rfl (hb hby at_51) ?_
            refine XS.iand X139.here hx rfl (hb hby at_52) rfl ?_
            refine XS.ifNo X139.here hx rfl (hb hby at_53) rfl ((if0 _ _).trans (feq hc9).1) ?_
            refine XS.aloadN X139.here hx rfl (hb hby at_56) rfl rfl ?_
            show Steps p.tables e below (T139.setTop (mkF m 57 #[.val (.int p1), .val (.int p2), .val (.ref b1), .val (.ref b41), .val (.int (1 : Int32)), .val (.int (p1 &&& (15 : Int32))), .unset] [(.ref b1)])) _
            refine XS.iconst X139.here hx rfl (hb hby at_57) ?_
            refine XS.aloadN X139.here hx rfl (hb hby at_58) rfl rfl ?_
            refine XS.iloadN X139.here hx rfl (hb hby at_59) rfl ?_
            refine st183.trans ?_
            show Steps p.tables e below (T183.setTop (mkF m 63 #[.val (.int p1), .val (.int p2), .val (.ref b1), .val (.ref b41), .val (.int (1 : Int32)), .val (.int (p1 &&& (15 : Int32))), .unset] [])) _
            refine XS.iload X183.here hx rfl (hb hby at_63) rfl ?_
            refine XS.iconst X183.here hx rfl (hb hby at_65) ?_
            refine XS.iand X183.here hx rfl (hb hby at_66) rfl ?_
            refine XS.ifNo X183.here hx rfl (hb hby at_67) rfl ((if0 _ _).trans (feq hc13).1) ?_
            show Steps p.tables e below (T183.setTop (mkF m 70 #[.val (.int p1), .val (.int p2), .val (.ref b1), .val (.ref b41), .val (.int (1 : Int32)), .val (.int (p1 &&& (15 : Int32))), .unset] [])) _
            refine XS.aloadN X183.here hx rfl (hb hby at_70) rfl rfl ?_
            refine XS.iconst X183.here hx rfl (hb hby at_71) ?_
            refine XS.aloadN X183.here hx rfl (hb hby at_72) rfl rfl ?_
            refine XS.iloadN X183.here hx rfl (hb hby at_73) rfl ?_
            show Steps p.tables e below (T183.setTop (mkF m 74 #[.val (.int p1), .val (.int p2), .val (.ref b1), .val (.ref b41), .val (.int (1 : Int32)), .val (.int (p1 &&& (15 : Int32))), .unset] [(.int p2), (.ref b41), (.int (2 : Int32)), (.ref b1)])) _
            refine st205.trans ?_
            refine XS.iload X205.here hx rfl (hb hby at_77) rfl ?_
            refine XS.bipush X205.here hx rfl (hb hby at_79) ?_
            refine XS.iand X205.here hx rfl (hb hby at_81) rfl ?_
            show Steps p.tables e below (T205.setTop (mkF m 82 #[.val (.int p1), .val (.int p2), .val (.ref b1), .val (.ref b41), .val (.int (1 : Int32)), .val (.int (p1 &&& (15 : Int32))), .unset] [(.int ((p1 &&& (15 : Int32)) &&& (8 : Int32)))])) _
            refine XS.ifYes X205.here hx rfl (pc0 := 82) (pc' := 92) rfl (hb hby at_82) rfl ((if0 _ _).trans (teq hc15).1) (by decide) (by decide) ?_
            refine XS.aloadN X205.here hx rfl (hb hby at_92) rfl rfl ?_
            refine st207.trans ?_
            refine XS.istore X207.here hx rfl (hb hby at_96) rfl (l' := #[.val (.int p1), .val (.int p2), .val (.ref b1), .val (.ref b41), .val (.int (1 : Int32)), .val (.int (p1 &&& (15 : Int32))), .val (.int (0 : Int32))]) rfl ?_
            show Steps p.tables e below (T207.setTop (mkF m 98 #[.val (.int p1), .val (.int p2), .val (.ref b1), .val (.ref b41), .val (.int (1 : Int32)), .val (.int (p1 &&& (15 : Int32))), .val (.int (0 : Int32))] [])) _
            refine XS.iload X207.here hx rfl (hb hby at_98) rfl ?_
            refine XS.ifNo X207.here hx rfl (hb hby at_100) rfl ((if0 _ _).trans (feq (by decide : ¬ ((1 : Int32) = (0 : Int32)))).1) ?_
            refine XS.iload X207.here hx rfl (hb hby at_103) rfl ?_
            refine XS.iload X207.here hx rfl (hb hby at_105) rfl ?_
            show Steps p.tables e below (T207.setTop (mkF m 107 #[.val (.int p1), .val (.int p2), .val (.ref b1), .val (.ref b41), .val (.int (1 : Int32)), .val (.int (p1 &&& (15 : Int32))), .val (.int (0 : Int32))] [(.int (p1 &&& (15 : Int32))), (.int (0 : Int32))])) _
            refine XS.ifYes X207.here hx rfl (pc0 := 107) (pc' := 114) rfl (hb hby at_107) rfl ((if0 _ _).trans (feq (own_nz hc1)).2) (by decide) (by decide) ?_
            refine XS.iconst X207.here hx rfl (hb hby at_114) ?_
            refine XS.icmpNo X207.here hx rfl (hb hby at_115) rfl (teq (by decide : (0 : Int32) = (0 : Int32))).2 ?_
            refine XS.iconst X207.here hx rfl (hb hby at_118) ?_
            show Steps p.tables e below (T207.setTop (mkF m 119 #[.val (.int p1), .val (.int p2), .val (.ref b1), .val (.ref b41), .val (.int (1 : Int32)), .val (.int (p1 &&& (15 : Int32))), .val (.int (0 : Int32))] [(.int (1 : Int32))])) _
            refine XS.goto X207.here hx rfl (pc0 := 119) (pc' := 123) rfl (hb hby at_119) (by decide) (by decide) ?_
            exact retN X207 hx (t := .boolean) Bd.returns (by simp) (hb hby at_123) hr
          · show Q_rm0 Z p1 p2 wD h0 n0 _ T207.heap _
            exact ⟨rfl, N207⟩
        · have f209 : Exa Z T205.heap b1 "com/example/concordia/concordia/index/LinkedCode" := (f198.keep Kc205)
          have f210 : own_Ars Z T205.heap cd_37 .int (64 : Int32) := (f199.keep Kc205)
          have f211 : Exa Z T205.heap b41 "com/example/concordia/concordia/index/Program" := (f200.keep Kc205)
          have f212 : Fld Z T205.heap b41 "com/example/concordia/concordia/index/Program" "lastLiteralFrom" "I" (.int (0 : Int32)) := (f201.keep Kc205 (ninS (Ne.symm (Nat.ne_of_lt (Nat.lt_of_lt_of_le (f23.keep Kc37).lt (Nat.le_of_eq g41.symm)))) (ninS (Ne.symm (Nat.ne_of_lt (Nat.lt_of_lt_of_le p37_4.lt (Nat.le_of_eq g41.symm)))) (ninS (Ne.symm (Nat.ne_of_lt (Nat.lt_of_lt_of_le p37_6.lt (Nat.le_of_eq g41.symm)))) nin0))))
          have f213 : Fld Z T205.heap b41 "com/example/concordia/concordia/index/Program" "instructions" "Lcom/example/concordia/concordia/expr/IntList;" (.ref il_47) := (f202.keep Kc205 (ninS (Ne.symm (Nat.ne_of_lt (Nat.lt_of_lt_of_le (f23.keep Kc37).lt (Nat.le_of_eq g41.symm)))) (ninS (Ne.symm (Nat.ne_of_lt (Nat.lt_of_lt_of_le p37_4.lt (Nat.le_of_eq g41.symm)))) (ninS (Ne.symm (Nat.ne_of_lt (Nat.lt_of_lt_of_le p37_6.lt (Nat.le_of_eq g41.symm)))) nin0))))
          have f214 : Exa Z T205.heap il_47 "com/example/concordia/concordia/expr/IntList" := (f203.keep Kc205)
          have f215 : Fld Z T205.heap il_47 "com/example/concordia/concordia/expr/IntList" "size" "I" (.int (0 : Int32)) := (f204.keep Kc205 (ninS (Ne.symm (Nat.ne_of_lt (Nat.lt_of_lt_of_le ((f23.keep Kc37).ext E41).lt p47_0))) (ninS (Ne.symm (Nat.ne_of_lt (Nat.lt_of_lt_of_le (p37_4.ext E41).lt p47_0))) (ninS (Ne.symm (Nat.ne_of_lt (Nat.lt_of_lt_of_le (p37_6.ext E41).lt p47_0))) nin0))))
          obtain ⟨cq216, kq216, q216a, q216b, q216c⟩ := isOf hZ rfl f209
          obtain ⟨_, _, ⟨T216, L216, k216, n216⟩, -, X216, ⟨Lc216, hQ216, l216, y216, z216⟩, st216⟩ := X205.virtualBack hx (y := (⟨"com/example/concordia/concordia/index/LinkedCode", "add", "(ILcom/example/concordia/concordia/index/Program;I)V"⟩ : MethodName)) (z := (⟨"com/example/concordia/concordia/index/LinkedCode", "add", "(ILcom/example/concordia/concordia/index/Program;I)V"⟩ : MethodName)) hown (mvT hZ (hw _ (List.mem_of_getElem? (i := 177) rfl))) (mvT hZ (hw _ (List.mem_of_getElem? (i := 178) rfl))) (notFace_of_selects (args := #[]) (mvT hZ (hw _ (List.mem_of_getElem? (i := 180) rfl)))) (mvT hZ (hw _ (List.mem_of_getElem? (i := 180) rfl))) (mvT hZ (hw _ (List.mem_of_getElem? (i := 179) rfl))) (by decide) (backOf (W := 0) (rm_ad3 l Z a0 hw [] b1 b41 p2 cd_37 (6 : Int32) (3 : Int32) rt_37 il_47 kr_37 (.ref b41) (0 : Int32) (2 : Int32) (4 : Int32) (-1 : Int32) T205.heap n0 (Nat.le_trans Z0 K206.1) f209 gnb1 gncd_37 p205_0 f210 p205_1 p205_2 p205_3 p205_4 p205_5 p205_6 gnrt_37 p37_2 f211 f212 f213 f214 f215 (by decide : ¬ ((6 : Int32) < (0 : Int32))) (by decide : (6 : Int32) < (64 : Int32)) (by decide : ¬ (((6 : Int32) + (1 : Int32)) < (0 : Int32))) (by decide : ((6 : Int32) + (1 : Int32)) < (64 : Int32)) (by decide : ¬ ((64 : Int32) < ((6 : Int32) + (2 : Int32)))) (by decide : ¬ ((1024 : Int32) < ((6 : Int32) + (2 : Int32)))) (by decide : (-1 : Int32) = (-1 : Int32))) hZ (hw _ (List.mem_of_getElem? (i := 181) rfl)) (hw _ (List.mem_of_getElem? (i := 2) rfl)) (by decide) (by decide)) q216a q216c (g := (mkF m 89 #[.val (.int p1), .val (.int p2), .val (.ref b1), .val (.ref b41), .val (.int (1 : Int32)), .val (.int (p1 &&& (15 : Int32))), .unset] [(.int p2), (.ref b41), (.int (3 : Int32)), (.ref b1)])) rfl (by rw [hml]; rfl) (Steps.refl _) (argsL := [(.int (3 : Int32)), (.ref b41), (.int p2)]) (rest := []) (lenOf pd__40ILcom_47example_47concordia_47concordia_47index_47Program_59I_41V rfl) rfl (by show 2 * 0 + _ ≤ _; exact Nat.le_of_eq rfl) (hb hby at_89) (fun _ _ => ⟨rfl, rfl, (by decide : 31 + 0 ≤ _), (by decide : 1183 + 0 ≤ _)⟩)
          dsimp only [Pt.U, Pt.locs, Pt.cells, Pt.slots] at X216 l216 y216 z216 st216 hQ216
          subst l216 y216 z216
          obtain ⟨rfl, Nq216, Kc216, p216_0, p216_1, p216_2, p216_3, p216_4, p216_5, p216_6⟩ := hQ216
          have K217 : Keep h0 T216.heap [] := K206.trans Kc216 (allS (Or.inr gzb1) (allS (Or.inr gzcd_37) (allS (Or.inr gzrt_37) all0)))
          have N216 := Fr.app N205 Nq216
          have f219 : Exa Z T216.heap b1 "com/example/concordia/concordia/index/LinkedCode" := (f209.keep Kc216)
          obtain ⟨cq218, kq218, q218a, q218b, q218c⟩ := isOf hZ rfl f219
          obtain ⟨_, _, ⟨T218, L218, k218, n218⟩, -, X218, ⟨Lc218, hQ218, l218, y218, z218⟩, st218⟩ := X216.virtualBack hx (y := (⟨"com/example/concordia/concordia/index/LinkedCode", "isEmpty", "()Z"⟩ : MethodName)) (z := (⟨"com/example/concordia/concordia/index/LinkedCode", "isEmpty", "()Z"⟩ : MethodName)) hown (mvT hZ (hw _ (List.mem_of_getElem? (i := 172) rfl))) (mvT hZ (hw _ (List.mem_of_getElem? (i := 173) rfl))) (notFace_of_selects (args := #[]) (mvT hZ (hw _ (List.mem_of_getElem? (i := 175) rfl)))) (mvT hZ (hw _ (List.mem_of_getElem? (i := 175) rfl))) (mvT hZ (hw _ (List.mem_of_getElem? (i := 174) rfl))) (by decide) (backOf (W := 0) (rm_em0 l Z a0 hw [] b1 rt_37 kr_37 (0 : Int32) (2 : Int32) (4 : Int32) (6 : Int32) T216.heap n0 (Nat.le_trans Z0 K217.1) p216_3 p216_6 (by decide : ¬ ((0 : Int32) = (-1 : Int32)))) hZ (hw _ (List.mem_of_getElem? (i := 176) rfl)) (hw _ (List.mem_of_getElem? (i := 2) rfl)) (by decide) (by decide)) q218a q218c (g := (mkF m 93 #[.val (.int p1), .val (.int p2), .val (.ref b1), .val (.ref b41), .val (.int (1 : Int32)), .val (.int (p1 &&& (15 : Int32))), .unset] [(.ref b1)])) rfl (by rw [hml]; rfl) (Steps.refl _) (argsL := []) (rest := []) (lenOf pd__40_41Z rfl) rfl (by show 2 * 0 + _ ≤ _; exact Nat.le_of_eq rfl) (hb hby at_93) (fun _ _ => ⟨rfl, rfl, (by decide : 31 + 0 ≤ _), (by decide : 1183 + 0 ≤ _)⟩)
          dsimp only [Pt.U, Pt.locs, Pt.cells, Pt.slots] at X218 l218 y218 z218 st218 hQ218
          subst l218 y218 z218
          obtain ⟨rfl, Nq218, e218⟩ := hQ218
          have N218 := Fr.app N216 Nq218
          obtain ⟨fs, hr, hrun, hended, hW, hsame⟩ := X218.leave (v := some (.int (1 : Int32))) (fun h => by rw [Bd.returns] at h; cases h)
          refine ⟨_, _, pre0 _ ?_, hrun, hended, _, _, rfl, ?_, ⟨_, rfl⟩, hW, hsame.mono (by decide) (by decide)⟩
          · show Steps p.tables e below (s₁.setTop (mkF m 0 #[.val (.int p1), .val (.int p2), .unset, .unset, .unset, .unset, .unset] [])) _
            refine st1 _ ?_
            refine XS.dup X1.here hx rfl (hb hby at_3) rfl rfl ?_
            refine st16 _ ?_
            refine XS.dup X16.here hx rfl (hb hby at_7) rfl rfl ?_
            show Steps p.tables e below (T16.setTop (mkF m 8 #[.val (.int p1), .val (.int p2), .unset, .unset, .unset, .unset, .unset] [(.ref b16), (.ref b16), (.ref b1), (.ref b1)])) _
            refine st21.trans ?_
            refine st37.trans ?_
            refine XS.astoreN X37.here hx rfl (hb hby at_14) rfl rfl (l' := #[.val (.int p1), .val (.int p2), .val (.ref b1), .unset, .unset, .unset, .unset]) rfl ?_
            refine st41 _ ?_
            show Steps p.tables e below (T41.setTop (mkF m 18 #[.val (.int p1), .val (.int p2), .val (.ref b1), .unset, .unset, .unset, .unset] [(.ref b41)])) _
            refine XS.dup X41.here hx rfl (hb hby at_18) rfl rfl ?_
            refine st47.trans ?_
            refine XS.astoreN X47.here hx rfl (hb hby at_22) rfl rfl (l' := #[.val (.int p1), .val (.int p2), .val (.ref b1), .val (.ref b41), .unset, .unset, .unset]) rfl ?_
            refine XS.aloadN X47.here hx rfl (hb hby at_23) rfl rfl ?_
            show Steps p.tables e below (T47.setTop (mkF m 24 #[.val (.int p1), .val (.int p2), .val (.ref b1), .val (.ref b41), .unset, .unset, .unset] [(.ref b1)])) _
            refine st52.trans ?_
            refine XS.istore X52.here hx rfl (hb hby at_27) rfl (l' := #[.val (.int p1), .val (.int p2), .val (.ref b1), .val (.ref b41), .val (.int (1 : Int32)), .unset, .unset]) rfl ?_
            refine XS.iloadN X52.here hx rfl (hb hby at_29) rfl ?_
            refine XS.bipush X52.here hx rfl (hb hby at_30) ?_
            show Steps p.tables e below (T52.setTop (mkF m 32 #[.val (.int p1), .val (.int p2), .val (.ref b1), .val (.ref b41), .val (.int (1 : Int32)), .unset, .unset] [(.int (15 : Int32)), (.int p1)])) _
            refine XS.iand X52.here hx rfl (hb hby at_32) rfl ?_
            refine XS.istore X52.here hx rfl (hb hby at_33) rfl (l' := #[.val (.int p1), .val (.int p2), .val (.ref b1), .val (.ref b41), .val (.int (1 : Int32)), .val (.int (p1 &&& (15 : Int32))), .unset]) rfl ?_
            refine XS.iload X52.here hx rfl (hb hby at_35) rfl ?_
            refine XS.iconst X52.here hx rfl (hb hby at_37) ?_
            show Steps p.tables e below (T52.setTop (mkF m 38 #[.val (.int p1), .val (.int p2), .val (.ref b1), .val (.ref b41), .val (.int (1 : Int32)), .val (.int (p1 &&& (15 : Int32))), .unset] [(.int (1 : Int32)), (.int (p1 &&& (15 : Int32)))])) _
            refine XS.iand X52.here hx rfl (hb hby at_38) rfl ?_
            refine XS.ifNo X52.here hx rfl (hb hby at_39) rfl ((if0 _ _).trans (feq hc1).1) ?_
            refine XS.aloadN X52.here hx rfl (hb hby at_42) rfl rfl ?_
            refine XS.iconst X52.here hx rfl (hb hby at_43) ?_
            show Steps p.tables e below (T52.setTop (mkF m 44 #[.val (.int p1), .val (.int p2), .val (.ref b1), .val (.ref b41), .val (.int (1 : Int32)), .val (.int (p1 &&& (15 : Int32))), .unset] [(.int (0 : Int32)), (.ref b1)])) _
            refine XS.aloadN X52.here hx rfl (hb hby at_44) rfl rfl ?_
            refine XS.iloadN X52.here hx rfl (hb hby at_45) rfl ?_
            refine st139.trans ?_
            refine XS.iload X139.here hx rfl (hb hby at_49) rfl ?_
            show Steps p.tables e below (T139.setTop (mkF m 51 #[.val (.int p1), .val (.int p2), .val (.ref b1), .val (.ref b41), .val (.int (1 : Int32)), .val (.int (p1 &&& (15 : Int32))), .unset] [(.int (p1 &&& (15 : Int32)))])) _
            refine XS.iconst X139.here hx rfl (hb hby at_51) ?_
            refine XS.iand X139.here hx rfl (hb hby at_52) rfl ?_
            refine XS.ifNo X139.here hx rfl (hb hby at_53) rfl ((if0 _ _).trans (feq hc9).1) ?_
            refine XS.aloadN X139.here hx rfl (hb hby at_56) rfl rfl ?_
            show Steps p.tables e below (T139.setTop (mkF m 57 #[.val (.int p1), .val (.int p2), .val (.ref b1), .val (.ref b41), .val (.int (1 : Int32)), .val (.int (p1 &&& (15 : Int32))), .unset] [(.ref b1)])) _
            refine XS.iconst X139.here hx rfl (hb hby at_57) ?_
            refine XS.aloadN X139.here hx rfl (hb hby at_58) rfl rfl ?_
            refine XS.iloadN X139.here hx rfl (hb hby at_59) rfl ?_
            refine st183.trans ?_
            show Steps p.tables e below (T183.setTop (mkF m 63 #[.val (.int p1), .val (.int p2), .val (.ref b1), .val (.ref b41), .val (.int (1 : Int32)), .val (.int (p1 &&& (15 : Int32))), .unset] [])) _
            refine XS.iload X183.here hx rfl (hb hby at_63) rfl ?_
            refine XS.iconst X183.here hx rfl (hb hby at_65) ?_
            refine XS.iand X183.here hx rfl (hb hby at_66) rfl ?_
            refine XS.ifNo X183.here hx rfl (hb hby at_67) rfl ((if0 _ _).trans (feq hc13).1) ?_
            show Steps p.tables e below (T183.setTop (mkF m 70 #[.val (.int p1), .val (.int p2), .val (.ref b1), .val (.ref b41), .val (.int (1 : Int32)), .val (.int (p1 &&& (15 : Int32))), .unset] [])) _
            refine XS.aloadN X183.here hx rfl (hb hby at_70) rfl rfl ?_
            refine XS.iconst X183.here hx rfl (hb hby at_71) ?_
            refine XS.aloadN X183.here hx rfl (hb hby at_72) rfl rfl ?_
            refine XS.iloadN X183.here hx rfl (hb hby at_73) rfl ?_
            show Steps p.tables e below (T183.setTop (mkF m 74 #[.val (.int p1), .val (.int p2), .val (.ref b1), .val (.ref b41), .val (.int (1 : Int32)), .val (.int (p1 &&& (15 : Int32))), .unset] [(.int p2), (.ref b41), (.int (2 : Int32)), (.ref b1)])) _
            refine st205.trans ?_
            refine XS.iload X205.here hx rfl (hb hby at_77) rfl ?_
            refine XS.bipush X205.here hx rfl (hb hby at_79) ?_
            refine XS.iand X205.here hx rfl (hb hby at_81) rfl ?_
            show Steps p.tables e below (T205.setTop (mkF m 82 #[.val (.int p1), .val (.int p2), .val (.ref b1), .val (.ref b41), .val (.int (1 : Int32)), .val (.int (p1 &&& (15 : Int32))), .unset] [(.int ((p1 &&& (15 : Int32)) &&& (8 : Int32)))])) _
            refine XS.ifNo X205.here hx rfl (hb hby at_82) rfl ((if0 _ _).trans (feq hc15).1) ?_
            refine XS.aloadN X205.here hx rfl (hb hby at_85) rfl rfl ?_
            refine XS.iconst X205.here hx rfl (hb hby at_86) ?_
            refine XS.aloadN X205.here hx rfl (hb hby at_87) rfl rfl ?_
            show Steps p.tables e below (T205.setTop (mkF m 88 #[.val (.int p1), .val (.int p2), .val (.ref b1), .val (.ref b41), .val (.int (1 : Int32)), .val (.int (p1 &&& (15 : Int32))), .unset] [(.ref b41), (.int (3 : Int32)), (.ref b1)])) _
            refine XS.iloadN X205.here hx rfl (hb hby at_88) rfl ?_
            refine st216.trans ?_
            refine XS.aloadN X216.here hx rfl (hb hby at_92) rfl rfl ?_
            refine st218.trans ?_
            show Steps p.tables e below (T218.setTop (mkF m 96 #[.val (.int p1), .val (.int p2), .val (.ref b1), .val (.ref b41), .val (.int (1 : Int32)), .val (.int (p1 &&& (15 : Int32))), .unset] [(.int (0 : Int32))])) _
            refine XS.istore X218.here hx rfl (hb hby at_96) rfl (l' := #[.val (.int p1), .val (.int p2), .val (.ref b1), .val (.ref b41), .val (.int (1 : Int32)), .val (.int (p1 &&& (15 : Int32))), .val (.int (0 : Int32))]) rfl ?_
            refine XS.iload X218.here hx rfl (hb hby at_98) rfl ?_
            refine XS.ifNo X218.here hx rfl (hb hby at_100) rfl ((if0 _ _).trans (feq (by decide : ¬ ((1 : Int32) = (0 : Int32)))).1) ?_
            refine XS.iload X218.here hx rfl (hb hby at_103) rfl ?_
            show Steps p.tables e below (T218.setTop (mkF m 105 #[.val (.int p1), .val (.int p2), .val (.ref b1), .val (.ref b41), .val (.int (1 : Int32)), .val (.int (p1 &&& (15 : Int32))), .val (.int (0 : Int32))] [(.int (0 : Int32))])) _
            refine XS.iload X218.here hx rfl (hb hby at_105) rfl ?_
            refine XS.ifYes X218.here hx rfl (pc0 := 107) (pc' := 114) rfl (hb hby at_107) rfl ((if0 _ _).trans (feq (own_nz hc1)).2) (by decide) (by decide) ?_
            refine XS.iconst X218.here hx rfl (hb hby at_114) ?_
            refine XS.icmpNo X218.here hx rfl (hb hby at_115) rfl (teq (by decide : (0 : Int32) = (0 : Int32))).2 ?_
            show Steps p.tables e below (T218.setTop (mkF m 118 #[.val (.int p1), .val (.int p2), .val (.ref b1), .val (.ref b41), .val (.int (1 : Int32)), .val (.int (p1 &&& (15 : Int32))), .val (.int (0 : Int32))] [])) _
            refine XS.iconst X218.here hx rfl (hb hby at_118) ?_
            refine XS.goto X218.here hx rfl (pc0 := 119) (pc' := 123) rfl (hb hby at_119) (by decide) (by decide) ?_
            exact retN X218 hx (t := .boolean) Bd.returns (by simp) (hb hby at_123) hr
          · show Q_rm0 Z p1 p2 wD h0 n0 _ T218.heap _
            exact ⟨rfl, N218⟩
set_option maxRecDepth 65536 in
set_option maxHeartbeats 40000000 in
theorem comes_1 {Post : Tables → Env → Array Value → State → Outcome → State → Prop} (hpost : ∀ tb e args s v u, (limb_1_1.after args s (.returned v) u = true ∧ limb_1_2.after args s (.returned v) u = true ∧ True) → FrameEnd s (.returned v) u (Jvm.fieldLocs frame_1_writes args s ++ Jvm.arrayLocs frame_1_arrays args s ++ Jvm.staticLocs frame_1_statics s) 72 2432 → Post tb e args s (.returned v) u) :
    ArmFor flags0 classFile x code maxLocals ret World_1 tables_1 room_1 Calls_1 rest_1 Pre_1 Post := by
  intro l hfl _ _ p e ha hc hk s m args below hf hA hF happ hP
  obtain ⟨hcalls, hrest, hpre⟩ := hP
  obtain ⟨-, -, -, hnamed, -, -, -, hat⟩ := (Spec.applies_iff hf).mp happ
  obtain ⟨hg, hn⟩ := and_e (Cond.before_iff.mp (show (Jvm.Cond.and given_1 narrow_1).before args s = true from hpre))
  obtain ⟨gg1, gg2⟩ := and_e hg
  obtain ⟨gg3, gg4⟩ := and_e gg2
  obtain ⟨w0, w1, rfl⟩ : ∃ w0 w1 : Value, args = #[w0, w1] := by
    have hs : args.size = 2 := by simpa [Cond.value, given_1] using gg1
    obtain ⟨L⟩ := args
    match L, hs with
    | [w0, w1], _ => exact ⟨w0, w1, rfl⟩
  have hw := fun d (hd : d ∈ tables_1) => atoms_spec (ws := Jvm.Cond.code x code maxLocals ret :: tables_1) hat d (List.mem_cons_of_mem _ hd)
  have hfit : Fit s := fun {y c} hc i hi => by
    obtain ⟨ha, rfl⟩ := Array.getElem?_eq_some_iff.mp hc
    have q := List.all_eq_true.mp ((Array.all_eq_true_iff_forall_mem.mp hF) _ (Array.getElem_mem ha)) i (List.mem_range.mpr hi)
    simpa [Array.getElem?_eq_getElem hi] using q
  obtain ⟨hsets, hown0⟩ := atoms_of _ (rest_1_c_eq ▸ (show rest_1_c.before _ s = true from hrest))
  have hr0 := Cond.before_iff.mp hown0
  obtain ⟨i0, ei0⟩ := is_v gg3
  obtain rfl : w0 = (.int i0) := Option.some.inj ei0
  obtain ⟨i1, ei1⟩ := is_v gg4
  obtain rfl : w1 = (.int i1) := Option.some.inj ei1
  obtain ⟨wD, evD⟩ := exa_v (Cond.before_iff.mp (hsets _ (List.mem_of_getElem? (i := 7) rfl)))
  have S_D := Sta.start evD (Or.inr ⟨(hw _ (List.mem_of_getElem? (i := 39) rfl)), hsets _ (List.mem_of_getElem? (i := 2) rfl)⟩)
  obtain ⟨n, o, h1, h2, h3, _, L, rfl, ⟨rfl, N⟩, hq⟩ := rm0 l s _ hw tables_1 i0 i1 wD s.heap s.heap.size (Nat.le_refl _) S_D (Old.start s) p e ha hc hk s m _ below hf ((Spec.applies_iff_loose hf).mp happ).1 ⟨rfl, State.Warmed39.refl s, rfl⟩ trivial
  refine ⟨n, _, h1, h2, h3, hpost _ _ _ _ _ _ ⟨Cond.after_iff.mpr rfl, Cond.after_iff.mpr (eq_i res_at (Term.int_eval (1)) rfl), trivial⟩ ⟨hq.1, hq.2.1, (hq.2.2.sift fun y hy => Or.inr (N y hy)).mono (by decide) (by decide)⟩⟩
theorem main_1_1 : Claimed_1_1 := comes_1 fun _ _ _ _ _ _ h hF => ⟨h.1, hF⟩
theorem main_1_2 : Claimed_1_2 := comes_1 fun _ _ _ _ _ _ h hF => ⟨h.2.1, hF⟩
end Jvm.Pilot.@@N@@
namespace Jvm.Pilot.@@N@@
open Jvm Jvm.ClassFile Sem Op Lib Jvm.Free Jvm.Stand Jvm.Pilot.@@N@@.Jvm.D
/-! MADE BY PROGRAM (witnessworld.py) out of the Statement's table words and the real class files: 33 classes; the members and pool entries that the words name. The judged class is class 1, her method 1. -/
namespace start1
open Jvm.ClassFile
def u (s : String) : CpInfo := .utf8 (stringToUtf16 s)
/-- a pool by its gaps: so many unusable entries, then the entry; so many at the end -/
def gap : Nat → List CpInfo → List CpInfo
  | 0, r => r
  | n + 1, r => .unusable :: gap n r
def poolList (es : List (Nat × CpInfo)) (last : Nat) : List CpInfo := es.foldr (fun e r => gap e.1 (e.2 :: r)) (gap last [])
def pool (es : List (Nat × CpInfo)) (last : Nat) : Array CpInfo := ⟨poolList es last⟩
def fileOf (pool : Array CpInfo) (this : Nat) (attrs : Array Attribute := #[]) (ms : Array MethodInfo := #[]) (fl : Nat := 33) (sup : Nat := 0) (ifs : Array Nat := #[]) (fds : Array FieldInfo := #[]) : ClassFile where
  minorVersion := 0
  majorVersion := 65
  constantPool := pool
  accessFlags := fl
  thisClass := this
  superClass := sup
  interfaces := ifs
  fields := fds
  methods := ms
  attributes := attrs
def plain (name : String) (sup : Option ClassId) : Class where
  name := name
  kind := .ordinary
  loader := none
  accessFlags := 33
  super := sup
  interfaces := #[]
  cf := none
  fields := #[]
  methods := #[]
  instanceTypes := #[]
  staticTypes := #[]
  resolved := #[]
  callSites := []
  init := .initialized
  statics := none
  mirror := none

def pool0 : Array CpInfo := pool [(5, u "<init>"), (0, u "()V"), (1, .class_ 10), (1, u "java/lang/Object")] 113

def k0c0 : Code := { maxStack := 0, maxLocals := 1, code := object_method_1_code, exceptionTable := #[], attributes := #[] }
def k0m0 : Method := { name := "<init>", desc := "()V", sig := { parameters := [], returnType := none }, accessFlags := 1, code := some k0c0 }
/-- java/lang/Object -/
def k0 : Class := { plain "java/lang/Object" none with
  accessFlags := 33
  interfaces := #[]
  cf := some (fileOf pool0 8 #[] #[{ accessFlags := 1, nameIndex := 5, descriptorIndex := 6, attributes := #[] }] 33 0 #[] #[])
  fields := #[]
  methods := #[k0m0]
  instanceTypes := #[]
  staticTypes := #[]
  resolved := Array.replicate 124 none
  statics := none }

def pool1 : Array CpInfo := pool [(2, .class_ 4), (0, .nameAndType 5 6), (0, u "java/lang/Object"), (0, u "<init>"), (0, u "()V"), (0, .class_ 8), (0, u "com/example/concordia/concordia/index/LinkedCode"), (0, .class_ 10), (0, u "com/example/concordia/concordia/expr/ExpressionStore"), (0, .methodref 9 3), (0, .methodref 7 13), (0, .nameAndType 5 14), (0, u "(Lcom/example/concordia/concordia/expr/ExpressionStore;)V"), (0, .class_ 16), (0, u "com/example/concordia/concordia/index/Program"), (0, .methodref 15 3), (0, .methodref 7 19), (0, .nameAndType 20 21), (0, u "isEmpty"), (0, u "()Z"), (0, .methodref 7 23), (0, .nameAndType 24 25), (0, u "add"), (0, u "(ILcom/example/concordia/concordia/index/Program;I)V"), (0, .class_ 27), (0, u "com/example/concordia/concordia/index/LinkedCodeIsEmptyPinLaw"), (2, u "law"), (0, u "(II)Z")] 3

def k1m0 : Method := { name := "<init>", desc := "()V", sig := { parameters := [], returnType := none }, accessFlags := 1, code := none }
def k1c1 : Code := { maxStack := 4, maxLocals := 7, code := code, exceptionTable := #[], attributes := #[] }
def k1m1 : Method := { name := "law", desc := "(II)Z", sig := { parameters := [.int, .int], returnType := some .boolean }, accessFlags := 9, code := some k1c1 }
/-- com/example/concordia/concordia/index/LinkedCodeIsEmptyPinLaw -/
def k1 : Class := { plain "com/example/concordia/concordia/index/LinkedCodeIsEmptyPinLaw" (some 0) with
  accessFlags := 49
  interfaces := #[]
  cf := some (fileOf pool1 26 #[] #[{ accessFlags := 1, nameIndex := 5, descriptorIndex := 6, attributes := #[] }, { accessFlags := 9, nameIndex := 30, descriptorIndex := 31, attributes := #[] }] 49 2 #[] #[])
  fields := #[]
  methods := #[k1m0, k1m1]
  instanceTypes := #[]
  staticTypes := #[]
  resolved := Array.replicate 35 none
  statics := none }

def pool2 : Array CpInfo := pool [(1, .class_ 2), (0, u "com/example/concordia/concordia/index/Code"), (4, .methodref 8 9), (0, .class_ 10), (0, .nameAndType 11 12), (0, u "java/lang/Object"), (0, u "<init>"), (0, u "()V"), (22, u "(II)I"), (15, u "CHECK"), (0, u "I"), (2, u "BIND"), (1, u "COMPARE"), (1, u "CHOOSE"), (1, u "SUCCESS"), (1, u "DEAD"), (1, u "SWITCH"), (1, u "TAIL"), (1, u "KIND_BITS"), (0, u "KIND_MASK"), (0, u "NEXT_CHECK"), (1, u "NEXT_COMPARE"), (1, u "NEXT_KIND"), (1, u "OPERAND_SHIFT"), (0, u "LARGEST_OPERAND"), (1, u "CHOOSE_POSITIVE"), (0, u "CHOOSE_NEGATIVE"), (1, u "NONE"), (1, u "ROOTS"), (2, u "instruction")] 26

def k2c0 : Code := { maxStack := 1, maxLocals := 1, code := prog_26_method_1_code, exceptionTable := #[], attributes := #[] }
def k2m0 : Method := { name := "<init>", desc := "()V", sig := { parameters := [], returnType := none }, accessFlags := 0, code := some k2c0 }
def k2c1 : Code := { maxStack := 2, maxLocals := 2, code := prog_26_method_2_code, exceptionTable := #[], attributes := #[] }
def k2m1 : Method := { name := "instruction", desc := "(II)I", sig := { parameters := [.int, .int], returnType := some .int }, accessFlags := 8, code := some k2c1 }
/-- com/example/concordia/concordia/index/Code -/
def k2 : Class := { plain "com/example/concordia/concordia/index/Code" (some 0) with
  accessFlags := 1056
  interfaces := #[]
  cf := some (fileOf pool2 1 #[] #[{ accessFlags := 0, nameIndex := 11, descriptorIndex := 12, attributes := #[] }, { accessFlags := 8, nameIndex := 88, descriptorIndex := 35, attributes := #[] }] 1056 8 #[] #[{ accessFlags := 24, nameIndex := 51, descriptorIndex := 52, attributes := #[] }, { accessFlags := 24, nameIndex := 55, descriptorIndex := 52, attributes := #[] }, { accessFlags := 24, nameIndex := 57, descriptorIndex := 52, attributes := #[] }, { accessFlags := 24, nameIndex := 59, descriptorIndex := 52, attributes := #[] }, { accessFlags := 24, nameIndex := 61, descriptorIndex := 52, attributes := #[] }, { accessFlags := 24, nameIndex := 63, descriptorIndex := 52, attributes := #[] }, { accessFlags := 24, nameIndex := 65, descriptorIndex := 52, attributes := #[] }, { accessFlags := 24, nameIndex := 67, descriptorIndex := 52, attributes := #[] }, { accessFlags := 24, nameIndex := 69, descriptorIndex := 52, attributes := #[] }, { accessFlags := 24, nameIndex := 70, descriptorIndex := 52, attributes := #[] }, { accessFlags := 24, nameIndex := 71, descriptorIndex := 52, attributes := #[] }, { accessFlags := 24, nameIndex := 73, descriptorIndex := 52, attributes := #[] }, { accessFlags := 24, nameIndex := 75, descriptorIndex := 52, attributes := #[] }, { accessFlags := 24, nameIndex := 77, descriptorIndex := 52, attributes := #[] }, { accessFlags := 24, nameIndex := 78, descriptorIndex := 52, attributes := #[] }, { accessFlags := 24, nameIndex := 80, descriptorIndex := 52, attributes := #[] }, { accessFlags := 24, nameIndex := 81, descriptorIndex := 52, attributes := #[] }, { accessFlags := 24, nameIndex := 83, descriptorIndex := 52, attributes := #[] }, { accessFlags := 24, nameIndex := 85, descriptorIndex := 52, attributes := #[] }])
  fields := #[{ name := "CHECK", type := .int, accessFlags := 24, slot := 0, constantValue := 0 }, { name := "BIND", type := .int, accessFlags := 24, slot := 1, constantValue := 0 }, { name := "COMPARE", type := .int, accessFlags := 24, slot := 2, constantValue := 0 }, { name := "CHOOSE", type := .int, accessFlags := 24, slot := 3, constantValue := 0 }, { name := "SUCCESS", type := .int, accessFlags := 24, slot := 4, constantValue := 0 }, { name := "DEAD", type := .int, accessFlags := 24, slot := 5, constantValue := 0 }, { name := "SWITCH", type := .int, accessFlags := 24, slot := 6, constantValue := 0 }, { name := "TAIL", type := .int, accessFlags := 24, slot := 7, constantValue := 0 }, { name := "KIND_BITS", type := .int, accessFlags := 24, slot := 8, constantValue := 0 }, { name := "KIND_MASK", type := .int, accessFlags := 24, slot := 9, constantValue := 0 }, { name := "NEXT_CHECK", type := .int, accessFlags := 24, slot := 10, constantValue := 0 }, { name := "NEXT_COMPARE", type := .int, accessFlags := 24, slot := 11, constantValue := 0 }, { name := "NEXT_KIND", type := .int, accessFlags := 24, slot := 12, constantValue := 0 }, { name := "OPERAND_SHIFT", type := .int, accessFlags := 24, slot := 13, constantValue := 0 }, { name := "LARGEST_OPERAND", type := .int, accessFlags := 24, slot := 14, constantValue := 0 }, { name := "CHOOSE_POSITIVE", type := .int, accessFlags := 24, slot := 15, constantValue := 0 }, { name := "CHOOSE_NEGATIVE", type := .int, accessFlags := 24, slot := 16, constantValue := 0 }, { name := "NONE", type := .int, accessFlags := 24, slot := 17, constantValue := 0 }, { name := "ROOTS", type := .int, accessFlags := 24, slot := 18, constantValue := 0 }]
  methods := #[k2m0, k2m1]
  instanceTypes := #[]
  staticTypes := #[.int, .int, .int, .int, .int, .int, .int, .int, .int, .int, .int, .int, .int, .int, .int, .int, .int, .int, .int]
  resolved := Array.replicate 115 none
  statics := none }

def pool3 : Array CpInfo := pool [(1, .class_ 2), (0, u "com/example/concordia/concordia/index/ChildrenByLabel"), (0, .methodref 4 5), (0, .class_ 6), (0, .nameAndType 7 8), (0, u "com/example/concordia/concordia/index/Code"), (0, u "<init>"), (0, u "()V"), (0, .fieldref 10 11), (0, .class_ 12), (0, .nameAndType 13 14), (0, u "com/example/concordia/concordia/index/LinkedCode"), (0, u "code"), (0, u "[I"), (0, .fieldref 10 16), (0, .nameAndType 17 14), (0, u "roots"), (0, .fieldref 10 19), (0, .nameAndType 20 21), (0, u "layOutAt"), (0, u "I"), (0, .methodref 1 5), (0, .fieldref 10 24), (0, .nameAndType 25 26), (0, u "switchedChecks"), (0, u "Lcom/example/concordia/concordia/index/ChildrenByLabel;"), (0, .class_ 28), (0, u "com/example/concordia/concordia/expr/IntList"), (0, .methodref 27 5), (0, .fieldref 10 31), (0, .nameAndType 32 33), (0, u "tailCells"), (0, u "Lcom/example/concordia/concordia/expr/IntList;"), (0, .fieldref 10 35), (0, .nameAndType 36 14), (0, u "path"), (0, .fieldref 10 38), (0, .nameAndType 39 14), (0, u "pathChains"), (0, .fieldref 10 41), (0, .nameAndType 42 33), (0, u "layoutWork"), (0, .fieldref 10 44), (0, .nameAndType 45 33), (0, u "chainMembers"), (0, .fieldref 10 47), (0, .nameAndType 48 49), (0, u "store"), (0, u "Lcom/example/concordia/concordia/expr/ExpressionStore;"), (3, u "(II)I"), (3, u "(I)I"), (3, .fieldref 10 62), (0, .nameAndType 63 64), (0, u "program"), (0, u "Lcom/example/concordia/concordia/index/Program;"), (0, .methodref 10 66), (0, .nameAndType 67 53), (0, u "append"), (0, .methodref 10 69), (0, .nameAndType 70 8), (0, u "layOutOnceGrown"), (1, .class_ 73), (0, u "com/example/concordia/concordia/index/Program"), (6, .methodref 72 81), (0, .nameAndType 82 83), (0, u "lastLiteralFrom"), (0, u "()I"), (22, .methodref 72 107), (0, .nameAndType 108 83), (0, u "size"), (0, .methodref 110 111), (0, .class_ 112), (0, .nameAndType 113 53), (0, u "java/lang/Math"), (0, u "max"), (2, u "pathLength"), (8, .fieldref 10 126), (0, .nameAndType 127 21), (0, u "liveInstructions"), (2, u "deadInstructions"), (34, .methodref 10 166), (0, .nameAndType 167 57), (0, u "appendInstruction"), (0, .fieldref 10 169), (0, .nameAndType 170 21), (0, u "codeSize"), (6, .methodref 10 178), (0, .nameAndType 179 53), (0, u "instruction"), (3, u "add"), (30, .long 2), (34, u "WIDTH"), (2, u "MOST_TAILS"), (1, u "FIRST_LAYOUT"), (1, u "LAYOUT_GROWTH"), (0, u "(Lcom/example/concordia/concordia/expr/ExpressionStore;)V"), (9, u "isEmpty"), (0, u "()Z"), (2, u "(ILcom/example/concordia/concordia/index/Program;I)V")] 29

def k3c0 : Code := { maxStack := 5, maxLocals := 2, code := prog_43_method_1_code, exceptionTable := #[], attributes := #[] }
def k3m0 : Method := { name := "<init>", desc := "(Lcom/example/concordia/concordia/expr/ExpressionStore;)V", sig := { parameters := [(.object "com/example/concordia/concordia/expr/ExpressionStore")], returnType := none }, accessFlags := 0, code := some k3c0 }
def k3c1 : Code := { maxStack := 2, maxLocals := 5, code := prog_43_method_9_code, exceptionTable := #[], attributes := #[] }
def k3m1 : Method := { name := "isEmpty", desc := "()Z", sig := { parameters := [], returnType := some .boolean }, accessFlags := 0, code := some k3c1 }
def k3c2 : Code := { maxStack := 7, maxLocals := 10, code := prog_43_method_10_code, exceptionTable := #[], attributes := #[] }
def k3m2 : Method := { name := "add", desc := "(ILcom/example/concordia/concordia/index/Program;I)V", sig := { parameters := [.int, (.object "com/example/concordia/concordia/index/Program"), .int], returnType := none }, accessFlags := 0, code := some k3c2 }
def k3c3 : Code := { maxStack := 4, maxLocals := 6, code := prog_43_method_16_code, exceptionTable := #[], attributes := #[] }
def k3m3 : Method := { name := "append", desc := "(II)I", sig := { parameters := [.int, .int], returnType := some .int }, accessFlags := 2, code := some k3c3 }
def k3c4 : Code := { maxStack := 7, maxLocals := 3, code := prog_43_method_26_code, exceptionTable := #[], attributes := #[] }
def k3m4 : Method := { name := "appendInstruction", desc := "(I)I", sig := { parameters := [.int], returnType := some .int }, accessFlags := 2, code := some k3c4 }
def k3c5 : Code := { maxStack := 2, maxLocals := 1, code := prog_43_method_28_code, exceptionTable := #[], attributes := #[] }
def k3m5 : Method := { name := "layOutOnceGrown", desc := "()V", sig := { parameters := [], returnType := none }, accessFlags := 2, code := some k3c5 }
/-- com/example/concordia/concordia/index/LinkedCode -/
def k3 : Class := { plain "com/example/concordia/concordia/index/LinkedCode" (some 2) with
  accessFlags := 48
  interfaces := #[]
  cf := some (fileOf pool3 10 #[] #[{ accessFlags := 0, nameIndex := 7, descriptorIndex := 257, attributes := #[] }, { accessFlags := 0, nameIndex := 267, descriptorIndex := 268, attributes := #[] }, { accessFlags := 0, nameIndex := 183, descriptorIndex := 271, attributes := #[] }, { accessFlags := 2, nameIndex := 67, descriptorIndex := 53, attributes := #[] }, { accessFlags := 2, nameIndex := 167, descriptorIndex := 57, attributes := #[] }, { accessFlags := 2, nameIndex := 70, descriptorIndex := 8, attributes := #[] }] 48 4 #[] #[{ accessFlags := 26, nameIndex := 249, descriptorIndex := 21, attributes := #[] }, { accessFlags := 26, nameIndex := 252, descriptorIndex := 21, attributes := #[] }, { accessFlags := 26, nameIndex := 254, descriptorIndex := 21, attributes := #[] }, { accessFlags := 26, nameIndex := 256, descriptorIndex := 21, attributes := #[] }, { accessFlags := 18, nameIndex := 48, descriptorIndex := 49, attributes := #[] }, { accessFlags := 2, nameIndex := 13, descriptorIndex := 14, attributes := #[] }, { accessFlags := 2, nameIndex := 170, descriptorIndex := 21, attributes := #[] }, { accessFlags := 18, nameIndex := 17, descriptorIndex := 14, attributes := #[] }, { accessFlags := 2, nameIndex := 127, descriptorIndex := 21, attributes := #[] }, { accessFlags := 2, nameIndex := 130, descriptorIndex := 21, attributes := #[] }, { accessFlags := 2, nameIndex := 20, descriptorIndex := 21, attributes := #[] }, { accessFlags := 18, nameIndex := 25, descriptorIndex := 26, attributes := #[] }, { accessFlags := 18, nameIndex := 32, descriptorIndex := 33, attributes := #[] }, { accessFlags := 2, nameIndex := 63, descriptorIndex := 64, attributes := #[] }, { accessFlags := 2, nameIndex := 36, descriptorIndex := 14, attributes := #[] }, { accessFlags := 2, nameIndex := 39, descriptorIndex := 14, attributes := #[] }, { accessFlags := 2, nameIndex := 116, descriptorIndex := 21, attributes := #[] }, { accessFlags := 18, nameIndex := 42, descriptorIndex := 33, attributes := #[] }, { accessFlags := 18, nameIndex := 45, descriptorIndex := 33, attributes := #[] }])
  fields := #[{ name := "WIDTH", type := .int, accessFlags := 26, slot := 0, constantValue := 0 }, { name := "MOST_TAILS", type := .int, accessFlags := 26, slot := 1, constantValue := 0 }, { name := "FIRST_LAYOUT", type := .int, accessFlags := 26, slot := 2, constantValue := 0 }, { name := "LAYOUT_GROWTH", type := .int, accessFlags := 26, slot := 3, constantValue := 0 }, { name := "store", type := (.object "com/example/concordia/concordia/expr/ExpressionStore"), accessFlags := 18, slot := 0, constantValue := 0 }, { name := "code", type := (.array .int), accessFlags := 2, slot := 1, constantValue := 0 }, { name := "codeSize", type := .int, accessFlags := 2, slot := 2, constantValue := 0 }, { name := "roots", type := (.array .int), accessFlags := 18, slot := 3, constantValue := 0 }, { name := "liveInstructions", type := .int, accessFlags := 2, slot := 4, constantValue := 0 }, { name := "deadInstructions", type := .int, accessFlags := 2, slot := 5, constantValue := 0 }, { name := "layOutAt", type := .int, accessFlags := 2, slot := 6, constantValue := 0 }, { name := "switchedChecks", type := (.object "com/example/concordia/concordia/index/ChildrenByLabel"), accessFlags := 18, slot := 7, constantValue := 0 }, { name := "tailCells", type := (.object "com/example/concordia/concordia/expr/IntList"), accessFlags := 18, slot := 8, constantValue := 0 }, { name := "program", type := (.object "com/example/concordia/concordia/index/Program"), accessFlags := 2, slot := 9, constantValue := 0 }, { name := "path", type := (.array .int), accessFlags := 2, slot := 10, constantValue := 0 }, { name := "pathChains", type := (.array .int), accessFlags := 2, slot := 11, constantValue := 0 }, { name := "pathLength", type := .int, accessFlags := 2, slot := 12, constantValue := 0 }, { name := "layoutWork", type := (.object "com/example/concordia/concordia/expr/IntList"), accessFlags := 18, slot := 13, constantValue := 0 }, { name := "chainMembers", type := (.object "com/example/concordia/concordia/expr/IntList"), accessFlags := 18, slot := 14, constantValue := 0 }]
  methods := #[k3m0, k3m1, k3m2, k3m3, k3m4, k3m5]
  instanceTypes := #[(.object "com/example/concordia/concordia/expr/ExpressionStore"), (.array .int), .int, (.array .int), .int, .int, .int, (.object "com/example/concordia/concordia/index/ChildrenByLabel"), (.object "com/example/concordia/concordia/expr/IntList"), (.object "com/example/concordia/concordia/index/Program"), (.array .int), (.array .int), .int, (.object "com/example/concordia/concordia/expr/IntList"), (.object "com/example/concordia/concordia/expr/IntList")]
  staticTypes := #[.int, .int, .int, .int]
  resolved := Array.replicate 301 none
  statics := none }

def pool4 : Array CpInfo := pool [(1, .methodref 2 3), (0, .class_ 4), (0, .nameAndType 5 6), (0, u "java/lang/Object"), (0, u "<init>"), (0, u "()V"), (0, .class_ 8), (0, u "com/example/concordia/concordia/expr/SymbolTable"), (0, .methodref 7 3), (0, .fieldref 11 12), (0, .class_ 13), (0, .nameAndType 14 15), (0, u "com/example/concordia/concordia/expr/ExpressionStore"), (0, u "symbols"), (0, u "Lcom/example/concordia/concordia/expr/SymbolTable;"), (0, .methodref 17 18), (0, .class_ 19), (0, .nameAndType 20 21), (0, u "com/example/concordia/concordia/expr/CellArray"), (0, u "narrowest"), (0, u "(I)Lcom/example/concordia/concordia/expr/CellArray;"), (0, .fieldref 11 23), (0, .nameAndType 24 25), (0, u "cells"), (0, u "Lcom/example/concordia/concordia/expr/CellArray;"), (11, u "size"), (0, u "I")] 114

def k4c0 : Code := { maxStack := 3, maxLocals := 1, code := prog_21_method_1_code, exceptionTable := #[], attributes := #[] }
def k4m0 : Method := { name := "<init>", desc := "()V", sig := { parameters := [], returnType := none }, accessFlags := 1, code := some k4c0 }
/-- com/example/concordia/concordia/expr/ExpressionStore -/
def k4 : Class := { plain "com/example/concordia/concordia/expr/ExpressionStore" (some 0) with
  accessFlags := 49
  interfaces := #[]
  cf := some (fileOf pool4 11 #[] #[{ accessFlags := 1, nameIndex := 5, descriptorIndex := 6, attributes := #[] }] 49 2 #[] #[{ accessFlags := 18, nameIndex := 14, descriptorIndex := 15, attributes := #[] }, { accessFlags := 2, nameIndex := 24, descriptorIndex := 25, attributes := #[] }, { accessFlags := 2, nameIndex := 37, descriptorIndex := 38, attributes := #[] }])
  fields := #[{ name := "symbols", type := (.object "com/example/concordia/concordia/expr/SymbolTable"), accessFlags := 18, slot := 0, constantValue := 0 }, { name := "cells", type := (.object "com/example/concordia/concordia/expr/CellArray"), accessFlags := 2, slot := 1, constantValue := 0 }, { name := "size", type := .int, accessFlags := 2, slot := 2, constantValue := 0 }]
  methods := #[k4m0]
  instanceTypes := #[(.object "com/example/concordia/concordia/expr/SymbolTable"), (.object "com/example/concordia/concordia/expr/CellArray"), .int]
  staticTypes := #[]
  resolved := Array.replicate 153 none
  statics := none }

def pool5 : Array CpInfo := pool [(1, .methodref 2 3), (0, .class_ 4), (0, .nameAndType 5 6), (0, u "java/lang/Object"), (0, u "<init>"), (0, u "()V"), (0, .class_ 8), (0, u "java/util/HashMap"), (0, .methodref 7 3), (0, .fieldref 11 12), (0, .class_ 13), (0, .nameAndType 14 15), (0, u "com/example/concordia/concordia/expr/SymbolTable"), (0, u "numbers"), (0, u "Ljava/util/Map;"), (0, .class_ 17), (0, u "java/util/ArrayList"), (0, .methodref 16 3), (0, .fieldref 11 20), (0, .nameAndType 21 22), (0, u "names"), (0, u "Ljava/util/List;"), (0, .class_ 24), (0, u "com/example/concordia/concordia/expr/IntList"), (0, .methodref 23 3), (0, .fieldref 11 27), (0, .nameAndType 28 29), (0, u "arities"), (0, u "Lcom/example/concordia/concordia/expr/IntList;")] 92

def k5c0 : Code := { maxStack := 3, maxLocals := 1, code := prog_23_method_1_code, exceptionTable := #[], attributes := #[] }
def k5m0 : Method := { name := "<init>", desc := "()V", sig := { parameters := [], returnType := none }, accessFlags := 1, code := some k5c0 }
/-- com/example/concordia/concordia/expr/SymbolTable -/
def k5 : Class := { plain "com/example/concordia/concordia/expr/SymbolTable" (some 0) with
  accessFlags := 49
  interfaces := #[]
  cf := some (fileOf pool5 11 #[] #[{ accessFlags := 1, nameIndex := 5, descriptorIndex := 6, attributes := #[] }] 49 2 #[] #[{ accessFlags := 18, nameIndex := 14, descriptorIndex := 15, attributes := #[] }, { accessFlags := 18, nameIndex := 21, descriptorIndex := 22, attributes := #[] }, { accessFlags := 18, nameIndex := 28, descriptorIndex := 29, attributes := #[] }])
  fields := #[{ name := "numbers", type := (.object "java/util/Map"), accessFlags := 18, slot := 0, constantValue := 0 }, { name := "names", type := (.object "java/util/List"), accessFlags := 18, slot := 1, constantValue := 0 }, { name := "arities", type := (.object "com/example/concordia/concordia/expr/IntList"), accessFlags := 18, slot := 2, constantValue := 0 }]
  methods := #[k5m0]
  instanceTypes := #[(.object "java/util/Map"), (.object "java/util/List"), (.object "com/example/concordia/concordia/expr/IntList")]
  staticTypes := #[]
  resolved := Array.replicate 122 none
  statics := none }

def pool6 : Array CpInfo := pool [(2, .class_ 4), (1, u "java/util/Map"), (31, .class_ 37), (0, u "java/util/Map$Entry"), (55, .class_ 94), (0, u "java/lang/Object")] 168

/-- java/util/Map -/
def k6 : Class := { plain "java/util/Map" (some 0) with
  accessFlags := 1537
  interfaces := #[]
  cf := some (fileOf pool6 2 #[.nestMembers #[36]] #[] 1537 93 #[] #[])
  fields := #[]
  methods := #[]
  instanceTypes := #[]
  staticTypes := #[]
  resolved := Array.replicate 263 none
  statics := none }

def pool7 : Array CpInfo := pool [(1, .methodref 2 3), (0, .class_ 4), (0, .nameAndType 5 6), (0, u "java/lang/Object"), (0, u "<init>"), (0, u "()V"), (1, .class_ 10), (1, u "java/util/AbstractMap"), (42, .class_ 54), (0, u "java/util/Map"), (9, u "keySet"), (0, u "Ljava/util/Set;"), (0, .class_ 67), (0, u "java/util/AbstractMap$1"), (5, u "values"), (0, u "Ljava/util/Collection;"), (0, .class_ 76), (0, u "java/util/AbstractMap$2"), (104, .class_ 182), (0, u "java/util/AbstractMap$ViewCollection"), (0, .class_ 184), (0, u "java/util/AbstractMap$SimpleImmutableEntry"), (0, .class_ 186), (0, u "java/util/AbstractMap$SimpleEntry"), (0, .class_ 188), (0, u "java/util/AbstractMap$2$1"), (0, .class_ 190), (0, u "java/util/AbstractMap$1$1")] 5

def k7c0 : Code := { maxStack := 1, maxLocals := 1, code := jdk_71_method_1_code, exceptionTable := #[], attributes := #[] }
def k7m0 : Method := { name := "<init>", desc := "()V", sig := { parameters := [], returnType := none }, accessFlags := 4, code := some k7c0 }
/-- java/util/AbstractMap -/
def k7 : Class := { plain "java/util/AbstractMap" (some 0) with
  accessFlags := 1057
  interfaces := #[6]
  cf := some (fileOf pool7 8 #[.nestMembers #[181, 183, 185, 75, 187, 66, 189]] #[{ accessFlags := 4, nameIndex := 5, descriptorIndex := 6, attributes := #[] }] 1057 2 #[53] #[{ accessFlags := 128, nameIndex := 64, descriptorIndex := 65, attributes := #[] }, { accessFlags := 128, nameIndex := 73, descriptorIndex := 74, attributes := #[] }])
  fields := #[{ name := "keySet", type := (.object "java/util/Set"), accessFlags := 128, slot := 0, constantValue := 0 }, { name := "values", type := (.object "java/util/Collection"), accessFlags := 128, slot := 1, constantValue := 0 }]
  methods := #[k7m0]
  instanceTypes := #[(.object "java/util/Set"), (.object "java/util/Collection")]
  staticTypes := #[]
  resolved := Array.replicate 196 none
  statics := none }

def pool8 : Array CpInfo := pool [(1, .class_ 2), (0, u "java/lang/Cloneable"), (0, .class_ 4), (0, u "java/lang/Object")] 2

/-- java/lang/Cloneable -/
def k8 : Class := { plain "java/lang/Cloneable" (some 0) with
  accessFlags := 1537
  interfaces := #[]
  cf := some (fileOf pool8 1 #[] #[] 1537 3 #[] #[])
  fields := #[]
  methods := #[]
  instanceTypes := #[]
  staticTypes := #[]
  resolved := Array.replicate 7 none
  statics := none }

def pool9 : Array CpInfo := pool [(1, .class_ 2), (0, u "java/io/Serializable"), (0, .class_ 4), (0, u "java/lang/Object")] 2

/-- java/io/Serializable -/
def k9 : Class := { plain "java/io/Serializable" (some 0) with
  accessFlags := 1537
  interfaces := #[]
  cf := some (fileOf pool9 1 #[] #[] 1537 3 #[] #[])
  fields := #[]
  methods := #[]
  instanceTypes := #[]
  staticTypes := #[]
  resolved := Array.replicate 7 none
  statics := none }

def pool10 : Array CpInfo := pool [(40, .class_ 41), (0, u "java/util/HashMap"), (1, .methodref 44 45), (0, .class_ 46), (0, .nameAndType 47 48), (0, u "java/util/AbstractMap"), (0, u "<init>"), (0, u "()V"), (32, .fieldref 40 82), (0, .nameAndType 83 84), (0, u "loadFactor"), (0, u "F"), (5, u "threshold"), (0, u "I"), (0, .float 1061158912), (8, .class_ 103), (1, u "java/util/Map"), (0, u "size"), (2, u "table"), (0, u "[Ljava/util/HashMap$Node;"), (14, u "entrySet"), (39, .class_ 165), (1, u "java/util/HashMap$Node"), (14, .class_ 181), (0, u "java/util/HashMap$TreeNode"), (22, u "modCount"), (37, u "Ljava/util/Set;"), (0, .class_ 244), (0, u "java/util/HashMap$KeySet"), (18, .class_ 264), (0, u "java/util/HashMap$Values"), (3, .class_ 269), (0, u "java/util/HashMap$EntrySet"), (76, .class_ 348), (1, u "java/util/HashMap$UnsafeHolder"), (43, .class_ 393), (0, u "java/lang/Cloneable"), (0, .class_ 395), (0, u "java/io/Serializable"), (0, u "serialVersionUID"), (0, u "J"), (3, u "DEFAULT_INITIAL_CAPACITY"), (1, u "MAXIMUM_CAPACITY"), (0, u "DEFAULT_LOAD_FACTOR"), (0, u "TREEIFY_THRESHOLD"), (1, u "UNTREEIFY_THRESHOLD"), (1, u "MIN_TREEIFY_CAPACITY"), (186, .class_ 597), (0, u "java/util/HashMap$EntrySpliterator"), (0, .class_ 599), (0, u "java/util/HashMap$ValueSpliterator"), (0, .class_ 601), (0, u "java/util/HashMap$KeySpliterator"), (0, .class_ 603), (0, u "java/util/HashMap$HashMapSpliterator"), (0, .class_ 605), (0, u "java/util/HashMap$EntryIterator"), (0, .class_ 607), (0, u "java/util/HashMap$ValueIterator"), (0, .class_ 609), (0, u "java/util/HashMap$KeyIterator"), (0, .class_ 611), (0, u "java/util/HashMap$HashIterator")] 17

def k10c0 : Code := { maxStack := 2, maxLocals := 1, code := jdk_69_method_7_code, exceptionTable := #[], attributes := #[] }
def k10m0 : Method := { name := "<init>", desc := "()V", sig := { parameters := [], returnType := none }, accessFlags := 1, code := some k10c0 }
/-- java/util/HashMap -/
def k10 : Class := { plain "java/util/HashMap" (some 7) with
  accessFlags := 33
  interfaces := #[6, 8, 9]
  cf := some (fileOf pool10 40 #[.nestMembers #[180, 596, 598, 600, 602, 604, 606, 608, 610, 346, 268, 263, 243, 163]] #[{ accessFlags := 1, nameIndex := 47, descriptorIndex := 48, attributes := #[] }] 33 44 #[101, 392, 394] #[{ accessFlags := 26, nameIndex := 396, descriptorIndex := 397, attributes := #[] }, { accessFlags := 24, nameIndex := 401, descriptorIndex := 91, attributes := #[] }, { accessFlags := 24, nameIndex := 403, descriptorIndex := 91, attributes := #[] }, { accessFlags := 24, nameIndex := 404, descriptorIndex := 84, attributes := #[] }, { accessFlags := 24, nameIndex := 405, descriptorIndex := 91, attributes := #[] }, { accessFlags := 24, nameIndex := 407, descriptorIndex := 91, attributes := #[] }, { accessFlags := 24, nameIndex := 409, descriptorIndex := 91, attributes := #[] }, { accessFlags := 128, nameIndex := 107, descriptorIndex := 108, attributes := #[] }, { accessFlags := 128, nameIndex := 123, descriptorIndex := 242, attributes := #[] }, { accessFlags := 128, nameIndex := 104, descriptorIndex := 91, attributes := #[] }, { accessFlags := 128, nameIndex := 204, descriptorIndex := 91, attributes := #[] }, { accessFlags := 0, nameIndex := 90, descriptorIndex := 91, attributes := #[] }, { accessFlags := 16, nameIndex := 83, descriptorIndex := 84, attributes := #[] }])
  fields := #[{ name := "serialVersionUID", type := .long, accessFlags := 26, slot := 0, constantValue := 0 }, { name := "DEFAULT_INITIAL_CAPACITY", type := .int, accessFlags := 24, slot := 1, constantValue := 0 }, { name := "MAXIMUM_CAPACITY", type := .int, accessFlags := 24, slot := 2, constantValue := 0 }, { name := "DEFAULT_LOAD_FACTOR", type := .float, accessFlags := 24, slot := 3, constantValue := 0 }, { name := "TREEIFY_THRESHOLD", type := .int, accessFlags := 24, slot := 4, constantValue := 0 }, { name := "UNTREEIFY_THRESHOLD", type := .int, accessFlags := 24, slot := 5, constantValue := 0 }, { name := "MIN_TREEIFY_CAPACITY", type := .int, accessFlags := 24, slot := 6, constantValue := 0 }, { name := "table", type := (.array (.object "java/util/HashMap$Node")), accessFlags := 128, slot := 2, constantValue := 0 }, { name := "entrySet", type := (.object "java/util/Set"), accessFlags := 128, slot := 3, constantValue := 0 }, { name := "size", type := .int, accessFlags := 128, slot := 4, constantValue := 0 }, { name := "modCount", type := .int, accessFlags := 128, slot := 5, constantValue := 0 }, { name := "threshold", type := .int, accessFlags := 0, slot := 6, constantValue := 0 }, { name := "loadFactor", type := .float, accessFlags := 16, slot := 7, constantValue := 0 }]
  methods := #[k10m0]
  instanceTypes := #[(.object "java/util/Set"), (.object "java/util/Collection"), (.array (.object "java/util/HashMap$Node")), (.object "java/util/Set"), .int, .int, .int, .float]
  staticTypes := #[.long, .int, .int, .float, .int, .int, .int]
  resolved := Array.replicate 629 none
  statics := none }

def pool11 : Array CpInfo := pool [(8, .class_ 10), (1, u "java/lang/Iterable"), (24, .class_ 36), (0, u "java/lang/Object")] 25

/-- java/lang/Iterable -/
def k11 : Class := { plain "java/lang/Iterable" (some 0) with
  accessFlags := 1537
  interfaces := #[]
  cf := some (fileOf pool11 8 #[] #[] 1537 35 #[] #[])
  fields := #[]
  methods := #[]
  instanceTypes := #[]
  staticTypes := #[]
  resolved := Array.replicate 62 none
  statics := none }

def pool12 : Array CpInfo := pool [(10, .class_ 12), (1, u "java/util/Collection"), (47, .class_ 61), (0, u "java/lang/Object"), (0, .class_ 63), (0, u "java/lang/Iterable")] 51

/-- java/util/Collection -/
def k12 : Class := { plain "java/util/Collection" (some 0) with
  accessFlags := 1537
  interfaces := #[11]
  cf := some (fileOf pool12 10 #[] #[] 1537 60 #[62] #[])
  fields := #[]
  methods := #[]
  instanceTypes := #[]
  staticTypes := #[]
  resolved := Array.replicate 115 none
  statics := none }

def pool13 : Array CpInfo := pool [(1, .methodref 2 3), (0, .class_ 4), (0, .nameAndType 5 6), (0, u "java/lang/Object"), (0, u "<init>"), (0, u "()V"), (1, .class_ 10), (1, u "java/util/AbstractCollection"), (66, .class_ 78), (0, u "java/util/Collection")] 81

def k13c0 : Code := { maxStack := 1, maxLocals := 1, code := jdk_22_method_1_code, exceptionTable := #[], attributes := #[] }
def k13m0 : Method := { name := "<init>", desc := "()V", sig := { parameters := [], returnType := none }, accessFlags := 4, code := some k13c0 }
/-- java/util/AbstractCollection -/
def k13 : Class := { plain "java/util/AbstractCollection" (some 0) with
  accessFlags := 1057
  interfaces := #[12]
  cf := some (fileOf pool13 8 #[] #[{ accessFlags := 4, nameIndex := 5, descriptorIndex := 6, attributes := #[] }] 1057 2 #[77] #[])
  fields := #[]
  methods := #[k13m0]
  instanceTypes := #[]
  staticTypes := #[]
  resolved := Array.replicate 160 none
  statics := none }

def pool14 : Array CpInfo := pool [(8, .class_ 10), (1, u "java/util/SequencedCollection"), (15, .class_ 27), (0, u "java/lang/Object"), (0, .class_ 29), (0, u "java/util/Collection")] 27

/-- java/util/SequencedCollection -/
def k14 : Class := { plain "java/util/SequencedCollection" (some 0) with
  accessFlags := 1537
  interfaces := #[12]
  cf := some (fileOf pool14 8 #[] #[] 1537 26 #[28] #[])
  fields := #[]
  methods := #[]
  instanceTypes := #[]
  staticTypes := #[]
  resolved := Array.replicate 57 none
  statics := none }

def pool15 : Array CpInfo := pool [(8, .class_ 10), (1, u "java/util/List"), (92, .class_ 104), (0, u "java/lang/Object"), (15, .class_ 121), (0, u "java/util/SequencedCollection")] 129

/-- java/util/List -/
def k15 : Class := { plain "java/util/List" (some 0) with
  accessFlags := 1537
  interfaces := #[14]
  cf := some (fileOf pool15 8 #[] #[] 1537 103 #[120] #[])
  fields := #[]
  methods := #[]
  instanceTypes := #[]
  staticTypes := #[]
  resolved := Array.replicate 251 none
  statics := none }

def pool16 : Array CpInfo := pool [(1, .methodref 2 3), (0, .class_ 4), (0, .nameAndType 5 6), (0, u "java/util/AbstractCollection"), (0, u "<init>"), (0, u "()V"), (0, .fieldref 8 9), (0, .class_ 10), (0, .nameAndType 11 12), (0, u "java/util/AbstractList"), (0, u "modCount"), (0, u "I"), (64, .class_ 78), (0, u "java/util/AbstractList$Itr"), (3, .class_ 83), (0, u "java/util/AbstractList$ListItr"), (9, .class_ 94), (0, u "java/util/AbstractList$RandomAccessSubList"), (3, .class_ 99), (0, u "java/util/AbstractList$SubList"), (33, .class_ 134), (0, u "java/util/List"), (73, .class_ 209), (0, u "java/util/AbstractList$SubList$1"), (0, .class_ 211), (0, u "java/util/AbstractList$RandomAccessSpliterator")] 6

def k16c0 : Code := { maxStack := 2, maxLocals := 1, code := jdk_39_method_1_code, exceptionTable := #[], attributes := #[] }
def k16m0 : Method := { name := "<init>", desc := "()V", sig := { parameters := [], returnType := none }, accessFlags := 4, code := some k16c0 }
/-- java/util/AbstractList -/
def k16 : Class := { plain "java/util/AbstractList" (some 13) with
  accessFlags := 1057
  interfaces := #[15]
  cf := some (fileOf pool16 8 #[.nestMembers #[93, 98, 208, 210, 82, 77]] #[{ accessFlags := 4, nameIndex := 5, descriptorIndex := 6, attributes := #[] }] 1057 2 #[133] #[{ accessFlags := 132, nameIndex := 11, descriptorIndex := 12, attributes := #[] }])
  fields := #[{ name := "modCount", type := .int, accessFlags := 132, slot := 0, constantValue := 0 }]
  methods := #[k16m0]
  instanceTypes := #[.int]
  staticTypes := #[]
  resolved := Array.replicate 218 none
  statics := none }

def pool17 : Array CpInfo := pool [(1, .class_ 2), (0, u "java/util/RandomAccess"), (0, .class_ 4), (0, u "java/lang/Object")] 2

/-- java/util/RandomAccess -/
def k17 : Class := { plain "java/util/RandomAccess" (some 0) with
  accessFlags := 1537
  interfaces := #[]
  cf := some (fileOf pool17 1 #[] #[] 1537 3 #[] #[])
  fields := #[]
  methods := #[]
  instanceTypes := #[]
  staticTypes := #[]
  resolved := Array.replicate 7 none
  statics := none }

def pool18 : Array CpInfo := pool [(1, .methodref 2 3), (0, .class_ 4), (0, .nameAndType 5 6), (0, u "java/util/AbstractList"), (0, u "<init>"), (0, u "()V"), (2, .fieldref 10 11), (0, .class_ 12), (0, .nameAndType 13 14), (0, u "java/util/ArrayList"), (0, u "elementData"), (0, u "[Ljava/lang/Object;"), (2, u "EMPTY_ELEMENTDATA"), (21, .fieldref 10 40), (0, .nameAndType 41 14), (0, u "DEFAULTCAPACITY_EMPTY_ELEMENTDATA"), (8, u "size"), (0, u "I"), (96, .class_ 149), (0, u "java/util/List"), (112, .class_ 263), (0, u "java/util/ArrayList$ListItr"), (3, .class_ 268), (0, u "java/util/ArrayList$Itr"), (7, .class_ 277), (0, u "java/util/ArrayList$SubList"), (12, .class_ 291), (0, u "java/util/ArrayList$ArrayListSpliterator"), (37, .class_ 330), (0, u "java/util/RandomAccess"), (0, .class_ 332), (0, u "java/lang/Cloneable"), (0, .class_ 334), (0, u "java/io/Serializable"), (0, u "serialVersionUID"), (0, u "J"), (3, u "DEFAULT_CAPACITY"), (159, .class_ 501), (0, u "java/util/ArrayList$SubList$2"), (0, .class_ 503), (0, u "java/util/ArrayList$SubList$1")] 5

def k18c0 : Code := { maxStack := 2, maxLocals := 1, code := jdk_38_method_2_code, exceptionTable := #[], attributes := #[] }
def k18m0 : Method := { name := "<init>", desc := "()V", sig := { parameters := [], returnType := none }, accessFlags := 1, code := some k18c0 }
/-- java/util/ArrayList -/
def k18 : Class := { plain "java/util/ArrayList" (some 16) with
  accessFlags := 33
  interfaces := #[15, 17, 8, 9]
  cf := some (fileOf pool18 10 #[.nestMembers #[290, 276, 500, 502, 262, 267]] #[{ accessFlags := 1, nameIndex := 5, descriptorIndex := 6, attributes := #[] }] 33 2 #[148, 329, 331, 333] #[{ accessFlags := 26, nameIndex := 335, descriptorIndex := 336, attributes := #[] }, { accessFlags := 26, nameIndex := 340, descriptorIndex := 51, attributes := #[] }, { accessFlags := 26, nameIndex := 17, descriptorIndex := 14, attributes := #[] }, { accessFlags := 26, nameIndex := 41, descriptorIndex := 14, attributes := #[] }, { accessFlags := 128, nameIndex := 13, descriptorIndex := 14, attributes := #[] }, { accessFlags := 2, nameIndex := 50, descriptorIndex := 51, attributes := #[] }])
  fields := #[{ name := "serialVersionUID", type := .long, accessFlags := 26, slot := 0, constantValue := 0 }, { name := "DEFAULT_CAPACITY", type := .int, accessFlags := 26, slot := 1, constantValue := 0 }, { name := "EMPTY_ELEMENTDATA", type := (.array (.object "java/lang/Object")), accessFlags := 26, slot := 2, constantValue := 0 }, { name := "DEFAULTCAPACITY_EMPTY_ELEMENTDATA", type := (.array (.object "java/lang/Object")), accessFlags := 26, slot := 3, constantValue := 0 }, { name := "elementData", type := (.array (.object "java/lang/Object")), accessFlags := 128, slot := 1, constantValue := 0 }, { name := "size", type := .int, accessFlags := 2, slot := 2, constantValue := 0 }]
  methods := #[k18m0]
  instanceTypes := #[.int, (.array (.object "java/lang/Object")), .int]
  staticTypes := #[.long, .int, (.array (.object "java/lang/Object")), (.array (.object "java/lang/Object"))]
  resolved := Array.replicate 509 none
  statics := some 0 }

def pool19 : Array CpInfo := pool [(1, .methodref 2 3), (0, .class_ 4), (0, .nameAndType 5 6), (0, u "java/lang/Object"), (0, u "<init>"), (0, u "()V"), (0, .fieldref 8 9), (0, .class_ 10), (0, .nameAndType 11 12), (0, u "com/example/concordia/concordia/expr/IntList"), (0, u "values"), (0, u "[I"), (0, .fieldref 8 14), (0, .nameAndType 15 16), (0, u "size"), (0, u "I"), (53, u "()I")] 34

def k19c0 : Code := { maxStack := 2, maxLocals := 1, code := prog_22_method_1_code, exceptionTable := #[], attributes := #[] }
def k19m0 : Method := { name := "<init>", desc := "()V", sig := { parameters := [], returnType := none }, accessFlags := 1, code := some k19c0 }
def k19c1 : Code := { maxStack := 1, maxLocals := 1, code := prog_22_method_2_code, exceptionTable := #[], attributes := #[] }
def k19m1 : Method := { name := "size", desc := "()I", sig := { parameters := [], returnType := some .int }, accessFlags := 1, code := some k19c1 }
/-- com/example/concordia/concordia/expr/IntList -/
def k19 : Class := { plain "com/example/concordia/concordia/expr/IntList" (some 0) with
  accessFlags := 49
  interfaces := #[]
  cf := some (fileOf pool19 8 #[] #[{ accessFlags := 1, nameIndex := 5, descriptorIndex := 6, attributes := #[] }, { accessFlags := 1, nameIndex := 15, descriptorIndex := 70, attributes := #[] }] 49 2 #[] #[{ accessFlags := 2, nameIndex := 11, descriptorIndex := 12, attributes := #[] }, { accessFlags := 2, nameIndex := 15, descriptorIndex := 16, attributes := #[] }])
  fields := #[{ name := "values", type := (.array .int), accessFlags := 2, slot := 0, constantValue := 0 }, { name := "size", type := .int, accessFlags := 2, slot := 1, constantValue := 0 }]
  methods := #[k19m0, k19m1]
  instanceTypes := #[(.array .int), .int]
  staticTypes := #[]
  resolved := Array.replicate 105 none
  statics := none }

def pool20 : Array CpInfo := pool [(1, .methodref 2 3), (0, .class_ 4), (0, .nameAndType 5 6), (0, u "java/lang/Object"), (0, u "<init>"), (0, u "()V"), (0, .class_ 8), (0, u "com/example/concordia/concordia/expr/CellArray$Codes"), (0, .methodref 10 11), (0, .class_ 12), (0, .nameAndType 13 14), (0, u "com/example/concordia/concordia/expr/CellArray"), (0, u "halfBytes"), (0, u "(I)I"), (0, .methodref 7 16), (0, .nameAndType 5 17), (0, u "([B[II)V"), (2, .class_ 21), (0, u "com/example/concordia/concordia/expr/CellArray$Bytes"), (5, .class_ 28), (0, u "com/example/concordia/concordia/expr/CellArray$Shorts"), (3, .class_ 33), (0, u "com/example/concordia/concordia/expr/CellArray$Ints"), (3, .long 2), (3, u "narrowest"), (0, u "(I)Lcom/example/concordia/concordia/expr/CellArray;"), (20, .class_ 64), (0, u "com/example/concordia/concordia/expr/CellArray$Plain")] 6

def k20c0 : Code := { maxStack := 1, maxLocals := 1, code := prog_15_method_1_code, exceptionTable := #[], attributes := #[] }
def k20m0 : Method := { name := "<init>", desc := "()V", sig := { parameters := [], returnType := none }, accessFlags := 0, code := some k20c0 }
def k20c1 : Code := { maxStack := 5, maxLocals := 1, code := prog_15_method_2_code, exceptionTable := #[], attributes := #[] }
def k20m1 : Method := { name := "narrowest", desc := "(I)Lcom/example/concordia/concordia/expr/CellArray;", sig := { parameters := [.int], returnType := some (.object "com/example/concordia/concordia/expr/CellArray") }, accessFlags := 8, code := some k20c1 }
def k20c2 : Code := { maxStack := 4, maxLocals := 1, code := prog_15_method_13_code, exceptionTable := #[], attributes := #[] }
def k20m2 : Method := { name := "halfBytes", desc := "(I)I", sig := { parameters := [.int], returnType := some .int }, accessFlags := 10, code := some k20c2 }
/-- com/example/concordia/concordia/expr/CellArray -/
def k20 : Class := { plain "com/example/concordia/concordia/expr/CellArray" (some 0) with
  accessFlags := 1056
  interfaces := #[]
  cf := some (fileOf pool20 10 #[.nestMembers #[32, 27, 20, 7, 63]] #[{ accessFlags := 0, nameIndex := 5, descriptorIndex := 6, attributes := #[] }, { accessFlags := 8, nameIndex := 41, descriptorIndex := 42, attributes := #[] }, { accessFlags := 10, nameIndex := 13, descriptorIndex := 14, attributes := #[] }] 1056 2 #[] #[])
  fields := #[]
  methods := #[k20m0, k20m1, k20m2]
  instanceTypes := #[]
  staticTypes := #[]
  resolved := Array.replicate 71 none
  statics := none }

def pool21 : Array CpInfo := pool [(3, .methodref 4 5), (0, .class_ 6), (0, .nameAndType 7 8), (0, u "com/example/concordia/concordia/expr/CellArray"), (0, u "<init>"), (0, u "()V"), (0, .class_ 10), (0, u "com/example/concordia/concordia/expr/CellArray$Codes"), (0, .fieldref 9 12), (0, .nameAndType 13 14), (0, u "smallCodes"), (0, u "[B"), (0, .fieldref 9 16), (0, .nameAndType 17 14), (0, u "codes"), (0, .fieldref 9 19), (0, .nameAndType 20 21), (0, u "cells"), (0, u "[I"), (0, .fieldref 9 23), (0, .nameAndType 24 25), (0, u "count"), (0, u "I"), (45, u "([B[II)V"), (4, u "MOST_CELLS"), (2, u "SMALL_CELLS")] 24

def k21c0 : Code := { maxStack := 4, maxLocals := 5, code := prog_17_method_1_code, exceptionTable := #[], attributes := #[] }
def k21m0 : Method := { name := "<init>", desc := "([B[II)V", sig := { parameters := [(.array .byte), (.array .int), .int], returnType := none }, accessFlags := 0, code := some k21c0 }
/-- com/example/concordia/concordia/expr/CellArray$Codes -/
def k21 : Class := { plain "com/example/concordia/concordia/expr/CellArray$Codes" (some 20) with
  accessFlags := 48
  interfaces := #[]
  cf := some (fileOf pool21 9 #[.nestHost 4] #[{ accessFlags := 0, nameIndex := 7, descriptorIndex := 71, attributes := #[] }] 48 4 #[] #[{ accessFlags := 24, nameIndex := 76, descriptorIndex := 25, attributes := #[] }, { accessFlags := 26, nameIndex := 79, descriptorIndex := 25, attributes := #[] }, { accessFlags := 18, nameIndex := 17, descriptorIndex := 14, attributes := #[] }, { accessFlags := 18, nameIndex := 20, descriptorIndex := 21, attributes := #[] }, { accessFlags := 2, nameIndex := 24, descriptorIndex := 25, attributes := #[] }, { accessFlags := 18, nameIndex := 13, descriptorIndex := 14, attributes := #[] }])
  fields := #[{ name := "MOST_CELLS", type := .int, accessFlags := 24, slot := 0, constantValue := 0 }, { name := "SMALL_CELLS", type := .int, accessFlags := 26, slot := 1, constantValue := 0 }, { name := "codes", type := (.array .byte), accessFlags := 18, slot := 0, constantValue := 0 }, { name := "cells", type := (.array .int), accessFlags := 18, slot := 1, constantValue := 0 }, { name := "count", type := .int, accessFlags := 2, slot := 2, constantValue := 0 }, { name := "smallCodes", type := (.array .byte), accessFlags := 18, slot := 3, constantValue := 0 }]
  methods := #[k21m0]
  instanceTypes := #[(.array .byte), (.array .int), .int, (.array .byte)]
  staticTypes := #[.int, .int]
  resolved := Array.replicate 104 none
  statics := none }

def pool22 : Array CpInfo := pool [(1, .methodref 2 3), (0, .class_ 4), (0, .nameAndType 5 6), (0, u "java/lang/Object"), (0, u "<init>"), (0, u "()V"), (0, .fieldref 8 9), (0, .class_ 10), (0, .nameAndType 11 12), (0, u "com/example/concordia/concordia/index/ChildrenByLabel"), (0, u "keys"), (0, u "[J"), (0, .methodref 8 14), (0, .nameAndType 15 16), (0, u "newChildren"), (0, u "(I)[I"), (0, .fieldref 8 18), (0, .nameAndType 19 20), (0, u "children"), (0, u "[I"), (10, u "size"), (0, u "I"), (7, .methodref 41 42), (0, .class_ 43), (0, .nameAndType 44 45), (0, u "java/util/Arrays"), (0, u "fill"), (0, u "([II)V"), (6, u "NONE"), (2, u "WIDE")] 15

def k22c0 : Code := { maxStack := 2, maxLocals := 1, code := prog_25_method_1_code, exceptionTable := #[], attributes := #[] }
def k22m0 : Method := { name := "<init>", desc := "()V", sig := { parameters := [], returnType := none }, accessFlags := 0, code := some k22c0 }
def k22c1 : Code := { maxStack := 2, maxLocals := 2, code := prog_25_method_8_code, exceptionTable := #[], attributes := #[] }
def k22m1 : Method := { name := "newChildren", desc := "(I)[I", sig := { parameters := [.int], returnType := some (.array .int) }, accessFlags := 10, code := some k22c1 }
/-- com/example/concordia/concordia/index/ChildrenByLabel -/
def k22 : Class := { plain "com/example/concordia/concordia/index/ChildrenByLabel" (some 0) with
  accessFlags := 48
  interfaces := #[]
  cf := some (fileOf pool22 8 #[] #[{ accessFlags := 0, nameIndex := 5, descriptorIndex := 6, attributes := #[] }, { accessFlags := 10, nameIndex := 15, descriptorIndex := 16, attributes := #[] }] 48 2 #[] #[{ accessFlags := 24, nameIndex := 52, descriptorIndex := 32, attributes := #[] }, { accessFlags := 24, nameIndex := 55, descriptorIndex := 32, attributes := #[] }, { accessFlags := 2, nameIndex := 11, descriptorIndex := 12, attributes := #[] }, { accessFlags := 2, nameIndex := 19, descriptorIndex := 20, attributes := #[] }, { accessFlags := 2, nameIndex := 31, descriptorIndex := 32, attributes := #[] }])
  fields := #[{ name := "NONE", type := .int, accessFlags := 24, slot := 0, constantValue := 0 }, { name := "WIDE", type := .int, accessFlags := 24, slot := 1, constantValue := 0 }, { name := "keys", type := (.array .long), accessFlags := 2, slot := 0, constantValue := 0 }, { name := "children", type := (.array .int), accessFlags := 2, slot := 1, constantValue := 0 }, { name := "size", type := .int, accessFlags := 2, slot := 2, constantValue := 0 }]
  methods := #[k22m0, k22m1]
  instanceTypes := #[(.array .long), (.array .int), .int]
  staticTypes := #[.int, .int]
  resolved := Array.replicate 71 none
  statics := none }

def pool23 : Array CpInfo := pool [(2, .class_ 4), (1, u "java/lang/Object"), (0, u "<init>"), (0, u "()V"), (7, .class_ 16), (1, u "java/util/Arrays"), (57, .class_ 76), (1, u "java/util/Arrays$NaturalOrder"), (36, .class_ 115), (1, u "java/util/Arrays$LegacyMergeSort"), (1, u "Z"), (257, .class_ 376), (0, u "java/util/Arrays$ArrayList"), (68, u "$assertionsDisabled"), (269, u "MIN_ARRAY_SORT_GRAN"), (0, u "I"), (2, u "INSERTIONSORT_THRESHOLD"), (120, u "fill"), (4, u "([II)V"), (129, .class_ 976), (0, u "java/util/Arrays$ArrayItr")] 52

def k23m0 : Method := { name := "<init>", desc := "()V", sig := { parameters := [], returnType := none }, accessFlags := 2, code := none }
def k23c1 : Code := { maxStack := 3, maxLocals := 4, code := jdk_65_method_103_code, exceptionTable := #[], attributes := #[] }
def k23m1 : Method := { name := "fill", desc := "([II)V", sig := { parameters := [(.array .int), .int], returnType := none }, accessFlags := 9, code := some k23c1 }
/-- java/util/Arrays -/
def k23 : Class := { plain "java/util/Arrays" (some 0) with
  accessFlags := 49
  interfaces := #[]
  cf := some (fileOf pool23 14 #[.nestMembers #[975, 375, 113, 74]] #[{ accessFlags := 2, nameIndex := 5, descriptorIndex := 6, attributes := #[] }, { accessFlags := 9, nameIndex := 840, descriptorIndex := 845, attributes := #[] }] 49 2 #[] #[{ accessFlags := 26, nameIndex := 715, descriptorIndex := 716, attributes := #[] }, { accessFlags := 26, nameIndex := 719, descriptorIndex := 716, attributes := #[] }, { accessFlags := 4120, nameIndex := 445, descriptorIndex := 117, attributes := #[] }])
  fields := #[{ name := "MIN_ARRAY_SORT_GRAN", type := .int, accessFlags := 26, slot := 0, constantValue := 0 }, { name := "INSERTIONSORT_THRESHOLD", type := .int, accessFlags := 26, slot := 1, constantValue := 0 }, { name := "$assertionsDisabled", type := .boolean, accessFlags := 4120, slot := 2, constantValue := 0 }]
  methods := #[k23m0, k23m1]
  instanceTypes := #[]
  staticTypes := #[.int, .int, .boolean]
  resolved := Array.replicate 1029 none
  statics := none }

def pool24 : Array CpInfo := pool [(1, .methodref 2 3), (0, .class_ 4), (0, .nameAndType 5 6), (0, u "java/lang/Object"), (0, u "<init>"), (0, u "()V"), (0, .class_ 8), (0, u "com/example/concordia/concordia/expr/IntList"), (0, .methodref 7 3), (0, .fieldref 11 12), (0, .class_ 13), (0, .nameAndType 14 15), (0, u "com/example/concordia/concordia/index/Program"), (0, u "instructions"), (0, u "Lcom/example/concordia/concordia/expr/IntList;"), (0, .fieldref 11 17), (0, .nameAndType 18 15), (0, u "registersBefore"), (0, .fieldref 11 20), (0, .nameAndType 21 15), (0, u "openBefore"), (19, u "()I"), (14, .methodref 7 57), (0, .nameAndType 58 41), (0, u "size"), (0, .fieldref 11 60), (0, .nameAndType 61 62), (0, u "lastLiteralFrom"), (0, u "I"), (2, u "lastAtom"), (29, u "registersUsed"), (7, u "NO_INSTRUCTION")] 9

def k24c0 : Code := { maxStack := 3, maxLocals := 1, code := prog_46_method_1_code, exceptionTable := #[], attributes := #[] }
def k24m0 : Method := { name := "<init>", desc := "()V", sig := { parameters := [], returnType := none }, accessFlags := 0, code := some k24c0 }
def k24c1 : Code := { maxStack := 1, maxLocals := 1, code := prog_46_method_4_code, exceptionTable := #[], attributes := #[] }
def k24m1 : Method := { name := "size", desc := "()I", sig := { parameters := [], returnType := some .int }, accessFlags := 0, code := some k24c1 }
def k24c2 : Code := { maxStack := 1, maxLocals := 1, code := prog_46_method_8_code, exceptionTable := #[], attributes := #[] }
def k24m2 : Method := { name := "lastLiteralFrom", desc := "()I", sig := { parameters := [], returnType := some .int }, accessFlags := 0, code := some k24c2 }
/-- com/example/concordia/concordia/index/Program -/
def k24 : Class := { plain "com/example/concordia/concordia/index/Program" (some 0) with
  accessFlags := 48
  interfaces := #[]
  cf := some (fileOf pool24 11 #[] #[{ accessFlags := 0, nameIndex := 5, descriptorIndex := 6, attributes := #[] }, { accessFlags := 0, nameIndex := 58, descriptorIndex := 41, attributes := #[] }, { accessFlags := 0, nameIndex := 61, descriptorIndex := 41, attributes := #[] }] 48 2 #[] #[{ accessFlags := 24, nameIndex := 103, descriptorIndex := 62, attributes := #[] }, { accessFlags := 18, nameIndex := 14, descriptorIndex := 15, attributes := #[] }, { accessFlags := 18, nameIndex := 18, descriptorIndex := 15, attributes := #[] }, { accessFlags := 18, nameIndex := 21, descriptorIndex := 15, attributes := #[] }, { accessFlags := 2, nameIndex := 61, descriptorIndex := 62, attributes := #[] }, { accessFlags := 2, nameIndex := 65, descriptorIndex := 62, attributes := #[] }, { accessFlags := 2, nameIndex := 95, descriptorIndex := 62, attributes := #[] }])
  fields := #[{ name := "NO_INSTRUCTION", type := .int, accessFlags := 24, slot := 0, constantValue := 0 }, { name := "instructions", type := (.object "com/example/concordia/concordia/expr/IntList"), accessFlags := 18, slot := 0, constantValue := 0 }, { name := "registersBefore", type := (.object "com/example/concordia/concordia/expr/IntList"), accessFlags := 18, slot := 1, constantValue := 0 }, { name := "openBefore", type := (.object "com/example/concordia/concordia/expr/IntList"), accessFlags := 18, slot := 2, constantValue := 0 }, { name := "lastLiteralFrom", type := .int, accessFlags := 2, slot := 3, constantValue := 0 }, { name := "lastAtom", type := .int, accessFlags := 2, slot := 4, constantValue := 0 }, { name := "registersUsed", type := .int, accessFlags := 2, slot := 5, constantValue := 0 }]
  methods := #[k24m0, k24m1, k24m2]
  instanceTypes := #[(.object "com/example/concordia/concordia/expr/IntList"), (.object "com/example/concordia/concordia/expr/IntList"), (.object "com/example/concordia/concordia/expr/IntList"), .int, .int, .int]
  staticTypes := #[.int]
  resolved := Array.replicate 113 none
  statics := none }

def pool25 : Array CpInfo := pool [(1, .class_ 2), (0, u "java/lang/Math"), (1, .class_ 6), (1, u "java/lang/Object"), (0, u "<init>"), (0, u "()V"), (89, .class_ 100), (1, u "java/lang/Math$RandomNumberGeneratorHolder"), (71, u "negativeZeroFloatBits"), (0, u "J"), (2, u "negativeZeroDoubleBits"), (21, u "max"), (46, u "$assertionsDisabled"), (0, u "Z"), (88, u "(II)I"), (2, u "twoToTheDoubleScaleDown"), (0, u "D"), (4, u "twoToTheDoubleScaleUp"), (9, u "E"), (3, u "PI"), (2, u "TAU"), (2, u "DEGREES_TO_RADIANS"), (0, u "RADIANS_TO_DEGREES")] 94

def k25m0 : Method := { name := "<init>", desc := "()V", sig := { parameters := [], returnType := none }, accessFlags := 2, code := none }
def k25c1 : Code := { maxStack := 2, maxLocals := 2, code := jdk_29_method_65_code, exceptionTable := #[], attributes := #[] }
def k25m1 : Method := { name := "max", desc := "(II)I", sig := { parameters := [.int, .int], returnType := some .int }, accessFlags := 9, code := some k25c1 }
/-- java/lang/Math -/
def k25 : Class := { plain "java/lang/Math" (some 0) with
  accessFlags := 49
  interfaces := #[]
  cf := some (fileOf pool25 1 #[.nestMembers #[98]] #[{ accessFlags := 2, nameIndex := 7, descriptorIndex := 8, attributes := #[] }, { accessFlags := 9, nameIndex := 198, descriptorIndex := 335, attributes := #[] }] 49 4 #[] #[{ accessFlags := 25, nameIndex := 354, descriptorIndex := 339, attributes := #[] }, { accessFlags := 25, nameIndex := 358, descriptorIndex := 339, attributes := #[] }, { accessFlags := 25, nameIndex := 361, descriptorIndex := 339, attributes := #[] }, { accessFlags := 26, nameIndex := 364, descriptorIndex := 339, attributes := #[] }, { accessFlags := 26, nameIndex := 365, descriptorIndex := 339, attributes := #[] }, { accessFlags := 26, nameIndex := 172, descriptorIndex := 173, attributes := #[] }, { accessFlags := 26, nameIndex := 176, descriptorIndex := 173, attributes := #[] }, { accessFlags := 8, nameIndex := 344, descriptorIndex := 339, attributes := #[] }, { accessFlags := 8, nameIndex := 338, descriptorIndex := 339, attributes := #[] }, { accessFlags := 4120, nameIndex := 245, descriptorIndex := 246, attributes := #[] }])
  fields := #[{ name := "E", type := .double, accessFlags := 25, slot := 0, constantValue := 0 }, { name := "PI", type := .double, accessFlags := 25, slot := 1, constantValue := 0 }, { name := "TAU", type := .double, accessFlags := 25, slot := 2, constantValue := 0 }, { name := "DEGREES_TO_RADIANS", type := .double, accessFlags := 26, slot := 3, constantValue := 0 }, { name := "RADIANS_TO_DEGREES", type := .double, accessFlags := 26, slot := 4, constantValue := 0 }, { name := "negativeZeroFloatBits", type := .long, accessFlags := 26, slot := 5, constantValue := 0 }, { name := "negativeZeroDoubleBits", type := .long, accessFlags := 26, slot := 6, constantValue := 0 }, { name := "twoToTheDoubleScaleUp", type := .double, accessFlags := 8, slot := 7, constantValue := 0 }, { name := "twoToTheDoubleScaleDown", type := .double, accessFlags := 8, slot := 8, constantValue := 0 }, { name := "$assertionsDisabled", type := .boolean, accessFlags := 4120, slot := 9, constantValue := 0 }]
  methods := #[k25m0, k25m1]
  instanceTypes := #[]
  staticTypes := #[.double, .double, .double, .double, .double, .long, .long, .double, .double, .boolean]
  resolved := Array.replicate 460 none
  statics := none }

/-- the primitive byte -/
def k26 : Class := { plain "byte" none with kind := .primitive 'B', accessFlags := 0x411 }
/-- [B -/
def k27 : Class := { plain "[B" (some 0) with kind := .array 26 .byte, interfaces := #[8, 9], accessFlags := 1041 }

/-- the primitive int -/
def k28 : Class := { plain "int" none with kind := .primitive 'I', accessFlags := 0x411 }
/-- [I -/
def k29 : Class := { plain "[I" (some 0) with kind := .array 28 .int, interfaces := #[8, 9], accessFlags := 1041 }

/-- the primitive long -/
def k30 : Class := { plain "long" none with kind := .primitive 'J', accessFlags := 0x411 }
/-- [J -/
def k31 : Class := { plain "[J" (some 0) with kind := .array 30 .long, interfaces := #[8, 9], accessFlags := 1041 }

/-- [Ljava/lang/Object; -/
def k32 : Class := { plain "[Ljava/lang/Object;" (some 0) with kind := .array 0 (.object "java/lang/Object"), interfaces := #[8, 9], accessFlags := 1041 }

def heap : Heap := #[{ cls := 18, slots := #[.long 0, .int 0, .ref 1, .ref 2], vm := .statics 18 },
  { cls := 32, slots := #[], vm := .none },
  { cls := 32, slots := #[], vm := .none }]
def classes : Array Class := #[k0, k1, k2, k3, k4, k5, k6, k7, k8, k9, k10, k11, k12, k13, k14, k15, k16, k17, k18, k19, k20, k21, k22, k23, k24, k25, k26, k27, k28, k29, k30, k31, k32]
def interned : List (Array UInt16 × Addr) := []
def slotsUsed : Nat := 4
def theMethod : MethodId := ⟨1, 1⟩
def args0 : Array Value := #[.int 5, .int 7]
def aboutOver (below : List Frame) : State where
  vm := { classes := classes, interned := interned.toArray }
  heap := heap
  slotsUsed := slotsUsed
  threads := #[{ frames := .invoking theMethod args0 :: below }]
def below0 : List Frame := [.native { method := ⟨0, 0⟩, args := #[] }]
def about1 : State := aboutOver below0
def p0 : Program := .bare "" "" ""
def e0 : Env := launch0.env 0 0 0
theorem w_frames : about1.frames = Frame.invoking theMethod args0 :: below0 := rfl
set_option maxRecDepth 65536 in
theorem w_args : argsFit about1.vm theMethod args0 = true := by decide +kernel
set_option maxRecDepth 65536 in
theorem w_heap : heapFits about1 = true := by decide +kernel
set_option maxRecDepth 65536 in
theorem w_runnable : about1.curStatus? = some .runnable := by decide +kernel
set_option maxRecDepth 65536 in
theorem w_alone : about1.alone = true := by decide +kernel
set_option maxRecDepth 65536 in
theorem w_named : about1.methodNamed? x = some theMethod := by decide +kernel
set_option maxRecDepth 65536 in
theorem w_hears : about1.hears theMethod below0 = true := by decide +kernel
set_option maxRecDepth 65536 in
theorem w_ripe : about1.ripe theMethod args0 below0 = true := by decide +kernel
theorem w_running : about1.status = .running := rfl
set_option maxRecDepth 65536 in
theorem w_room : about1.hasRoom e0.platform room_1 = true :=
  launch0.hasRoom_least _ room_1 (by decide +kernel) (by decide +kernel) (by decide +kernel) (by decide +kernel) (by decide +kernel) (by decide +kernel)
theorem allAtoms_all (ts : List Jvm.Cond) (a : Array Jvm.Value) (st : Jvm.State) : (allAtoms ts).before a st = ts.all (fun c => c.before a st) := by
  induction ts with
  | nil => rfl
  | cons c t ih =>
    show (Jvm.Cond.and c (allAtoms t)).before a st = _
    rw [Jvm.Cond.before_and, ih, List.all_cons]
def words1 : List Jvm.Cond := Jvm.Cond.code x code maxLocals ret :: tables_1
/-- a 'code' word, met by the world's own term for the bytes: nothing is compared byte by byte -/
theorem code_word {y : MethodName} {bytes : ByteArray} {mx : Nat} {rt : Option FieldType} {a : Array Value} {s : State} {m : MethodId} {meth : Method} {c : Code} (h1 : s.methodNamed? y = some m) (h2 : s.vm.method? m = some meth) (h3 : meth.code = some c) (h4 : c.code = bytes)
    (h5 : (c.maxLocals == mx && c.exceptionTable.isEmpty && decide (c.maxStack ≤ mostOperands) && decide (meth.sig.returnType = rt) && !meth.locks && decide (parseMethodDescriptor y.desc = some meth.sig)) = true) : (Jvm.Cond.code y bytes mx rt).before a s = true := by
  simp only [Bool.and_eq_true, beq_iff_eq, Bool.not_eq_true', decide_eq_true_eq] at h5
  obtain ⟨⟨⟨⟨⟨g1, g2⟩, g3⟩, g4⟩, g5⟩, g6⟩ := h5
  simp [Cond.before, Cond.holds, Cond.value, h1, h2, h3, h4, g1, g2, g3, g4, g5, g6]
def isCode : Jvm.Cond → Bool
  | .code _ _ _ _ => true
  | _ => false
theorem all_split {L : List Jvm.Cond} {P : Jvm.Cond → Bool} (h1 : L.all (fun c => isCode c || P c) = true) (h2 : ∀ c ∈ L.filter isCode, P c = true) : L.all P = true := by
  refine List.all_eq_true.mpr fun c hc => ?_
  have h := List.all_eq_true.mp h1 c hc
  rcases Bool.eq_false_or_eq_true (isCode c) with hi | hi
  · exact h2 c (List.mem_filter.mpr ⟨hc, hi⟩)
  · simpa [hi] using h
set_option maxRecDepth 65536 in
theorem w_c0 : (Jvm.Cond.code x code maxLocals ret).before args0 about1 = true := code_word (m := ⟨1, 1⟩) (meth := k1m1) (c := k1c1) (by decide +kernel) rfl rfl rfl (by decide +kernel)
set_option maxRecDepth 65536 in
theorem w_c1 : (Jvm.Cond.code ({ cls := "com/example/concordia/concordia/expr/ExpressionStore", name := "<init>", desc := "()V" } : Jvm.MethodName) prog_21_method_1_code (1 : Nat) (Option.none : Option Jvm.ClassFile.FieldType)).before args0 about1 = true := code_word (m := ⟨4, 0⟩) (meth := k4m0) (c := k4c0) (by decide +kernel) rfl rfl rfl (by decide +kernel)
set_option maxRecDepth 65536 in
theorem w_c2 : (Jvm.Cond.code ({ cls := "java/lang/Object", name := "<init>", desc := "()V" } : Jvm.MethodName) object_method_1_code (1 : Nat) (Option.none : Option Jvm.ClassFile.FieldType)).before args0 about1 = true := code_word (m := ⟨0, 0⟩) (meth := k0m0) (c := k0c0) (by decide +kernel) rfl rfl rfl (by decide +kernel)
set_option maxRecDepth 65536 in
theorem w_c3 : (Jvm.Cond.code ({ cls := "com/example/concordia/concordia/expr/SymbolTable", name := "<init>", desc := "()V" } : Jvm.MethodName) prog_23_method_1_code (1 : Nat) (Option.none : Option Jvm.ClassFile.FieldType)).before args0 about1 = true := code_word (m := ⟨5, 0⟩) (meth := k5m0) (c := k5c0) (by decide +kernel) rfl rfl rfl (by decide +kernel)
set_option maxRecDepth 65536 in
theorem w_c4 : (Jvm.Cond.code ({ cls := "java/util/HashMap", name := "<init>", desc := "()V" } : Jvm.MethodName) jdk_69_method_7_code (1 : Nat) (Option.none : Option Jvm.ClassFile.FieldType)).before args0 about1 = true := code_word (m := ⟨10, 0⟩) (meth := k10m0) (c := k10c0) (by decide +kernel) rfl rfl rfl (by decide +kernel)
set_option maxRecDepth 65536 in
theorem w_c5 : (Jvm.Cond.code ({ cls := "java/util/AbstractMap", name := "<init>", desc := "()V" } : Jvm.MethodName) jdk_71_method_1_code (1 : Nat) (Option.none : Option Jvm.ClassFile.FieldType)).before args0 about1 = true := code_word (m := ⟨7, 0⟩) (meth := k7m0) (c := k7c0) (by decide +kernel) rfl rfl rfl (by decide +kernel)
set_option maxRecDepth 65536 in
theorem w_c6 : (Jvm.Cond.code ({ cls := "java/util/ArrayList", name := "<init>", desc := "()V" } : Jvm.MethodName) jdk_38_method_2_code (1 : Nat) (Option.none : Option Jvm.ClassFile.FieldType)).before args0 about1 = true := code_word (m := ⟨18, 0⟩) (meth := k18m0) (c := k18c0) (by decide +kernel) rfl rfl rfl (by decide +kernel)
set_option maxRecDepth 65536 in
theorem w_c7 : (Jvm.Cond.code ({ cls := "java/util/AbstractList", name := "<init>", desc := "()V" } : Jvm.MethodName) jdk_39_method_1_code (1 : Nat) (Option.none : Option Jvm.ClassFile.FieldType)).before args0 about1 = true := code_word (m := ⟨16, 0⟩) (meth := k16m0) (c := k16c0) (by decide +kernel) rfl rfl rfl (by decide +kernel)
set_option maxRecDepth 65536 in
theorem w_c8 : (Jvm.Cond.code ({ cls := "java/util/AbstractCollection", name := "<init>", desc := "()V" } : Jvm.MethodName) jdk_22_method_1_code (1 : Nat) (Option.none : Option Jvm.ClassFile.FieldType)).before args0 about1 = true := code_word (m := ⟨13, 0⟩) (meth := k13m0) (c := k13c0) (by decide +kernel) rfl rfl rfl (by decide +kernel)
set_option maxRecDepth 65536 in
theorem w_c9 : (Jvm.Cond.code ({ cls := "com/example/concordia/concordia/expr/IntList", name := "<init>", desc := "()V" } : Jvm.MethodName) prog_22_method_1_code (1 : Nat) (Option.none : Option Jvm.ClassFile.FieldType)).before args0 about1 = true := code_word (m := ⟨19, 0⟩) (meth := k19m0) (c := k19c0) (by decide +kernel) rfl rfl rfl (by decide +kernel)
set_option maxRecDepth 65536 in
theorem w_c10 : (Jvm.Cond.code ({ cls := "com/example/concordia/concordia/expr/CellArray", name := "narrowest", desc := "(I)Lcom/example/concordia/concordia/expr/CellArray;" } : Jvm.MethodName) prog_15_method_2_code (1 : Nat) (Option.some (Jvm.ClassFile.FieldType.object "com/example/concordia/concordia/expr/CellArray"))).before args0 about1 = true := code_word (m := ⟨20, 1⟩) (meth := k20m1) (c := k20c1) (by decide +kernel) rfl rfl rfl (by decide +kernel)
set_option maxRecDepth 65536 in
theorem w_c11 : (Jvm.Cond.code ({ cls := "com/example/concordia/concordia/expr/CellArray", name := "halfBytes", desc := "(I)I" } : Jvm.MethodName) prog_15_method_13_code (1 : Nat) (Option.some Jvm.ClassFile.FieldType.int)).before args0 about1 = true := code_word (m := ⟨20, 2⟩) (meth := k20m2) (c := k20c2) (by decide +kernel) rfl rfl rfl (by decide +kernel)
set_option maxRecDepth 65536 in
theorem w_c12 : (Jvm.Cond.code ({ cls := "com/example/concordia/concordia/expr/CellArray$Codes", name := "<init>", desc := "([B[II)V" } : Jvm.MethodName) prog_17_method_1_code (5 : Nat) (Option.none : Option Jvm.ClassFile.FieldType)).before args0 about1 = true := code_word (m := ⟨21, 0⟩) (meth := k21m0) (c := k21c0) (by decide +kernel) rfl rfl rfl (by decide +kernel)
set_option maxRecDepth 65536 in
theorem w_c13 : (Jvm.Cond.code ({ cls := "com/example/concordia/concordia/expr/CellArray", name := "<init>", desc := "()V" } : Jvm.MethodName) prog_15_method_1_code (1 : Nat) (Option.none : Option Jvm.ClassFile.FieldType)).before args0 about1 = true := code_word (m := ⟨20, 0⟩) (meth := k20m0) (c := k20c0) (by decide +kernel) rfl rfl rfl (by decide +kernel)
set_option maxRecDepth 65536 in
theorem w_c14 : (Jvm.Cond.code ({ cls := "com/example/concordia/concordia/index/LinkedCode", name := "<init>", desc := "(Lcom/example/concordia/concordia/expr/ExpressionStore;)V" } : Jvm.MethodName) prog_43_method_1_code (2 : Nat) (Option.none : Option Jvm.ClassFile.FieldType)).before args0 about1 = true := code_word (m := ⟨3, 0⟩) (meth := k3m0) (c := k3c0) (by decide +kernel) rfl rfl rfl (by decide +kernel)
set_option maxRecDepth 65536 in
theorem w_c15 : (Jvm.Cond.code ({ cls := "com/example/concordia/concordia/index/Code", name := "<init>", desc := "()V" } : Jvm.MethodName) prog_26_method_1_code (1 : Nat) (Option.none : Option Jvm.ClassFile.FieldType)).before args0 about1 = true := code_word (m := ⟨2, 0⟩) (meth := k2m0) (c := k2c0) (by decide +kernel) rfl rfl rfl (by decide +kernel)
set_option maxRecDepth 65536 in
theorem w_c16 : (Jvm.Cond.code ({ cls := "com/example/concordia/concordia/index/ChildrenByLabel", name := "<init>", desc := "()V" } : Jvm.MethodName) prog_25_method_1_code (1 : Nat) (Option.none : Option Jvm.ClassFile.FieldType)).before args0 about1 = true := code_word (m := ⟨22, 0⟩) (meth := k22m0) (c := k22c0) (by decide +kernel) rfl rfl rfl (by decide +kernel)
set_option maxRecDepth 65536 in
theorem w_c17 : (Jvm.Cond.code ({ cls := "com/example/concordia/concordia/index/ChildrenByLabel", name := "newChildren", desc := "(I)[I" } : Jvm.MethodName) prog_25_method_8_code (2 : Nat) (Option.some (Jvm.ClassFile.FieldType.array Jvm.ClassFile.FieldType.int))).before args0 about1 = true := code_word (m := ⟨22, 1⟩) (meth := k22m1) (c := k22c1) (by decide +kernel) rfl rfl rfl (by decide +kernel)
set_option maxRecDepth 65536 in
theorem w_c18 : (Jvm.Cond.code ({ cls := "java/util/Arrays", name := "fill", desc := "([II)V" } : Jvm.MethodName) jdk_65_method_103_code (4 : Nat) (Option.none : Option Jvm.ClassFile.FieldType)).before args0 about1 = true := code_word (m := ⟨23, 1⟩) (meth := k23m1) (c := k23c1) (by decide +kernel) rfl rfl rfl (by decide +kernel)
set_option maxRecDepth 65536 in
theorem w_c19 : (Jvm.Cond.code ({ cls := "com/example/concordia/concordia/index/Program", name := "<init>", desc := "()V" } : Jvm.MethodName) prog_46_method_1_code (1 : Nat) (Option.none : Option Jvm.ClassFile.FieldType)).before args0 about1 = true := code_word (m := ⟨24, 0⟩) (meth := k24m0) (c := k24c0) (by decide +kernel) rfl rfl rfl (by decide +kernel)
set_option maxRecDepth 65536 in
theorem w_c20 : (Jvm.Cond.code ({ cls := "com/example/concordia/concordia/index/LinkedCode", name := "isEmpty", desc := "()Z" } : Jvm.MethodName) prog_43_method_9_code (5 : Nat) (Option.some Jvm.ClassFile.FieldType.boolean)).before args0 about1 = true := code_word (m := ⟨3, 1⟩) (meth := k3m1) (c := k3c1) (by decide +kernel) rfl rfl rfl (by decide +kernel)
set_option maxRecDepth 65536 in
theorem w_c21 : (Jvm.Cond.code ({ cls := "com/example/concordia/concordia/index/LinkedCode", name := "add", desc := "(ILcom/example/concordia/concordia/index/Program;I)V" } : Jvm.MethodName) prog_43_method_10_code (10 : Nat) (Option.none : Option Jvm.ClassFile.FieldType)).before args0 about1 = true := code_word (m := ⟨3, 2⟩) (meth := k3m2) (c := k3c2) (by decide +kernel) rfl rfl rfl (by decide +kernel)
set_option maxRecDepth 65536 in
theorem w_c22 : (Jvm.Cond.code ({ cls := "com/example/concordia/concordia/index/LinkedCode", name := "append", desc := "(II)I" } : Jvm.MethodName) prog_43_method_16_code (6 : Nat) (Option.some Jvm.ClassFile.FieldType.int)).before args0 about1 = true := code_word (m := ⟨3, 3⟩) (meth := k3m3) (c := k3c3) (by decide +kernel) rfl rfl rfl (by decide +kernel)
set_option maxRecDepth 65536 in
theorem w_c23 : (Jvm.Cond.code ({ cls := "com/example/concordia/concordia/index/Program", name := "lastLiteralFrom", desc := "()I" } : Jvm.MethodName) prog_46_method_8_code (1 : Nat) (Option.some Jvm.ClassFile.FieldType.int)).before args0 about1 = true := code_word (m := ⟨24, 2⟩) (meth := k24m2) (c := k24c2) (by decide +kernel) rfl rfl rfl (by decide +kernel)
set_option maxRecDepth 65536 in
theorem w_c24 : (Jvm.Cond.code ({ cls := "java/lang/Math", name := "max", desc := "(II)I" } : Jvm.MethodName) jdk_29_method_65_code (2 : Nat) (Option.some Jvm.ClassFile.FieldType.int)).before args0 about1 = true := code_word (m := ⟨25, 1⟩) (meth := k25m1) (c := k25c1) (by decide +kernel) rfl rfl rfl (by decide +kernel)
set_option maxRecDepth 65536 in
theorem w_c25 : (Jvm.Cond.code ({ cls := "com/example/concordia/concordia/index/Program", name := "size", desc := "()I" } : Jvm.MethodName) prog_46_method_4_code (1 : Nat) (Option.some Jvm.ClassFile.FieldType.int)).before args0 about1 = true := code_word (m := ⟨24, 1⟩) (meth := k24m1) (c := k24c1) (by decide +kernel) rfl rfl rfl (by decide +kernel)
set_option maxRecDepth 65536 in
theorem w_c26 : (Jvm.Cond.code ({ cls := "com/example/concordia/concordia/expr/IntList", name := "size", desc := "()I" } : Jvm.MethodName) prog_22_method_2_code (1 : Nat) (Option.some Jvm.ClassFile.FieldType.int)).before args0 about1 = true := code_word (m := ⟨19, 1⟩) (meth := k19m1) (c := k19c1) (by decide +kernel) rfl rfl rfl (by decide +kernel)
set_option maxRecDepth 65536 in
theorem w_c27 : (Jvm.Cond.code ({ cls := "com/example/concordia/concordia/index/Code", name := "instruction", desc := "(II)I" } : Jvm.MethodName) prog_26_method_2_code (2 : Nat) (Option.some Jvm.ClassFile.FieldType.int)).before args0 about1 = true := code_word (m := ⟨2, 1⟩) (meth := k2m1) (c := k2c1) (by decide +kernel) rfl rfl rfl (by decide +kernel)
set_option maxRecDepth 65536 in
theorem w_c28 : (Jvm.Cond.code ({ cls := "com/example/concordia/concordia/index/LinkedCode", name := "appendInstruction", desc := "(I)I" } : Jvm.MethodName) prog_43_method_26_code (3 : Nat) (Option.some Jvm.ClassFile.FieldType.int)).before args0 about1 = true := code_word (m := ⟨3, 4⟩) (meth := k3m4) (c := k3c4) (by decide +kernel) rfl rfl rfl (by decide +kernel)
set_option maxRecDepth 65536 in
theorem w_c29 : (Jvm.Cond.code ({ cls := "com/example/concordia/concordia/index/LinkedCode", name := "layOutOnceGrown", desc := "()V" } : Jvm.MethodName) prog_43_method_28_code (1 : Nat) (Option.none : Option Jvm.ClassFile.FieldType)).before args0 about1 = true := code_word (m := ⟨3, 5⟩) (meth := k3m5) (c := k3c5) (by decide +kernel) rfl rfl rfl (by decide +kernel)
def codes1 : List Jvm.Cond := [Jvm.Cond.code x code maxLocals ret, Jvm.Cond.code ({ cls := "com/example/concordia/concordia/expr/ExpressionStore", name := "<init>", desc := "()V" } : Jvm.MethodName) prog_21_method_1_code (1 : Nat) (Option.none : Option Jvm.ClassFile.FieldType), Jvm.Cond.code ({ cls := "java/lang/Object", name := "<init>", desc := "()V" } : Jvm.MethodName) object_method_1_code (1 : Nat) (Option.none : Option Jvm.ClassFile.FieldType), Jvm.Cond.code ({ cls := "com/example/concordia/concordia/expr/SymbolTable", name := "<init>", desc := "()V" } : Jvm.MethodName) prog_23_method_1_code (1 : Nat) (Option.none : Option Jvm.ClassFile.FieldType), Jvm.Cond.code ({ cls := "java/util/HashMap", name := "<init>", desc := "()V" } : Jvm.MethodName) jdk_69_method_7_code (1 : Nat) (Option.none : Option Jvm.ClassFile.FieldType), Jvm.Cond.code ({ cls := "java/util/AbstractMap", name := "<init>", desc := "()V" } : Jvm.MethodName) jdk_71_method_1_code (1 : Nat) (Option.none : Option Jvm.ClassFile.FieldType), Jvm.Cond.code ({ cls := "java/util/ArrayList", name := "<init>", desc := "()V" } : Jvm.MethodName) jdk_38_method_2_code (1 : Nat) (Option.none : Option Jvm.ClassFile.FieldType), Jvm.Cond.code ({ cls := "java/util/AbstractList", name := "<init>", desc := "()V" } : Jvm.MethodName) jdk_39_method_1_code (1 : Nat) (Option.none : Option Jvm.ClassFile.FieldType), Jvm.Cond.code ({ cls := "java/util/AbstractCollection", name := "<init>", desc := "()V" } : Jvm.MethodName) jdk_22_method_1_code (1 : Nat) (Option.none : Option Jvm.ClassFile.FieldType), Jvm.Cond.code ({ cls := "com/example/concordia/concordia/expr/IntList", name := "<init>", desc := "()V" } : Jvm.MethodName) prog_22_method_1_code (1 : Nat) (Option.none : Option Jvm.ClassFile.FieldType), Jvm.Cond.code ({ cls := "com/example/concordia/concordia/expr/CellArray", name := "narrowest", desc := "(I)Lcom/example/concordia/concordia/expr/CellArray;" } : Jvm.MethodName) prog_15_method_2_code (1 : Nat) (Option.some (Jvm.ClassFile.FieldType.object "com/example/concordia/concordia/expr/CellArray")), Jvm.Cond.code ({ cls := "com/example/concordia/concordia/expr/CellArray", name := "halfBytes", desc := "(I)I" } : Jvm.MethodName) prog_15_method_13_code (1 : Nat) (Option.some Jvm.ClassFile.FieldType.int), Jvm.Cond.code ({ cls := "com/example/concordia/concordia/expr/CellArray$Codes", name := "<init>", desc := "([B[II)V" } : Jvm.MethodName) prog_17_method_1_code (5 : Nat) (Option.none : Option Jvm.ClassFile.FieldType), Jvm.Cond.code ({ cls := "com/example/concordia/concordia/expr/CellArray", name := "<init>", desc := "()V" } : Jvm.MethodName) prog_15_method_1_code (1 : Nat) (Option.none : Option Jvm.ClassFile.FieldType), Jvm.Cond.code ({ cls := "com/example/concordia/concordia/index/LinkedCode", name := "<init>", desc := "(Lcom/example/concordia/concordia/expr/ExpressionStore;)V" } : Jvm.MethodName) prog_43_method_1_code (2 : Nat) (Option.none : Option Jvm.ClassFile.FieldType), Jvm.Cond.code ({ cls := "com/example/concordia/concordia/index/Code", name := "<init>", desc := "()V" } : Jvm.MethodName) prog_26_method_1_code (1 : Nat) (Option.none : Option Jvm.ClassFile.FieldType), Jvm.Cond.code ({ cls := "com/example/concordia/concordia/index/ChildrenByLabel", name := "<init>", desc := "()V" } : Jvm.MethodName) prog_25_method_1_code (1 : Nat) (Option.none : Option Jvm.ClassFile.FieldType), Jvm.Cond.code ({ cls := "com/example/concordia/concordia/index/ChildrenByLabel", name := "newChildren", desc := "(I)[I" } : Jvm.MethodName) prog_25_method_8_code (2 : Nat) (Option.some (Jvm.ClassFile.FieldType.array Jvm.ClassFile.FieldType.int)), Jvm.Cond.code ({ cls := "java/util/Arrays", name := "fill", desc := "([II)V" } : Jvm.MethodName) jdk_65_method_103_code (4 : Nat) (Option.none : Option Jvm.ClassFile.FieldType), Jvm.Cond.code ({ cls := "com/example/concordia/concordia/index/Program", name := "<init>", desc := "()V" } : Jvm.MethodName) prog_46_method_1_code (1 : Nat) (Option.none : Option Jvm.ClassFile.FieldType), Jvm.Cond.code ({ cls := "com/example/concordia/concordia/index/LinkedCode", name := "isEmpty", desc := "()Z" } : Jvm.MethodName) prog_43_method_9_code (5 : Nat) (Option.some Jvm.ClassFile.FieldType.boolean), Jvm.Cond.code ({ cls := "com/example/concordia/concordia/index/LinkedCode", name := "add", desc := "(ILcom/example/concordia/concordia/index/Program;I)V" } : Jvm.MethodName) prog_43_method_10_code (10 : Nat) (Option.none : Option Jvm.ClassFile.FieldType), Jvm.Cond.code ({ cls := "com/example/concordia/concordia/index/LinkedCode", name := "append", desc := "(II)I" } : Jvm.MethodName) prog_43_method_16_code (6 : Nat) (Option.some Jvm.ClassFile.FieldType.int), Jvm.Cond.code ({ cls := "com/example/concordia/concordia/index/Program", name := "lastLiteralFrom", desc := "()I" } : Jvm.MethodName) prog_46_method_8_code (1 : Nat) (Option.some Jvm.ClassFile.FieldType.int), Jvm.Cond.code ({ cls := "java/lang/Math", name := "max", desc := "(II)I" } : Jvm.MethodName) jdk_29_method_65_code (2 : Nat) (Option.some Jvm.ClassFile.FieldType.int), Jvm.Cond.code ({ cls := "com/example/concordia/concordia/index/Program", name := "size", desc := "()I" } : Jvm.MethodName) prog_46_method_4_code (1 : Nat) (Option.some Jvm.ClassFile.FieldType.int), Jvm.Cond.code ({ cls := "com/example/concordia/concordia/expr/IntList", name := "size", desc := "()I" } : Jvm.MethodName) prog_22_method_2_code (1 : Nat) (Option.some Jvm.ClassFile.FieldType.int), Jvm.Cond.code ({ cls := "com/example/concordia/concordia/index/Code", name := "instruction", desc := "(II)I" } : Jvm.MethodName) prog_26_method_2_code (2 : Nat) (Option.some Jvm.ClassFile.FieldType.int), Jvm.Cond.code ({ cls := "com/example/concordia/concordia/index/LinkedCode", name := "appendInstruction", desc := "(I)I" } : Jvm.MethodName) prog_43_method_26_code (3 : Nat) (Option.some Jvm.ClassFile.FieldType.int), Jvm.Cond.code ({ cls := "com/example/concordia/concordia/index/LinkedCode", name := "layOutOnceGrown", desc := "()V" } : Jvm.MethodName) prog_43_method_28_code (1 : Nat) (Option.none : Option Jvm.ClassFile.FieldType)]
set_option maxRecDepth 65536 in
theorem codes_eq : words1.filter isCode = codes1 := rfl
theorem w_codes : ∀ c ∈ words1.filter isCode, c.before args0 about1 = true := by
  rw [codes_eq]
  intro c hc
  simp only [codes1, List.mem_cons, List.not_mem_nil, or_false] at hc
  rcases hc with rfl | rfl | rfl | rfl | rfl | rfl | rfl | rfl | rfl | rfl | rfl | rfl | rfl | rfl | rfl | rfl | rfl | rfl | rfl | rfl | rfl | rfl | rfl | rfl | rfl | rfl | rfl | rfl | rfl | rfl
  · exact w_c0
  · exact w_c1
  · exact w_c2
  · exact w_c3
  · exact w_c4
  · exact w_c5
  · exact w_c6
  · exact w_c7
  · exact w_c8
  · exact w_c9
  · exact w_c10
  · exact w_c11
  · exact w_c12
  · exact w_c13
  · exact w_c14
  · exact w_c15
  · exact w_c16
  · exact w_c17
  · exact w_c18
  · exact w_c19
  · exact w_c20
  · exact w_c21
  · exact w_c22
  · exact w_c23
  · exact w_c24
  · exact w_c25
  · exact w_c26
  · exact w_c27
  · exact w_c28
  · exact w_c29
set_option maxRecDepth 65536 in
theorem w_t1 : (words1.take 24).all (fun c => isCode c || c.before args0 about1) = true := by decide +kernel
set_option maxRecDepth 65536 in
theorem w_t2 : ((words1.drop 24).take 24).all (fun c => isCode c || c.before args0 about1) = true := by decide +kernel
set_option maxRecDepth 65536 in
theorem w_t3 : (((words1.drop 24).drop 24).take 24).all (fun c => isCode c || c.before args0 about1) = true := by decide +kernel
set_option maxRecDepth 65536 in
theorem w_t4 : ((((words1.drop 24).drop 24).drop 24).take 24).all (fun c => isCode c || c.before args0 about1) = true := by decide +kernel
set_option maxRecDepth 65536 in
theorem w_t5 : (((((words1.drop 24).drop 24).drop 24).drop 24).take 24).all (fun c => isCode c || c.before args0 about1) = true := by decide +kernel
set_option maxRecDepth 65536 in
theorem w_t6 : ((((((words1.drop 24).drop 24).drop 24).drop 24).drop 24).take 24).all (fun c => isCode c || c.before args0 about1) = true := by decide +kernel
set_option maxRecDepth 65536 in
theorem w_t7 : (((((((words1.drop 24).drop 24).drop 24).drop 24).drop 24).drop 24).take 24).all (fun c => isCode c || c.before args0 about1) = true := by decide +kernel
set_option maxRecDepth 65536 in
theorem w_t8 : ((((((((words1.drop 24).drop 24).drop 24).drop 24).drop 24).drop 24).drop 24).take 24).all (fun c => isCode c || c.before args0 about1) = true := by decide +kernel
set_option maxRecDepth 65536 in
theorem w_t9 : (((((((((words1.drop 24).drop 24).drop 24).drop 24).drop 24).drop 24).drop 24).drop 24).take 24).all (fun c => isCode c || c.before args0 about1) = true := by decide +kernel
set_option maxRecDepth 65536 in
theorem w_t10 : (((((((((words1.drop 24).drop 24).drop 24).drop 24).drop 24).drop 24).drop 24).drop 24).drop 24).all (fun c => isCode c || c.before args0 about1) = true := by decide +kernel
theorem w_tables : (allAtoms (Jvm.Cond.code x code maxLocals ret :: tables_1)).before args0 about1 = true := by
  rw [allAtoms_all]
  show words1.all (fun c => c.before args0 about1) = true
  refine all_split ?_ w_codes
  rw [← List.take_append_drop 24 words1, List.all_append, w_t1, ← List.take_append_drop 24 (words1.drop 24), List.all_append, w_t2, ← List.take_append_drop 24 ((words1.drop 24).drop 24), List.all_append, w_t3, ← List.take_append_drop 24 (((words1.drop 24).drop 24).drop 24), List.all_append, w_t4, ← List.take_append_drop 24 ((((words1.drop 24).drop 24).drop 24).drop 24), List.all_append, w_t5, ← List.take_append_drop 24 (((((words1.drop 24).drop 24).drop 24).drop 24).drop 24), List.all_append, w_t6, ← List.take_append_drop 24 ((((((words1.drop 24).drop 24).drop 24).drop 24).drop 24).drop 24), List.all_append, w_t7, ← List.take_append_drop 24 (((((((words1.drop 24).drop 24).drop 24).drop 24).drop 24).drop 24).drop 24), List.all_append, w_t8, ← List.take_append_drop 24 ((((((((words1.drop 24).drop 24).drop 24).drop 24).drop 24).drop 24).drop 24).drop 24), List.all_append, w_t9, w_t10]
  rfl
set_option maxRecDepth 65536 in
theorem w_rest : rest_1_c.before args0 about1 = true := by decide +kernel
set_option maxRecDepth 65536 in
theorem w_case : (Jvm.Cond.and given_1 narrow_1).before args0 about1 = true := by decide +kernel
theorem w_applies : (headSpec (Jvm.Cond.code x code maxLocals ret :: tables_1) room_1).applies x e0.platform about1 = true :=
  (Spec.applies_iff w_frames).mpr ⟨w_running, w_runnable, w_alone, w_named, w_hears, w_ripe, w_room, w_tables⟩
theorem atStart : AtStart classFile x code maxLocals ret World_1 tables_1 room_1 Calls_1 rest_1 Pre_1 launch0 p0 e0 about1 theMethod args0 below0 :=
  ⟨lists_1, trivial, launch0.admits_env _ _ _, launch0.least_env, fairChoices_fair.cas, fairChoices_fair.clock, w_frames, w_args, w_heap, w_applies, trivial, w_rest, w_case⟩
end start1
theorem witness_1 : WitnessClaimed_1 := ⟨start1.p0, start1.e0, start1.about1, start1.theMethod, start1.args0, start1.below0, start1.atStart⟩
end Jvm.Pilot.@@N@@
