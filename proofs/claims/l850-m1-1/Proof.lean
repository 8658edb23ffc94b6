import JvmDerived
import JvmDerived.Pilot.@@N@@Statement
import JvmDerived.Pilot.@@N@@Code
set_option linter.unusedVariables false
set_option linter.unusedSimpArgs false

namespace Jvm.RoadKit
open Sem ClassFile Op Lib Jvm.Stand Jvm.Free Jvm.LawKit
section New
variable {p : Program} {l : Launch} {e : Env} {R : Room} {s : State} {m : MethodId} {args : Array Value} {below : List Frame} {meth : Method} {c : Code} {T : State} {locs : List Loc} {cells slots : Nat}
theorem retI (X : Stand p l e R s m args below meth c T locs cells slots) (hx : p.tables.exec = Jvm.exec) {pc : Nat} {Ls : Array Slot} {z : Int32} {rest : List Value} (hret : meth.sig.returnType = some .int) (hd : decode c.code pc = .ok (.ireturn, 1)) {fs : List Frame}
    (hl : ∀ (f : JFrame) (acts : List Action), f.method = m → f.locked = none → f.entered = [] → (doReturn e (T.setTop f) acts (some (.int z))).1 = T.setFrames fs) : Steps p.tables e below (T.setTop (mkF m pc Ls (.int z :: rest))) (T.setFrames fs) := by
  exact retOut X hx hret rfl (Or.inl ⟨rfl, Or.inl rfl, _, rfl⟩) hd hl
end New
end Jvm.RoadKit
namespace Jvm.Pilot.@@N@@
open Jvm Jvm.ClassFile Sem Op Lib Jvm.Free Jvm.Stand Jvm.LawKit Jvm.RoadKit Bundle Jvm.Pilot.@@N@@.Jvm.D
theorem own_cpos {r : Int64} (h : ¬ ((r &&& (9223372036854775807 : Int64)) = (0 : Int64))) : (0 : Int) < (r &&& (9223372036854775807 : Int64)).toInt := by
  have e := c_maskL r 9223372036854775807 63 (by decide) (by decide)
  have h' : ¬ (r &&& (9223372036854775807 : Int64)).toInt = 0 := fun q => h (Int64.toInt_inj.mp q)
  omega
theorem own_mul (p : Int64) {c : Int64} (hc : (0 : Int) < c.toInt) : 0 ≤ ((p &&& (9223372036854775807 : Int64)) / c * c).toInt ∧ c.toInt ∣ ((p &&& (9223372036854775807 : Int64)) / c * c).toInt := by
  have e := c_maskL p 9223372036854775807 63 (by decide) (by decide)
  have e0 : 0 ≤ (p &&& (9223372036854775807 : Int64)).toInt := by omega
  have hn : c ≠ -1 := fun q => by rw [q] at hc; revert hc; decide
  have e1 := (c_ldiv (p &&& (9223372036854775807 : Int64)) c c.toInt rfl hn).1 e0
  have hr := rng64 (p &&& (9223372036854775807 : Int64))
  generalize (p &&& (9223372036854775807 : Int64)) = x at *
  have e2 := c_lmul (x / c) c
  rw [e1] at e2
  have e3 : x.toInt / c.toInt * c.toInt ≤ x.toInt := Int.ediv_mul_le _ (by omega)
  have e4 : 0 ≤ x.toInt / c.toInt * c.toInt := Int.mul_nonneg (Int.ediv_nonneg e0 (by omega)) (by omega)
  have e5 := rng64 (x / c * c)
  have e6 : (x / c * c).toInt = x.toInt / c.toInt * c.toInt := by omega
  rw [e6]
  exact ⟨e4, Int.dvd_mul_left _ _⟩
theorem own_gpos {a b : Int} (h : ¬ a = 0 ∨ ¬ b = 0) : (0 : Int) < (Int.gcd a b : Int) := by
  have : 0 < Int.gcd a b := by
    rcases h with h | h
    · exact Int.gcd_pos_of_ne_zero_left _ h
    · exact Int.gcd_pos_of_ne_zero_right _ h
  omega
theorem own_g1 {a b c g : Int64} (A : 0 ≤ a.toInt ∧ c.toInt ∣ a.toInt) (B : 0 ≤ b.toInt ∧ c.toInt ∣ b.toInt) (hc : (0 : Int) < c.toInt) (hg : g.toInt = (Int.gcd a.toInt b.toInt : Int)) (hz : (¬ (a = (0 : Int64))) ∨ (¬ (b = (0 : Int64)))) : (0 : Int64) < g := by
  have hz' : ¬ a.toInt = 0 ∨ ¬ b.toInt = 0 := hz.imp (fun h q => h (Int64.toInt_inj.mp q)) (fun h q => h (Int64.toInt_inj.mp q))
  rw [Int64.lt_iff_toInt_lt, hg]; exact own_gpos hz'
theorem own_g0 {a b c g : Int64} (A : 0 ≤ a.toInt ∧ c.toInt ∣ a.toInt) (B : 0 ≤ b.toInt ∧ c.toInt ∣ b.toInt) (hc : (0 : Int) < c.toInt) (hg : g.toInt = (Int.gcd a.toInt b.toInt : Int)) (hz : (¬ (a = (0 : Int64))) ∨ (¬ (b = (0 : Int64)))) : ¬ (g = (0 : Int64)) := fun e => by
  have := own_g1 A B hc hg hz
  rw [e] at this; revert this; decide
theorem own_rem {a g : Int64} (ha : 0 ≤ a.toInt) (hd : g.toInt ∣ a.toInt) : a - (a / g) * g = (0 : Int64) := by
  apply Int64.toInt_inj.mp
  rw [(c_lrem a g g.toInt rfl).1 ha]
  exact Int.emod_eq_zero_of_dvd hd
theorem own_g2 {a b c g : Int64} (A : 0 ≤ a.toInt ∧ c.toInt ∣ a.toInt) (B : 0 ≤ b.toInt ∧ c.toInt ∣ b.toInt) (hc : (0 : Int) < c.toInt) (hg : g.toInt = (Int.gcd a.toInt b.toInt : Int)) (hz : (¬ (a = (0 : Int64))) ∨ (¬ (b = (0 : Int64)))) : a - (a / g) * g = (0 : Int64) := own_rem A.1 (by rw [hg]; exact Int.gcd_dvd_left _ _)
theorem own_g3 {a b c g : Int64} (A : 0 ≤ a.toInt ∧ c.toInt ∣ a.toInt) (B : 0 ≤ b.toInt ∧ c.toInt ∣ b.toInt) (hc : (0 : Int) < c.toInt) (hg : g.toInt = (Int.gcd a.toInt b.toInt : Int)) (hz : (¬ (a = (0 : Int64))) ∨ (¬ (b = (0 : Int64)))) : b - (b / g) * g = (0 : Int64) := own_rem B.1 (by rw [hg]; exact Int.gcd_dvd_right _ _)
theorem own_g4 {a b c g : Int64} (A : 0 ≤ a.toInt ∧ c.toInt ∣ a.toInt) (B : 0 ≤ b.toInt ∧ c.toInt ∣ b.toInt) (hc : (0 : Int) < c.toInt) (hg : g.toInt = (Int.gcd a.toInt b.toInt : Int)) (hz : (¬ (a = (0 : Int64))) ∨ (¬ (b = (0 : Int64)))) : g - (g / c) * c = (0 : Int64) := own_rem (by rw [hg]; omega) (by rw [hg]; exact Int.dvd_coe_gcd A.2 B.2)
theorem d1_0 : decode prog_21_method_6_code 0 = .ok (.lload_n 2, 1) := by decide +kernel
theorem d1_1 : decode prog_21_method_6_code 1 = .ok (.lconst 0, 1) := by decide +kernel
theorem d1_2 : decode prog_21_method_6_code 2 = .ok (.lcmp, 1) := by decide +kernel
theorem d1_3 : decode prog_21_method_6_code 3 = .ok (.ifCond .eq 16, 3) := by decide +kernel
theorem d1_6 : decode prog_21_method_6_code 6 = .ok (.lload_n 0, 1) := by decide +kernel
theorem d1_7 : decode prog_21_method_6_code 7 = .ok (.lload_n 2, 1) := by decide +kernel
theorem d1_8 : decode prog_21_method_6_code 8 = .ok (.lrem, 1) := by decide +kernel
theorem d1_9 : decode prog_21_method_6_code 9 = .ok (.lstore 4, 2) := by decide +kernel
theorem d1_11 : decode prog_21_method_6_code 11 = .ok (.lload_n 2, 1) := by decide +kernel
theorem d1_12 : decode prog_21_method_6_code 12 = .ok (.lstore_n 0, 1) := by decide +kernel
theorem d1_13 : decode prog_21_method_6_code 13 = .ok (.lload 4, 2) := by decide +kernel
theorem d1_15 : decode prog_21_method_6_code 15 = .ok (.lstore_n 2, 1) := by decide +kernel
theorem d1_16 : decode prog_21_method_6_code 16 = .ok (.goto (-16), 3) := by decide +kernel
set_option maxRecDepth 65536 in
set_option maxHeartbeats 40000000 in
theorem tn_turn_u {p : Program} {l : Launch} {e : Env} {R : Room} {s : State} {m : MethodId} {args : Array Value} {below : List Frame} {meth : Method} {c : Code} {T0 : State} {locs : List Loc} {cells slots : Nat} {Z : State} {a0 : Array Value} {h0 : Heap} (a : Int64) (b : Int64)
    (X0 : Stand p l e R s m args below meth c T0 locs cells slots) (hx : p.tables.exec = Jvm.exec) (hZ : Z.Warmed39 s.vm) (hw : ∀ d ∈ tables_1, d.before a0 Z = true) (hby : c.code = prog_21_method_6_code) (hml : c.maxLocals = 6) (hown : s.vm.findClass "com/example/entropic_join/entropicjoin/Fraction" = some m.cls) (e0 : T0.heap = h0) (hz : ¬ (b = (0 : Int64))) :
    ∃ (T' : State), Stand p l e R s m args below meth c T' locs cells slots ∧ T'.heap = h0 ∧ ∀ target, Steps p.tables e below (T'.setTop (mkF m 0 #[.val (.long b), .second, .val (.long (a - (a / b) * b)), .second, .val (.long (a - (a / b) * b)), .second] [])) target → Steps p.tables e below (T0.setTop (mkF m 0 #[.val (.long a), .second, .val (.long b), .second, .unset, .unset] [])) target := by
  refine ⟨T0, X0, e0, fun target kt => ?_⟩
  show Steps p.tables e below (T0.setTop (mkF m 0 #[.val (.long a), .second, .val (.long b), .second, .unset, .unset] [])) _
  refine XS.lloadN X0.here hx rfl (hb hby d1_0) rfl ?_
  show Steps p.tables e below (T0.setTop (mkF m 1 #[.val (.long a), .second, .val (.long b), .second, .unset, .unset] [(.long b)])) _
  refine XS.lconst X0.here hx rfl (hb hby d1_1) ?_
  show Steps p.tables e below (T0.setTop (mkF m 2 #[.val (.long a), .second, .val (.long b), .second, .unset, .unset] [(.long (0 : Int64)), (.long b)])) _
  refine XS.lcmp X0.here hx rfl (hb hby d1_2) rfl ?_
  show Steps p.tables e below (T0.setTop (mkF m 3 #[.val (.long a), .second, .val (.long b), .second, .unset, .unset] [(.int (lcmpW b (0 : Int64)))])) _
  refine XS.ifNo X0.here hx rfl (hb hby d1_3) rfl ((if0 _ _).trans (feq (fun q_ => hz ((lw_eq _ _).mp q_))).1) ?_
  show Steps p.tables e below (T0.setTop (mkF m 6 #[.val (.long a), .second, .val (.long b), .second, .unset, .unset] [])) _
  refine XS.lloadN X0.here hx rfl (hb hby d1_6) rfl ?_
  show Steps p.tables e below (T0.setTop (mkF m 7 #[.val (.long a), .second, .val (.long b), .second, .unset, .unset] [(.long a)])) _
  refine XS.lloadN X0.here hx rfl (hb hby d1_7) rfl ?_
  show Steps p.tables e below (T0.setTop (mkF m 8 #[.val (.long a), .second, .val (.long b), .second, .unset, .unset] [(.long b), (.long a)])) _
  refine XS.lrem X0.here hx rfl (hb hby d1_8) rfl hz ?_
  show Steps p.tables e below (T0.setTop (mkF m 9 #[.val (.long a), .second, .val (.long b), .second, .unset, .unset] [(.long (a - (a / b) * b))])) _
  refine XS.lstore X0.here hx rfl (hb hby d1_9) rfl (l' := #[.val (.long a), .second, .val (.long b), .second, .val (.long (a - (a / b) * b)), .second]) rfl ?_
  show Steps p.tables e below (T0.setTop (mkF m 11 #[.val (.long a), .second, .val (.long b), .second, .val (.long (a - (a / b) * b)), .second] [])) _
  refine XS.lloadN X0.here hx rfl (hb hby d1_11) rfl ?_
  show Steps p.tables e below (T0.setTop (mkF m 12 #[.val (.long a), .second, .val (.long b), .second, .val (.long (a - (a / b) * b)), .second] [(.long b)])) _
  refine XS.lstoreN X0.here hx rfl (hb hby d1_12) rfl (l' := #[.val (.long b), .second, .val (.long b), .second, .val (.long (a - (a / b) * b)), .second]) rfl ?_
  show Steps p.tables e below (T0.setTop (mkF m 13 #[.val (.long b), .second, .val (.long b), .second, .val (.long (a - (a / b) * b)), .second] [])) _
  refine XS.lload X0.here hx rfl (hb hby d1_13) rfl ?_
  show Steps p.tables e below (T0.setTop (mkF m 15 #[.val (.long b), .second, .val (.long b), .second, .val (.long (a - (a / b) * b)), .second] [(.long (a - (a / b) * b))])) _
  refine XS.lstoreN X0.here hx rfl (hb hby d1_15) rfl (l' := #[.val (.long b), .second, .val (.long (a - (a / b) * b)), .second, .val (.long (a - (a / b) * b)), .second]) rfl ?_
  show Steps p.tables e below (T0.setTop (mkF m 16 #[.val (.long b), .second, .val (.long (a - (a / b) * b)), .second, .val (.long (a - (a / b) * b)), .second] [])) _
  refine XS.goto X0.here hx rfl (pc0 := 16) (pc' := 0) rfl (hb hby d1_16) (by decide) (by decide) ?_
  exact kt
set_option maxRecDepth 65536 in
set_option maxHeartbeats 40000000 in
theorem tn_leave_u {p : Program} {l : Launch} {e : Env} {R : Room} {s : State} {m : MethodId} {args : Array Value} {below : List Frame} {meth : Method} {c : Code} {T0 : State} {locs : List Loc} {cells slots : Nat} {Z : State} {a0 : Array Value} {h0 : Heap} (a : Int64) (b : Int64)
    (X0 : Stand p l e R s m args below meth c T0 locs cells slots) (hx : p.tables.exec = Jvm.exec) (hZ : Z.Warmed39 s.vm) (hw : ∀ d ∈ tables_1, d.before a0 Z = true) (hby : c.code = prog_21_method_6_code) (hml : c.maxLocals = 6) (hown : s.vm.findClass "com/example/entropic_join/entropicjoin/Fraction" = some m.cls) (e0 : T0.heap = h0) (hz : b = (0 : Int64)) :
    ∃ (T' : State), Stand p l e R s m args below meth c T' locs cells slots ∧ T'.heap = h0 ∧ ∀ target, Steps p.tables e below (T'.setTop (mkF m 19 #[.val (.long a), .second, .val (.long b), .second, .unset, .unset] [])) target → Steps p.tables e below (T0.setTop (mkF m 0 #[.val (.long a), .second, .val (.long b), .second, .unset, .unset] [])) target := by
  refine ⟨T0, X0, e0, fun target kt => ?_⟩
  show Steps p.tables e below (T0.setTop (mkF m 0 #[.val (.long a), .second, .val (.long b), .second, .unset, .unset] [])) _
  refine XS.lloadN X0.here hx rfl (hb hby d1_0) rfl ?_
  show Steps p.tables e below (T0.setTop (mkF m 1 #[.val (.long a), .second, .val (.long b), .second, .unset, .unset] [(.long b)])) _
  refine XS.lconst X0.here hx rfl (hb hby d1_1) ?_
  show Steps p.tables e below (T0.setTop (mkF m 2 #[.val (.long a), .second, .val (.long b), .second, .unset, .unset] [(.long (0 : Int64)), (.long b)])) _
  refine XS.lcmp X0.here hx rfl (hb hby d1_2) rfl ?_
  show Steps p.tables e below (T0.setTop (mkF m 3 #[.val (.long a), .second, .val (.long b), .second, .unset, .unset] [(.int (lcmpW b (0 : Int64)))])) _
  refine XS.ifYes X0.here hx rfl (pc0 := 3) (pc' := 19) rfl (hb hby d1_3) rfl ((if0 _ _).trans (teq ((lw_eq _ _).mpr hz)).1) (by decide) (by decide) ?_
  exact kt
set_option maxRecDepth 65536 in
set_option maxHeartbeats 40000000 in
theorem tn_turn_v {p : Program} {l : Launch} {e : Env} {R : Room} {s : State} {m : MethodId} {args : Array Value} {below : List Frame} {meth : Method} {c : Code} {T0 : State} {locs : List Loc} {cells slots : Nat} {Z : State} {a0 : Array Value} {h0 : Heap} (a : Int64) (b : Int64) (r : Int64)
    (X0 : Stand p l e R s m args below meth c T0 locs cells slots) (hx : p.tables.exec = Jvm.exec) (hZ : Z.Warmed39 s.vm) (hw : ∀ d ∈ tables_1, d.before a0 Z = true) (hby : c.code = prog_21_method_6_code) (hml : c.maxLocals = 6) (hown : s.vm.findClass "com/example/entropic_join/entropicjoin/Fraction" = some m.cls) (e0 : T0.heap = h0) (hz : ¬ (b = (0 : Int64))) :
    ∃ (T' : State), Stand p l e R s m args below meth c T' locs cells slots ∧ T'.heap = h0 ∧ ∀ target, Steps p.tables e below (T'.setTop (mkF m 0 #[.val (.long b), .second, .val (.long (a - (a / b) * b)), .second, .val (.long (a - (a / b) * b)), .second] [])) target → Steps p.tables e below (T0.setTop (mkF m 0 #[.val (.long a), .second, .val (.long b), .second, .val (.long r), .second] [])) target := by
  refine ⟨T0, X0, e0, fun target kt => ?_⟩
  show Steps p.tables e below (T0.setTop (mkF m 0 #[.val (.long a), .second, .val (.long b), .second, .val (.long r), .second] [])) _
  refine XS.lloadN X0.here hx rfl (hb hby d1_0) rfl ?_
  show Steps p.tables e below (T0.setTop (mkF m 1 #[.val (.long a), .second, .val (.long b), .second, .val (.long r), .second] [(.long b)])) _
  refine XS.lconst X0.here hx rfl (hb hby d1_1) ?_
  show Steps p.tables e below (T0.setTop (mkF m 2 #[.val (.long a), .second, .val (.long b), .second, .val (.long r), .second] [(.long (0 : Int64)), (.long b)])) _
  refine XS.lcmp X0.here hx rfl (hb hby d1_2) rfl ?_
  show Steps p.tables e below (T0.setTop (mkF m 3 #[.val (.long a), .second, .val (.long b), .second, .val (.long r), .second] [(.int (lcmpW b (0 : Int64)))])) _
  refine XS.ifNo X0.here hx rfl (hb hby d1_3) rfl ((if0 _ _).trans (feq (fun q_ => hz ((lw_eq _ _).mp q_))).1) ?_
  show Steps p.tables e below (T0.setTop (mkF m 6 #[.val (.long a), .second, .val (.long b), .second, .val (.long r), .second] [])) _
  refine XS.lloadN X0.here hx rfl (hb hby d1_6) rfl ?_
  show Steps p.tables e below (T0.setTop (mkF m 7 #[.val (.long a), .second, .val (.long b), .second, .val (.long r), .second] [(.long a)])) _
  refine XS.lloadN X0.here hx rfl (hb hby d1_7) rfl ?_
  show Steps p.tables e below (T0.setTop (mkF m 8 #[.val (.long a), .second, .val (.long b), .second, .val (.long r), .second] [(.long b), (.long a)])) _
  refine XS.lrem X0.here hx rfl (hb hby d1_8) rfl hz ?_
  show Steps p.tables e below (T0.setTop (mkF m 9 #[.val (.long a), .second, .val (.long b), .second, .val (.long r), .second] [(.long (a - (a / b) * b))])) _
  refine XS.lstore X0.here hx rfl (hb hby d1_9) rfl (l' := #[.val (.long a), .second, .val (.long b), .second, .val (.long (a - (a / b) * b)), .second]) rfl ?_
  show Steps p.tables e below (T0.setTop (mkF m 11 #[.val (.long a), .second, .val (.long b), .second, .val (.long (a - (a / b) * b)), .second] [])) _
  refine XS.lloadN X0.here hx rfl (hb hby d1_11) rfl ?_
  show Steps p.tables e below (T0.setTop (mkF m 12 #[.val (.long a), .second, .val (.long b), .second, .val (.long (a - (a / b) * b)), .second] [(.long b)])) _
  refine XS.lstoreN X0.here hx rfl (hb hby d1_12) rfl (l' := #[.val (.long b), .second, .val (.long b), .second, .val (.long (a - (a / b) * b)), .second]) rfl ?_
  show Steps p.tables e below (T0.setTop (mkF m 13 #[.val (.long b), .second, .val (.long b), .second, .val (.long (a - (a / b) * b)), .second] [])) _
  refine XS.lload X0.here hx rfl (hb hby d1_13) rfl ?_
  show Steps p.tables e below (T0.setTop (mkF m 15 #[.val (.long b), .second, .val (.long b), .second, .val (.long (a - (a / b) * b)), .second] [(.long (a - (a / b) * b))])) _
  refine XS.lstoreN X0.here hx rfl (hb hby d1_15) rfl (l' := #[.val (.long b), .second, .val (.long (a - (a / b) * b)), .second, .val (.long (a - (a / b) * b)), .second]) rfl ?_
  show Steps p.tables e below (T0.setTop (mkF m 16 #[.val (.long b), .second, .val (.long (a - (a / b) * b)), .second, .val (.long (a - (a / b) * b)), .second] [])) _
  refine XS.goto X0.here hx rfl (pc0 := 16) (pc' := 0) rfl (hb hby d1_16) (by decide) (by decide) ?_
  exact kt
set_option maxRecDepth 65536 in
set_option maxHeartbeats 40000000 in
theorem tn_leave_v {p : Program} {l : Launch} {e : Env} {R : Room} {s : State} {m : MethodId} {args : Array Value} {below : List Frame} {meth : Method} {c : Code} {T0 : State} {locs : List Loc} {cells slots : Nat} {Z : State} {a0 : Array Value} {h0 : Heap} (a : Int64) (b : Int64) (r : Int64)
    (X0 : Stand p l e R s m args below meth c T0 locs cells slots) (hx : p.tables.exec = Jvm.exec) (hZ : Z.Warmed39 s.vm) (hw : ∀ d ∈ tables_1, d.before a0 Z = true) (hby : c.code = prog_21_method_6_code) (hml : c.maxLocals = 6) (hown : s.vm.findClass "com/example/entropic_join/entropicjoin/Fraction" = some m.cls) (e0 : T0.heap = h0) (hz : b = (0 : Int64)) :
    ∃ (T' : State), Stand p l e R s m args below meth c T' locs cells slots ∧ T'.heap = h0 ∧ ∀ target, Steps p.tables e below (T'.setTop (mkF m 19 #[.val (.long a), .second, .val (.long b), .second, .val (.long r), .second] [])) target → Steps p.tables e below (T0.setTop (mkF m 0 #[.val (.long a), .second, .val (.long b), .second, .val (.long r), .second] [])) target := by
  refine ⟨T0, X0, e0, fun target kt => ?_⟩
  show Steps p.tables e below (T0.setTop (mkF m 0 #[.val (.long a), .second, .val (.long b), .second, .val (.long r), .second] [])) _
  refine XS.lloadN X0.here hx rfl (hb hby d1_0) rfl ?_
  show Steps p.tables e below (T0.setTop (mkF m 1 #[.val (.long a), .second, .val (.long b), .second, .val (.long r), .second] [(.long b)])) _
  refine XS.lconst X0.here hx rfl (hb hby d1_1) ?_
  show Steps p.tables e below (T0.setTop (mkF m 2 #[.val (.long a), .second, .val (.long b), .second, .val (.long r), .second] [(.long (0 : Int64)), (.long b)])) _
  refine XS.lcmp X0.here hx rfl (hb hby d1_2) rfl ?_
  show Steps p.tables e below (T0.setTop (mkF m 3 #[.val (.long a), .second, .val (.long b), .second, .val (.long r), .second] [(.int (lcmpW b (0 : Int64)))])) _
  refine XS.ifYes X0.here hx rfl (pc0 := 3) (pc' := 19) rfl (hb hby d1_3) rfl ((if0 _ _).trans (teq ((lw_eq _ _).mpr hz)).1) (by decide) (by decide) ?_
  exact kt

theorem own_neg {x : Int64} (h : ¬ x.toInt = 0) : ¬ (x = (0 : Int64)) := fun e => h (by rw [e]; rfl)
theorem own_step {a b : Int64} (ha : 0 ≤ a.toInt) (hb : 0 ≤ b.toInt) (h : ¬ (b = (0 : Int64))) : 0 < b.toInt ∧ (a - (a / b) * b).toInt = a.toInt % b.toInt ∧ 0 ≤ a.toInt % b.toInt ∧ a.toInt % b.toInt < b.toInt := by
  have h0 : b.toInt ≠ 0 := fun e => h (Int64.toInt_inj.mp e)
  have hp : 0 < b.toInt := by omega
  refine ⟨hp, (c_lrem a b b.toInt rfl).1 ha, Int.emod_nonneg _ h0, Int.emod_lt_of_pos _ hp⟩
theorem own_gcd {a b : Int} (ha : 0 ≤ a) (hb : 0 < b) : Int.gcd b (a % b) = Int.gcd a b := by
  have h1 := Int.toNat_of_nonneg ha
  have h2 := Int.toNat_of_nonneg (Int.le_of_lt hb)
  rw [← h1, ← h2, ← Int.natCast_emod, Int.gcd_natCast_natCast, Int.gcd_natCast_natCast, Nat.gcd_comm, ← Nat.gcd_rec, Nat.gcd_comm]
theorem loopG {p : Program} {l : Launch} {e : Env} {R : Room} {s : State} {m : MethodId} {args : Array Value} {below : List Frame} {meth : Method} {c : Code} {locs : List Loc} {cells slots : Nat} {Z : State} {a0 : Array Value} {h0 : Heap} (hx : p.tables.exec = Jvm.exec) (hZ : Z.Warmed39 s.vm) (hw : ∀ d ∈ tables_1, d.before a0 Z = true) (hby : c.code = prog_21_method_6_code) (hml : c.maxLocals = 6) (hown : s.vm.findClass "com/example/entropic_join/entropicjoin/Fraction" = some m.cls) :
    ∀ (k : Nat) (a b : Int64) (r : Int64) (T0 : State), b.toInt.toNat < k → 0 ≤ a.toInt → 0 ≤ b.toInt → Stand p l e R s m args below meth c T0 locs cells slots → T0.heap = h0 →
      ∃ (T' : State) (g r' : Int64), g.toInt = (Int.gcd a.toInt b.toInt : Int) ∧ Stand p l e R s m args below meth c T' locs cells slots ∧ T'.heap = h0 ∧
        ∀ target, Steps p.tables e below (T'.setTop (mkF m 19 #[.val (.long g), .second, .val (.long (0 : Int64)), .second, .val (.long r'), .second] [])) target → Steps p.tables e below (T0.setTop (mkF m 0 #[.val (.long a), .second, .val (.long b), .second, .val (.long r), .second] [])) target := by
  intro k
  induction k with
  | zero => intro a b r T0 hk; omega
  | succ k ih =>
    intro a b r T0 hk ha hb X0 e0
    by_cases hz : b = (0 : Int64)
    · obtain ⟨T1, X1, e1, st1⟩ := tn_leave_v a b r X0 hx hZ hw hby hml hown e0 hz
      subst hz
      refine ⟨T1, a, r, ?_, X1, e1, st1⟩
      have : (0 : Int64).toInt = 0 := rfl
      rw [this, Int.gcd_zero_right]; omega
    · obtain ⟨h1, h2, h3, h4⟩ := own_step ha hb hz
      obtain ⟨T1, X1, e1, st1⟩ := tn_turn_v a b r X0 hx hZ hw hby hml hown e0 hz
      obtain ⟨T', g, r', hg, X', e', st⟩ := ih b (a - (a / b) * b) (a - (a / b) * b) T1 (by rw [h2]; omega) hb (by rw [h2]; exact h3) X1 e1
      refine ⟨T', g, r', ?_, X', e', fun target h => st1 target (st target h)⟩
      rw [hg, h2, own_gcd ha h1]
theorem loopG0 {p : Program} {l : Launch} {e : Env} {R : Room} {s : State} {m : MethodId} {args : Array Value} {below : List Frame} {meth : Method} {c : Code} {locs : List Loc} {cells slots : Nat} {Z : State} {a0 : Array Value} {h0 : Heap} (hx : p.tables.exec = Jvm.exec) (hZ : Z.Warmed39 s.vm) (hw : ∀ d ∈ tables_1, d.before a0 Z = true) (hby : c.code = prog_21_method_6_code) (hml : c.maxLocals = 6) (hown : s.vm.findClass "com/example/entropic_join/entropicjoin/Fraction" = some m.cls) (a b : Int64) (T0 : State) (ha : 0 ≤ a.toInt) (hb : 0 ≤ b.toInt) (X0 : Stand p l e R s m args below meth c T0 locs cells slots) (e0 : T0.heap = h0) :
      ∃ (T' : State) (g : Int64) (s1 s2 s3 s4 : Slot), g.toInt = (Int.gcd a.toInt b.toInt : Int) ∧ Stand p l e R s m args below meth c T' locs cells slots ∧ T'.heap = h0 ∧
        ∀ target, Steps p.tables e below (T'.setTop (mkF m 19 #[.val (.long g), .second, s1, s2, s3, s4] [])) target → Steps p.tables e below (T0.setTop (mkF m 0 #[.val (.long a), .second, .val (.long b), .second, .unset, .unset] [])) target := by
  by_cases hz : b = (0 : Int64)
  · obtain ⟨T1, X1, e1, st1⟩ := tn_leave_u a b X0 hx hZ hw hby hml hown e0 hz
    subst hz
    refine ⟨T1, a, _, _, _, _, ?_, X1, e1, st1⟩
    have : (0 : Int64).toInt = 0 := rfl
    rw [this, Int.gcd_zero_right]; omega
  · obtain ⟨h1, h2, h3, h4⟩ := own_step ha hb hz
    obtain ⟨T1, X1, e1, st1⟩ := tn_turn_u a b X0 hx hZ hw hby hml hown e0 hz
    obtain ⟨T', g, r', hg, X', e', st⟩ := loopG hx hZ hw hby hml hown _ b (a - (a / b) * b) (a - (a / b) * b) T1 (Nat.lt_succ_self _) hb (by rw [h2]; exact h3) X1 e1
    refine ⟨T', g, _, _, _, _, ?_, X', e', fun target h => st1 target (st target h)⟩
    rw [hg, h2, own_gcd ha h1]

theorem d1_19 : decode prog_21_method_6_code 19 = .ok (.lload_n 0, 1) := by decide +kernel
theorem d1_20 : decode prog_21_method_6_code 20 = .ok (.lreturn, 1) := by decide +kernel
theorem pn_com_example_entropic_join_entropicjoin_Fraction : plainName "com/example/entropic_join/entropicjoin/Fraction" = true := by first | (simp [plainName, overriddenIn]; done) | decide +kernel
theorem ef_rm_g (m : MethodId) (x0 : Int64) (x1 : Int64) : entryFrame m #[(.long x0), (.long x1)] 6 = mkF m 0 #[.val (.long x0), .second, .val (.long x1), .second, .unset, .unset] [] := by first | (simp [entryFrame, mkF, argsToLocals, Value.category]; done) | rfl
def Q_rm_g (Z : State) (q1 : Int64) (q2 : Int64) (h0 : Heap) (n0 : Nat) (v : Option Value) (h : Heap) (L : List Loc) : Prop := ∃ g : Int64, v = some (.long g) ∧ Fr n0 L ∧ h = h0 ∧ (g.toInt = (Int.gcd q1.toInt q2.toInt : Int))
set_option maxRecDepth 65536 in
set_option maxHeartbeats 40000000 in
theorem rm_g (l : Launch) (Z : State) (a0 : Array Value) (hw : ∀ d ∈ tables_1, d.before a0 Z = true) (ws : List Jvm.Cond) (q1 : Int64) (q2 : Int64) (h0 : Heap) (n0 : Nat) (Z0 : n0 ≤ h0.size) (ha_ : 0 ≤ q1.toInt) (hb_ : 0 ≤ q2.toInt) :
    MetFree l (⟨"com/example/entropic_join/entropicjoin/Fraction", "gcd", "(JJ)J"⟩ : MethodName) (head1 (Jvm.Cond.code (⟨"com/example/entropic_join/entropicjoin/Fraction", "gcd", "(JJ)J"⟩ : MethodName) prog_21_method_6_code 6 (some .long) :: ws) ({ frames := 0, cells := 0, slots := 0, locals := 0 } : Room)) (fun a U => a = #[(.long q1), (.long q2)] ∧ Z.Warmed39 U.vm ∧ U.heap = h0) (fun _ _ _ _ _ => True) (fun _ U o U' => ∃ v L, o = .returned v ∧ Q_rm_g Z q1 q2 h0 n0 v U'.heap L ∧ FrameEnd U o U' L ({ frames := 0, cells := 0, slots := 0, locals := 0 } : Room).cells ({ frames := 0, cells := 0, slots := 0, locals := 0 } : Room).slots) := by
  refine MetFree.of_bodySF (plainFor_of_name pn_com_example_entropic_join_entropicjoin_Fraction) hisR ?_
  intro p e s m args below meth c s₁ Bd hml0 hP hK
  obtain ⟨rfl, hZ, hh⟩ := hP
  have hx := Bd.exec
  have hby := Bd.bytes
  have hml : c.maxLocals = 6 := hml0
  have hown : s.vm.findClass "com/example/entropic_join/entropicjoin/Fraction" = some m.cls := findClass_of_methodNamed Bd.named
  have hnm := (name_of_methodNamed Bd.named Bd.method).1
  have X0 : Stand p l e ({ frames := 0, cells := 0, slots := 0, locals := 0 } : Room) s m #[(.long q1), (.long q2)] below meth c s₁ [] 0 0 := Stand.of_body Bd
  have e0 : s₁.heap = h0 := by rw [← hh, Bd.state]; rfl
  have N0 := Fr.nil n0
  have pre0 : ∀ t, Steps p.tables e below (s₁.setTop (mkF m 0 #[.val (.long q1), .second, .val (.long q2), .second, .unset, .unset] [])) t → Steps p.tables e below (s₁.setTop (entryFrame m #[(.long q1), (.long q2)] 6)) t := fun t k => castTop (ef_rm_g m q1 q2) k
  obtain ⟨T1, g, s1, s2, s3, s4, hgg, X1, e1, st1⟩ := loopG0 hx hZ hw hby hml hown q1 q2 _ ha_ hb_ X0 e0
  obtain ⟨fs, hr, hrun, hended, hW, hsame⟩ := X1.leave (v := some (.long g)) (fun h => by rw [Bd.returns] at h; cases h)
  refine ⟨_, _, pre0 _ ?_, hrun, hended, _, _, rfl, ?_, ⟨_, rfl⟩, hW, hsame.mono (by decide) (by decide)⟩
  · show Steps p.tables e below (s₁.setTop (mkF m 0 #[.val (.long q1), .second, .val (.long q2), .second, .unset, .unset] [])) _
    refine st1 _ ?_
    show Steps p.tables e below (T1.setTop (mkF m 19 #[.val (.long g), .second, s1, s2, s3, s4] [])) _
    refine XS.lloadN X1.here hx rfl (hb hby d1_19) rfl ?_
    show Steps p.tables e below (T1.setTop (mkF m 20 #[.val (.long g), .second, s1, s2, s3, s4] [(.long g)])) _
    exact retOut X1 hx Bd.returns rfl (Or.inr (Or.inl ⟨rfl, rfl, _, rfl⟩)) (hb hby d1_20) hr
  · show Q_rm_g Z q1 q2 h0 n0 _ T1.heap _
    rw [e1]
    exact ⟨g, rfl, N0, rfl, hgg⟩
theorem pd__40JJ_41J : parseMethodDescriptor "(JJ)J" = some ⟨[.long, .long], some .long⟩ := by decide +kernel
theorem pn_com_example_entropic_join_entropicjoin_FractionGcdPinLaw : plainName "com/example/entropic_join/entropicjoin/FractionGcdPinLaw" = true := by first | (simp [plainName, overriddenIn]; done) | decide +kernel
theorem ef_rm0 (m : MethodId) (x0 : Int64) (x1 : Int64) (x2 : Int64) : entryFrame m #[(.long x0), (.long x1), (.long x2)] maxLocals = mkF m 0 #[.val (.long x0), .second, .val (.long x1), .second, .val (.long x2), .second, .unset, .unset, .unset, .unset, .unset, .unset, .unset, .unset] [] := by first | (simp [entryFrame, mkF, argsToLocals, Value.category, maxLocals]; done) | rfl
def Q_rm0 (Z : State) (p1 : Int64) (p2 : Int64) (p3 : Int64) (h0 : Heap) (n0 : Nat) (v : Option Value) (h : Heap) (L : List Loc) : Prop := v = some (.int (1 : Int32)) ∧ Fr n0 L
set_option maxRecDepth 65536 in
set_option maxHeartbeats 40000000 in
theorem rm0 (l : Launch) (Z : State) (a0 : Array Value) (hw : ∀ d ∈ tables_1, d.before a0 Z = true) (ws : List Jvm.Cond) (p1 : Int64) (p2 : Int64) (p3 : Int64) (h0 : Heap) (n0 : Nat) (Z0 : n0 ≤ h0.size) :
    MetFree l x (head1 (Jvm.Cond.code x code maxLocals ret :: ws) room_1) (fun a U => a = #[(.long p1), (.long p2), (.long p3)] ∧ Z.Warmed39 U.vm ∧ U.heap = h0) (fun _ _ _ _ _ => True) (fun _ U o U' => ∃ v L, o = .returned v ∧ Q_rm0 Z p1 p2 p3 h0 n0 v U'.heap L ∧ FrameEnd U o U' L room_1.cells room_1.slots) := by
  refine MetFree.of_bodySF (plainFor_of_name pn_com_example_entropic_join_entropicjoin_FractionGcdPinLaw) hisR ?_
  intro p e s m args below meth c s₁ Bd hml0 hP hK
  obtain ⟨rfl, hZ, hh⟩ := hP
  have hx := Bd.exec
  have hby := Bd.bytes
  have hml : c.maxLocals = 14 := hml0
  have hown : s.vm.findClass "com/example/entropic_join/entropicjoin/FractionGcdPinLaw" = some m.cls := findClass_of_methodNamed Bd.named
  have hnm := (name_of_methodNamed Bd.named Bd.method).1
  have X0 : Stand p l e room_1 s m #[(.long p1), (.long p2), (.long p3)] below meth c s₁ [] 0 0 := Stand.of_body Bd
  have e0 : s₁.heap = h0 := by rw [← hh, Bd.state]; rfl
  have N0 := Fr.nil n0
  have pre0 : ∀ t, Steps p.tables e below (s₁.setTop (mkF m 0 #[.val (.long p1), .second, .val (.long p2), .second, .val (.long p3), .second, .unset, .unset, .unset, .unset, .unset, .unset, .unset, .unset] [])) t → Steps p.tables e below (s₁.setTop (entryFrame m #[(.long p1), (.long p2), (.long p3)] maxLocals)) t := fun t k => castTop (ef_rm0 m p1 p2 p3) k
  by_cases hc1 : (p3 &&& (9223372036854775807 : Int64)) = (0 : Int64)
  · by_cases hc2 : (((p1 &&& (9223372036854775807 : Int64)) / (1 : Int64)) * (1 : Int64)) = (0 : Int64)
    · by_cases hc3 : (((p2 &&& (9223372036854775807 : Int64)) / (1 : Int64)) * (1 : Int64)) = (0 : Int64)
      · obtain ⟨fs, hr, hrun, hended, hW, hsame⟩ := X0.leave (v := some (.int (1 : Int32))) (fun h => by rw [Bd.returns] at h; cases h)
        refine ⟨_, _, pre0 _ ?_, hrun, hended, _, _, rfl, ?_, ⟨_, rfl⟩, hW, hsame.mono (by decide) (by decide)⟩
        · show Steps p.tables e below (s₁.setTop (mkF m 0 #[.val (.long p1), .second, .val (.long p2), .second, .val (.long p3), .second, .unset, .unset, .unset, .unset, .unset, .unset, .unset, .unset] [])) _
          refine XS.lload X0.here hx rfl (hb hby at_0) rfl ?_
          show Steps p.tables e below (s₁.setTop (mkF m 2 #[.val (.long p1), .second, .val (.long p2), .second, .val (.long p3), .second, .unset, .unset, .unset, .unset, .unset, .unset, .unset, .unset] [(.long p3)])) _
          refine X0.ldc2Long hx hown (mvT hZ (hw _ (List.mem_of_getElem? (i := 0) rfl))) (g := (mkF m 2 #[.val (.long p1), .second, .val (.long p2), .second, .val (.long p3), .second, .unset, .unset, .unset, .unset, .unset, .unset, .unset, .unset] [(.long p3)])) rfl (hb hby at_2) _ ?_
          show Steps p.tables e below (s₁.setTop (mkF m 5 #[.val (.long p1), .second, .val (.long p2), .second, .val (.long p3), .second, .unset, .unset, .unset, .unset, .unset, .unset, .unset, .unset] [(.long (9223372036854775807 : Int64)), (.long p3)])) _
          refine XS.land X0.here hx rfl (hb hby at_5) rfl ?_
          show Steps p.tables e below (s₁.setTop (mkF m 6 #[.val (.long p1), .second, .val (.long p2), .second, .val (.long p3), .second, .unset, .unset, .unset, .unset, .unset, .unset, .unset, .unset] [(.long (p3 &&& (9223372036854775807 : Int64)))])) _
          refine XS.lstore X0.here hx rfl (hb hby at_6) rfl (l' := #[.val (.long p1), .second, .val (.long p2), .second, .val (.long p3), .second, .val (.long (p3 &&& (9223372036854775807 : Int64))), .second, .unset, .unset, .unset, .unset, .unset, .unset]) rfl ?_
          show Steps p.tables e below (s₁.setTop (mkF m 8 #[.val (.long p1), .second, .val (.long p2), .second, .val (.long p3), .second, .val (.long (p3 &&& (9223372036854775807 : Int64))), .second, .unset, .unset, .unset, .unset, .unset, .unset] [])) _
          refine XS.lload X0.here hx rfl (hb hby at_8) rfl ?_
          show Steps p.tables e below (s₁.setTop (mkF m 10 #[.val (.long p1), .second, .val (.long p2), .second, .val (.long p3), .second, .val (.long (p3 &&& (9223372036854775807 : Int64))), .second, .unset, .unset, .unset, .unset, .unset, .unset] [(.long (p3 &&& (9223372036854775807 : Int64)))])) _
          refine XS.lconst X0.here hx rfl (hb hby at_10) ?_
          show Steps p.tables e below (s₁.setTop (mkF m 11 #[.val (.long p1), .second, .val (.long p2), .second, .val (.long p3), .second, .val (.long (p3 &&& (9223372036854775807 : Int64))), .second, .unset, .unset, .unset, .unset, .unset, .unset] [(.long (0 : Int64)), (.long (p3 &&& (9223372036854775807 : Int64)))])) _
          refine XS.lcmp X0.here hx rfl (hb hby at_11) rfl ?_
          show Steps p.tables e below (s₁.setTop (mkF m 12 #[.val (.long p1), .second, .val (.long p2), .second, .val (.long p3), .second, .val (.long (p3 &&& (9223372036854775807 : Int64))), .second, .unset, .unset, .unset, .unset, .unset, .unset] [(.int (lcmpW (p3 &&& (9223372036854775807 : Int64)) (0 : Int64)))])) _
          refine XS.ifNo X0.here hx rfl (hb hby at_12) rfl ((if0 _ _).trans (teq ((lw_eq _ _).mpr hc1)).2) ?_
          show Steps p.tables e below (s₁.setTop (mkF m 15 #[.val (.long p1), .second, .val (.long p2), .second, .val (.long p3), .second, .val (.long (p3 &&& (9223372036854775807 : Int64))), .second, .unset, .unset, .unset, .unset, .unset, .unset] [])) _
          refine XS.lconst X0.here hx rfl (hb hby at_15) ?_
          show Steps p.tables e below (s₁.setTop (mkF m 16 #[.val (.long p1), .second, .val (.long p2), .second, .val (.long p3), .second, .val (.long (p3 &&& (9223372036854775807 : Int64))), .second, .unset, .unset, .unset, .unset, .unset, .unset] [(.long (1 : Int64))])) _
          refine XS.lstore X0.here hx rfl (hb hby at_16) rfl (l' := #[.val (.long p1), .second, .val (.long p2), .second, .val (.long p3), .second, .val (.long (1 : Int64)), .second, .unset, .unset, .unset, .unset, .unset, .unset]) rfl ?_
          show Steps p.tables e below (s₁.setTop (mkF m 18 #[.val (.long p1), .second, .val (.long p2), .second, .val (.long p3), .second, .val (.long (1 : Int64)), .second, .unset, .unset, .unset, .unset, .unset, .unset] [])) _
          refine XS.lloadN X0.here hx rfl (hb hby at_18) rfl ?_
          show Steps p.tables e below (s₁.setTop (mkF m 19 #[.val (.long p1), .second, .val (.long p2), .second, .val (.long p3), .second, .val (.long (1 : Int64)), .second, .unset, .unset, .unset, .unset, .unset, .unset] [(.long p1)])) _
          refine X0.ldc2Long hx hown (mvT hZ (hw _ (List.mem_of_getElem? (i := 0) rfl))) (g := (mkF m 19 #[.val (.long p1), .second, .val (.long p2), .second, .val (.long p3), .second, .val (.long (1 : Int64)), .second, .unset, .unset, .unset, .unset, .unset, .unset] [(.long p1)])) rfl (hb hby at_19) _ ?_
          show Steps p.tables e below (s₁.setTop (mkF m 22 #[.val (.long p1), .second, .val (.long p2), .second, .val (.long p3), .second, .val (.long (1 : Int64)), .second, .unset, .unset, .unset, .unset, .unset, .unset] [(.long (9223372036854775807 : Int64)), (.long p1)])) _
          refine XS.land X0.here hx rfl (hb hby at_22) rfl ?_
          show Steps p.tables e below (s₁.setTop (mkF m 23 #[.val (.long p1), .second, .val (.long p2), .second, .val (.long p3), .second, .val (.long (1 : Int64)), .second, .unset, .unset, .unset, .unset, .unset, .unset] [(.long (p1 &&& (9223372036854775807 : Int64)))])) _
          refine XS.lload X0.here hx rfl (hb hby at_23) rfl ?_
          show Steps p.tables e below (s₁.setTop (mkF m 25 #[.val (.long p1), .second, .val (.long p2), .second, .val (.long p3), .second, .val (.long (1 : Int64)), .second, .unset, .unset, .unset, .unset, .unset, .unset] [(.long (1 : Int64)), (.long (p1 &&& (9223372036854775807 : Int64)))])) _
          refine XS.ldiv X0.here hx rfl (hb hby at_25) rfl (by decide : ¬ ((1 : Int64) = (0 : Int64))) ?_
          show Steps p.tables e below (s₁.setTop (mkF m 26 #[.val (.long p1), .second, .val (.long p2), .second, .val (.long p3), .second, .val (.long (1 : Int64)), .second, .unset, .unset, .unset, .unset, .unset, .unset] [(.long ((p1 &&& (9223372036854775807 : Int64)) / (1 : Int64)))])) _
          refine XS.lload X0.here hx rfl (hb hby at_26) rfl ?_
          show Steps p.tables e below (s₁.setTop (mkF m 28 #[.val (.long p1), .second, .val (.long p2), .second, .val (.long p3), .second, .val (.long (1 : Int64)), .second, .unset, .unset, .unset, .unset, .unset, .unset] [(.long (1 : Int64)), (.long ((p1 &&& (9223372036854775807 : Int64)) / (1 : Int64)))])) _
          refine XS.lmul X0.here hx rfl (hb hby at_28) rfl ?_
          show Steps p.tables e below (s₁.setTop (mkF m 29 #[.val (.long p1), .second, .val (.long p2), .second, .val (.long p3), .second, .val (.long (1 : Int64)), .second, .unset, .unset, .unset, .unset, .unset, .unset] [(.long (((p1 &&& (9223372036854775807 : Int64)) / (1 : Int64)) * (1 : Int64)))])) _
          refine XS.lstore X0.here hx rfl (hb hby at_29) rfl (l' := #[.val (.long p1), .second, .val (.long p2), .second, .val (.long p3), .second, .val (.long (1 : Int64)), .second, .val (.long (((p1 &&& (9223372036854775807 : Int64)) / (1 : Int64)) * (1 : Int64))), .second, .unset, .unset, .unset, .unset]) rfl ?_
          show Steps p.tables e below (s₁.setTop (mkF m 31 #[.val (.long p1), .second, .val (.long p2), .second, .val (.long p3), .second, .val (.long (1 : Int64)), .second, .val (.long (((p1 &&& (9223372036854775807 : Int64)) / (1 : Int64)) * (1 : Int64))), .second, .unset, .unset, .unset, .unset] [])) _
          refine XS.lloadN X0.here hx rfl (hb hby at_31) rfl ?_
          show Steps p.tables e below (s₁.setTop (mkF m 32 #[.val (.long p1), .second, .val (.long p2), .second, .val (.long p3), .second, .val (.long (1 : Int64)), .second, .val (.long (((p1 &&& (9223372036854775807 : Int64)) / (1 : Int64)) * (1 : Int64))), .second, .unset, .unset, .unset, .unset] [(.long p2)])) _
          refine X0.ldc2Long hx hown (mvT hZ (hw _ (List.mem_of_getElem? (i := 0) rfl))) (g := (mkF m 32 #[.val (.long p1), .second, .val (.long p2), .second, .val (.long p3), .second, .val (.long (1 : Int64)), .second, .val (.long (((p1 &&& (9223372036854775807 : Int64)) / (1 : Int64)) * (1 : Int64))), .second, .unset, .unset, .unset, .unset] [(.long p2)])) rfl (hb hby at_32) _ ?_
          show Steps p.tables e below (s₁.setTop (mkF m 35 #[.val (.long p1), .second, .val (.long p2), .second, .val (.long p3), .second, .val (.long (1 : Int64)), .second, .val (.long (((p1 &&& (9223372036854775807 : Int64)) / (1 : Int64)) * (1 : Int64))), .second, .unset, .unset, .unset, .unset] [(.long (9223372036854775807 : Int64)), (.long p2)])) _
          refine XS.land X0.here hx rfl (hb hby at_35) rfl ?_
          show Steps p.tables e below (s₁.setTop (mkF m 36 #[.val (.long p1), .second, .val (.long p2), .second, .val (.long p3), .second, .val (.long (1 : Int64)), .second, .val (.long (((p1 &&& (9223372036854775807 : Int64)) / (1 : Int64)) * (1 : Int64))), .second, .unset, .unset, .unset, .unset] [(.long (p2 &&& (9223372036854775807 : Int64)))])) _
          refine XS.lload X0.here hx rfl (hb hby at_36) rfl ?_
          show Steps p.tables e below (s₁.setTop (mkF m 38 #[.val (.long p1), .second, .val (.long p2), .second, .val (.long p3), .second, .val (.long (1 : Int64)), .second, .val (.long (((p1 &&& (9223372036854775807 : Int64)) / (1 : Int64)) * (1 : Int64))), .second, .unset, .unset, .unset, .unset] [(.long (1 : Int64)), (.long (p2 &&& (9223372036854775807 : Int64)))])) _
          refine XS.ldiv X0.here hx rfl (hb hby at_38) rfl (by decide : ¬ ((1 : Int64) = (0 : Int64))) ?_
          show Steps p.tables e below (s₁.setTop (mkF m 39 #[.val (.long p1), .second, .val (.long p2), .second, .val (.long p3), .second, .val (.long (1 : Int64)), .second, .val (.long (((p1 &&& (9223372036854775807 : Int64)) / (1 : Int64)) * (1 : Int64))), .second, .unset, .unset, .unset, .unset] [(.long ((p2 &&& (9223372036854775807 : Int64)) / (1 : Int64)))])) _
          refine XS.lload X0.here hx rfl (hb hby at_39) rfl ?_
          show Steps p.tables e below (s₁.setTop (mkF m 41 #[.val (.long p1), .second, .val (.long p2), .second, .val (.long p3), .second, .val (.long (1 : Int64)), .second, .val (.long (((p1 &&& (9223372036854775807 : Int64)) / (1 : Int64)) * (1 : Int64))), .second, .unset, .unset, .unset, .unset] [(.long (1 : Int64)), (.long ((p2 &&& (9223372036854775807 : Int64)) / (1 : Int64)))])) _
          refine XS.lmul X0.here hx rfl (hb hby at_41) rfl ?_
          show Steps p.tables e below (s₁.setTop (mkF m 42 #[.val (.long p1), .second, .val (.long p2), .second, .val (.long p3), .second, .val (.long (1 : Int64)), .second, .val (.long (((p1 &&& (9223372036854775807 : Int64)) / (1 : Int64)) * (1 : Int64))), .second, .unset, .unset, .unset, .unset] [(.long (((p2 &&& (9223372036854775807 : Int64)) / (1 : Int64)) * (1 : Int64)))])) _
          refine XS.lstore X0.here hx rfl (hb hby at_42) rfl (l' := #[.val (.long p1), .second, .val (.long p2), .second, .val (.long p3), .second, .val (.long (1 : Int64)), .second, .val (.long (((p1 &&& (9223372036854775807 : Int64)) / (1 : Int64)) * (1 : Int64))), .second, .val (.long (((p2 &&& (9223372036854775807 : Int64)) / (1 : Int64)) * (1 : Int64))), .second, .unset, .unset]) rfl ?_
          show Steps p.tables e below (s₁.setTop (mkF m 44 #[.val (.long p1), .second, .val (.long p2), .second, .val (.long p3), .second, .val (.long (1 : Int64)), .second, .val (.long (((p1 &&& (9223372036854775807 : Int64)) / (1 : Int64)) * (1 : Int64))), .second, .val (.long (((p2 &&& (9223372036854775807 : Int64)) / (1 : Int64)) * (1 : Int64))), .second, .unset, .unset] [])) _
          refine XS.lload X0.here hx rfl (hb hby at_44) rfl ?_
          show Steps p.tables e below (s₁.setTop (mkF m 46 #[.val (.long p1), .second, .val (.long p2), .second, .val (.long p3), .second, .val (.long (1 : Int64)), .second, .val (.long (((p1 &&& (9223372036854775807 : Int64)) / (1 : Int64)) * (1 : Int64))), .second, .val (.long (((p2 &&& (9223372036854775807 : Int64)) / (1 : Int64)) * (1 : Int64))), .second, .unset, .unset] [(.long (((p1 &&& (9223372036854775807 : Int64)) / (1 : Int64)) * (1 : Int64)))])) _
          refine XS.lconst X0.here hx rfl (hb hby at_46) ?_
          show Steps p.tables e below (s₁.setTop (mkF m 47 #[.val (.long p1), .second, .val (.long p2), .second, .val (.long p3), .second, .val (.long (1 : Int64)), .second, .val (.long (((p1 &&& (9223372036854775807 : Int64)) / (1 : Int64)) * (1 : Int64))), .second, .val (.long (((p2 &&& (9223372036854775807 : Int64)) / (1 : Int64)) * (1 : Int64))), .second, .unset, .unset] [(.long (0 : Int64)), (.long (((p1 &&& (9223372036854775807 : Int64)) / (1 : Int64)) * (1 : Int64)))])) _
          refine XS.lcmp X0.here hx rfl (hb hby at_47) rfl ?_
          show Steps p.tables e below (s₁.setTop (mkF m 48 #[.val (.long p1), .second, .val (.long p2), .second, .val (.long p3), .second, .val (.long (1 : Int64)), .second, .val (.long (((p1 &&& (9223372036854775807 : Int64)) / (1 : Int64)) * (1 : Int64))), .second, .val (.long (((p2 &&& (9223372036854775807 : Int64)) / (1 : Int64)) * (1 : Int64))), .second, .unset, .unset] [(.int (lcmpW (((p1 &&& (9223372036854775807 : Int64)) / (1 : Int64)) * (1 : Int64)) (0 : Int64)))])) _
          refine XS.ifNo X0.here hx rfl (hb hby at_48) rfl ((if0 _ _).trans (teq ((lw_eq _ _).mpr hc2)).2) ?_
          show Steps p.tables e below (s₁.setTop (mkF m 51 #[.val (.long p1), .second, .val (.long p2), .second, .val (.long p3), .second, .val (.long (1 : Int64)), .second, .val (.long (((p1 &&& (9223372036854775807 : Int64)) / (1 : Int64)) * (1 : Int64))), .second, .val (.long (((p2 &&& (9223372036854775807 : Int64)) / (1 : Int64)) * (1 : Int64))), .second, .unset, .unset] [])) _
          refine XS.lload X0.here hx rfl (hb hby at_51) rfl ?_
          show Steps p.tables e below (s₁.setTop (mkF m 53 #[.val (.long p1), .second, .val (.long p2), .second, .val (.long p3), .second, .val (.long (1 : Int64)), .second, .val (.long (((p1 &&& (9223372036854775807 : Int64)) / (1 : Int64)) * (1 : Int64))), .second, .val (.long (((p2 &&& (9223372036854775807 : Int64)) / (1 : Int64)) * (1 : Int64))), .second, .unset, .unset] [(.long (((p2 &&& (9223372036854775807 : Int64)) / (1 : Int64)) * (1 : Int64)))])) _
          refine XS.lconst X0.here hx rfl (hb hby at_53) ?_
          show Steps p.tables e below (s₁.setTop (mkF m 54 #[.val (.long p1), .second, .val (.long p2), .second, .val (.long p3), .second, .val (.long (1 : Int64)), .second, .val (.long (((p1 &&& (9223372036854775807 : Int64)) / (1 : Int64)) * (1 : Int64))), .second, .val (.long (((p2 &&& (9223372036854775807 : Int64)) / (1 : Int64)) * (1 : Int64))), .second, .unset, .unset] [(.long (0 : Int64)), (.long (((p2 &&& (9223372036854775807 : Int64)) / (1 : Int64)) * (1 : Int64)))])) _
          refine XS.lcmp X0.here hx rfl (hb hby at_54) rfl ?_
          show Steps p.tables e below (s₁.setTop (mkF m 55 #[.val (.long p1), .second, .val (.long p2), .second, .val (.long p3), .second, .val (.long (1 : Int64)), .second, .val (.long (((p1 &&& (9223372036854775807 : Int64)) / (1 : Int64)) * (1 : Int64))), .second, .val (.long (((p2 &&& (9223372036854775807 : Int64)) / (1 : Int64)) * (1 : Int64))), .second, .unset, .unset] [(.int (lcmpW (((p2 &&& (9223372036854775807 : Int64)) / (1 : Int64)) * (1 : Int64)) (0 : Int64)))])) _
          refine XS.ifNo X0.here hx rfl (hb hby at_55) rfl ((if0 _ _).trans (teq ((lw_eq _ _).mpr hc3)).2) ?_
          show Steps p.tables e below (s₁.setTop (mkF m 58 #[.val (.long p1), .second, .val (.long p2), .second, .val (.long p3), .second, .val (.long (1 : Int64)), .second, .val (.long (((p1 &&& (9223372036854775807 : Int64)) / (1 : Int64)) * (1 : Int64))), .second, .val (.long (((p2 &&& (9223372036854775807 : Int64)) / (1 : Int64)) * (1 : Int64))), .second, .unset, .unset] [])) _
          refine XS.iconst X0.here hx rfl (hb hby at_58) ?_
          show Steps p.tables e below (s₁.setTop (mkF m 59 #[.val (.long p1), .second, .val (.long p2), .second, .val (.long p3), .second, .val (.long (1 : Int64)), .second, .val (.long (((p1 &&& (9223372036854775807 : Int64)) / (1 : Int64)) * (1 : Int64))), .second, .val (.long (((p2 &&& (9223372036854775807 : Int64)) / (1 : Int64)) * (1 : Int64))), .second, .unset, .unset] [(.int (1 : Int32))])) _
          exact retN X0 hx (t := .boolean) Bd.returns (by simp) (hb hby at_59) hr
        · show Q_rm0 Z p1 p2 p3 h0 n0 _ s₁.heap _
          exact ⟨rfl, N0⟩
      · obtain ⟨_, _, ⟨T1, L1, k1, n1⟩, -, X1, ⟨Lc1, hQ1, l1, y1, z1⟩, st1⟩ := Jvm.LawKit.callS X0 hx (y := (⟨"com/example/entropic_join/entropicjoin/Fraction", "gcd", "(JJ)J"⟩ : MethodName)) hown (mvT hZ (hw _ (List.mem_of_getElem? (i := 1) rfl))) (mvT hZ (hw _ (List.mem_of_getElem? (i := 2) rfl))) (mvT hZ (hw _ (List.mem_of_getElem? (i := 3) rfl))) (mvT hZ (hw _ (List.mem_of_getElem? (i := 4) rfl))) (by decide) (backOf (W := 0) (rm_g l Z a0 hw [] (((p1 &&& (9223372036854775807 : Int64)) / (1 : Int64)) * (1 : Int64)) (((p2 &&& (9223372036854775807 : Int64)) / (1 : Int64)) * (1 : Int64)) h0 n0 Z0 (own_mul p1 (by decide : (0 : Int) < (1 : Int64).toInt)).1 (own_mul p2 (by decide : (0 : Int) < (1 : Int64).toInt)).1) hZ (hw _ (List.mem_of_getElem? (i := 4) rfl)) (hw _ (List.mem_of_getElem? (i := 3) rfl)) (by decide) (by decide)) (g := (mkF m 64 #[.val (.long p1), .second, .val (.long p2), .second, .val (.long p3), .second, .val (.long (1 : Int64)), .second, .val (.long (((p1 &&& (9223372036854775807 : Int64)) / (1 : Int64)) * (1 : Int64))), .second, .val (.long (((p2 &&& (9223372036854775807 : Int64)) / (1 : Int64)) * (1 : Int64))), .second, .unset, .unset] [(.long (((p2 &&& (9223372036854775807 : Int64)) / (1 : Int64)) * (1 : Int64))), (.long (((p1 &&& (9223372036854775807 : Int64)) / (1 : Int64)) * (1 : Int64)))])) rfl (by rw [hml]; rfl) (argsL := [(.long (((p1 &&& (9223372036854775807 : Int64)) / (1 : Int64)) * (1 : Int64))), (.long (((p2 &&& (9223372036854775807 : Int64)) / (1 : Int64)) * (1 : Int64)))]) (rest := []) (lenOf pd__40JJ_41J rfl) rfl (by show 2 * 0 + _ ≤ _; exact Nat.le_of_eq rfl) (hb hby at_64) (fun _ _ => ⟨rfl, e0, (by decide : 0 + 0 ≤ _), (by decide : 0 + 0 ≤ _)⟩)
        dsimp only [Pt.U, Pt.locs, Pt.cells, Pt.slots] at X1 l1 y1 z1 st1 hQ1
        subst l1 y1 z1
        obtain ⟨g_1, rfl, Nq1, e1, p1_0⟩ := hQ1
        have N1 := Fr.app N0 Nq1
        obtain ⟨fs, hr, hrun, hended, hW, hsame⟩ := X1.leave (v := some (.int (1 : Int32))) (fun h => by rw [Bd.returns] at h; cases h)
        refine ⟨_, _, pre0 _ ?_, hrun, hended, _, _, rfl, ?_, ⟨_, rfl⟩, hW, hsame.mono (by decide) (by decide)⟩
        · show Steps p.tables e below (s₁.setTop (mkF m 0 #[.val (.long p1), .second, .val (.long p2), .second, .val (.long p3), .second, .unset, .unset, .unset, .unset, .unset, .unset, .unset, .unset] [])) _
          refine XS.lload X0.here hx rfl (hb hby at_0) rfl ?_
          show Steps p.tables e below (s₁.setTop (mkF m 2 #[.val (.long p1), .second, .val (.long p2), .second, .val (.long p3), .second, .unset, .unset, .unset, .unset, .unset, .unset, .unset, .unset] [(.long p3)])) _
          refine X0.ldc2Long hx hown (mvT hZ (hw _ (List.mem_of_getElem? (i := 0) rfl))) (g := (mkF m 2 #[.val (.long p1), .second, .val (.long p2), .second, .val (.long p3), .second, .unset, .unset, .unset, .unset, .unset, .unset, .unset, .unset] [(.long p3)])) rfl (hb hby at_2) _ ?_
          show Steps p.tables e below (s₁.setTop (mkF m 5 #[.val (.long p1), .second, .val (.long p2), .second, .val (.long p3), .second, .unset, .unset, .unset, .unset, .unset, .unset, .unset, .unset] [(.long (9223372036854775807 : Int64)), (.long p3)])) _
          refine XS.land X0.here hx rfl (hb hby at_5) rfl ?_
          show Steps p.tables e below (s₁.setTop (mkF m 6 #[.val (.long p1), .second, .val (.long p2), .second, .val (.long p3), .second, .unset, .unset, .unset, .unset, .unset, .unset, .unset, .unset] [(.long (p3 &&& (9223372036854775807 : Int64)))])) _
          refine XS.lstore X0.here hx rfl (hb hby at_6) rfl (l' := #[.val (.long p1), .second, .val (.long p2), .second, .val (.long p3), .second, .val (.long (p3 &&& (9223372036854775807 : Int64))), .second, .unset, .unset, .unset, .unset, .unset, .unset]) rfl ?_
          show Steps p.tables e below (s₁.setTop (mkF m 8 #[.val (.long p1), .second, .val (.long p2), .second, .val (.long p3), .second, .val (.long (p3 &&& (9223372036854775807 : Int64))), .second, .unset, .unset, .unset, .unset, .unset, .unset] [])) _
          refine XS.lload X0.here hx rfl (hb hby at_8) rfl ?_
          show Steps p.tables e below (s₁.setTop (mkF m 10 #[.val (.long p1), .second, .val (.long p2), .second, .val (.long p3), .second, .val (.long (p3 &&& (9223372036854775807 : Int64))), .second, .unset, .unset, .unset, .unset, .unset, .unset] [(.long (p3 &&& (9223372036854775807 : Int64)))])) _
          refine XS.lconst X0.here hx rfl (hb hby at_10) ?_
          show Steps p.tables e below (s₁.setTop (mkF m 11 #[.val (.long p1), .second, .val (.long p2), .second, .val (.long p3), .second, .val (.long (p3 &&& (9223372036854775807 : Int64))), .second, .unset, .unset, .unset, .unset, .unset, .unset] [(.long (0 : Int64)), (.long (p3 &&& (9223372036854775807 : Int64)))])) _
          refine XS.lcmp X0.here hx rfl (hb hby at_11) rfl ?_
          show Steps p.tables e below (s₁.setTop (mkF m 12 #[.val (.long p1), .second, .val (.long p2), .second, .val (.long p3), .second, .val (.long (p3 &&& (9223372036854775807 : Int64))), .second, .unset, .unset, .unset, .unset, .unset, .unset] [(.int (lcmpW (p3 &&& (9223372036854775807 : Int64)) (0 : Int64)))])) _
          refine XS.ifNo X0.here hx rfl (hb hby at_12) rfl ((if0 _ _).trans (teq ((lw_eq _ _).mpr hc1)).2) ?_
          show Steps p.tables e below (s₁.setTop (mkF m 15 #[.val (.long p1), .second, .val (.long p2), .second, .val (.long p3), .second, .val (.long (p3 &&& (9223372036854775807 : Int64))), .second, .unset, .unset, .unset, .unset, .unset, .unset] [])) _
          refine XS.lconst X0.here hx rfl (hb hby at_15) ?_
          show Steps p.tables e below (s₁.setTop (mkF m 16 #[.val (.long p1), .second, .val (.long p2), .second, .val (.long p3), .second, .val (.long (p3 &&& (9223372036854775807 : Int64))), .second, .unset, .unset, .unset, .unset, .unset, .unset] [(.long (1 : Int64))])) _
          refine XS.lstore X0.here hx rfl (hb hby at_16) rfl (l' := #[.val (.long p1), .second, .val (.long p2), .second, .val (.long p3), .second, .val (.long (1 : Int64)), .second, .unset, .unset, .unset, .unset, .unset, .unset]) rfl ?_
          show Steps p.tables e below (s₁.setTop (mkF m 18 #[.val (.long p1), .second, .val (.long p2), .second, .val (.long p3), .second, .val (.long (1 : Int64)), .second, .unset, .unset, .unset, .unset, .unset, .unset] [])) _
          refine XS.lloadN X0.here hx rfl (hb hby at_18) rfl ?_
          show Steps p.tables e below (s₁.setTop (mkF m 19 #[.val (.long p1), .second, .val (.long p2), .second, .val (.long p3), .second, .val (.long (1 : Int64)), .second, .unset, .unset, .unset, .unset, .unset, .unset] [(.long p1)])) _
          refine X0.ldc2Long hx hown (mvT hZ (hw _ (List.mem_of_getElem? (i := 0) rfl))) (g := (mkF m 19 #[.val (.long p1), .second, .val (.long p2), .second, .val (.long p3), .second, .val (.long (1 : Int64)), .second, .unset, .unset, .unset, .unset, .unset, .unset] [(.long p1)])) rfl (hb hby at_19) _ ?_
          show Steps p.tables e below (s₁.setTop (mkF m 22 #[.val (.long p1), .second, .val (.long p2), .second, .val (.long p3), .second, .val (.long (1 : Int64)), .second, .unset, .unset, .unset, .unset, .unset, .unset] [(.long (9223372036854775807 : Int64)), (.long p1)])) _
          refine XS.land X0.here hx rfl (hb hby at_22) rfl ?_
          show Steps p.tables e below (s₁.setTop (mkF m 23 #[.val (.long p1), .second, .val (.long p2), .second, .val (.long p3), .second, .val (.long (1 : Int64)), .second, .unset, .unset, .unset, .unset, .unset, .unset] [(.long (p1 &&& (9223372036854775807 : Int64)))])) _
          refine XS.lload X0.here hx rfl (hb hby at_23) rfl ?_
          show Steps p.tables e below (s₁.setTop (mkF m 25 #[.val (.long p1), .second, .val (.long p2), .second, .val (.long p3), .second, .val (.long (1 : Int64)), .second, .unset, .unset, .unset, .unset, .unset, .unset] [(.long (1 : Int64)), (.long (p1 &&& (9223372036854775807 : Int64)))])) _
          refine XS.ldiv X0.here hx rfl (hb hby at_25) rfl (by decide : ¬ ((1 : Int64) = (0 : Int64))) ?_
          show Steps p.tables e below (s₁.setTop (mkF m 26 #[.val (.long p1), .second, .val (.long p2), .second, .val (.long p3), .second, .val (.long (1 : Int64)), .second, .unset, .unset, .unset, .unset, .unset, .unset] [(.long ((p1 &&& (9223372036854775807 : Int64)) / (1 : Int64)))])) _
          refine XS.lload X0.here hx rfl (hb hby at_26) rfl ?_
          show Steps p.tables e below (s₁.setTop (mkF m 28 #[.val (.long p1), .second, .val (.long p2), .second, .val (.long p3), .second, .val (.long (1 : Int64)), .second, .unset, .unset, .unset, .unset, .unset, .unset] [(.long (1 : Int64)), (.long ((p1 &&& (9223372036854775807 : Int64)) / (1 : Int64)))])) _
          refine XS.lmul X0.here hx rfl (hb hby at_28) rfl ?_
          show Steps p.tables e below (s₁.setTop (mkF m 29 #[.val (.long p1), .second, .val (.long p2), .second, .val (.long p3), .second, .val (.long (1 : Int64)), .second, .unset, .unset, .unset, .unset, .unset, .unset] [(.long (((p1 &&& (9223372036854775807 : Int64)) / (1 : Int64)) * (1 : Int64)))])) _
          refine XS.lstore X0.here hx rfl (hb hby at_29) rfl (l' := #[.val (.long p1), .second, .val (.long p2), .second, .val (.long p3), .second, .val (.long (1 : Int64)), .second, .val (.long (((p1 &&& (9223372036854775807 : Int64)) / (1 : Int64)) * (1 : Int64))), .second, .unset, .unset, .unset, .unset]) rfl ?_
          show Steps p.tables e below (s₁.setTop (mkF m 31 #[.val (.long p1), .second, .val (.long p2), .second, .val (.long p3), .second, .val (.long (1 : Int64)), .second, .val (.long (((p1 &&& (9223372036854775807 : Int64)) / (1 : Int64)) * (1 : Int64))), .second, .unset, .unset, .unset, .unset] [])) _
          refine XS.lloadN X0.here hx rfl (hb hby at_31) rfl ?_
          show Steps p.tables e below (s₁.setTop (mkF m 32 #[.val (.long p1), .second, .val (.long p2), .second, .val (.long p3), .second, .val (.long (1 : Int64)), .second, .val (.long (((p1 &&& (9223372036854775807 : Int64)) / (1 : Int64)) * (1 : Int64))), .second, .unset, .unset, .unset, .unset] [(.long p2)])) _
          refine X0.ldc2Long hx hown (mvT hZ (hw _ (List.mem_of_getElem? (i := 0) rfl))) (g := (mkF m 32 #[.val (.long p1), .second, .val (.long p2), .second, .val (.long p3), .second, .val (.long (1 : Int64)), .second, .val (.long (((p1 &&& (9223372036854775807 : Int64)) / (1 : Int64)) * (1 : Int64))), .second, .unset, .unset, .unset, .unset] [(.long p2)])) rfl (hb hby at_32) _ ?_
          show Steps p.tables e below (s₁.setTop (mkF m 35 #[.val (.long p1), .second, .val (.long p2), .second, .val (.long p3), .second, .val (.long (1 : Int64)), .second, .val (.long (((p1 &&& (9223372036854775807 : Int64)) / (1 : Int64)) * (1 : Int64))), .second, .unset, .unset, .unset, .unset] [(.long (9223372036854775807 : Int64)), (.long p2)])) _
          refine XS.land X0.here hx rfl (hb hby at_35) rfl ?_
          show Steps p.tables e below (s₁.setTop (mkF m 36 #[.val (.long p1), .second, .val (.long p2), .second, .val (.long p3), .second, .val (.long (1 : Int64)), .second, .val (.long (((p1 &&& (9223372036854775807 : Int64)) / (1 : Int64)) * (1 : Int64))), .second, .unset, .unset, .unset, .unset] [(.long (p2 &&& (9223372036854775807 : Int64)))])) _
          refine XS.lload X0.here hx rfl (hb hby at_36) rfl ?_
          show Steps p.tables e below (s₁.setTop (mkF m 38 #[.val (.long p1), .second, .val (.long p2), .second, .val (.long p3), .second, .val (.long (1 : Int64)), .second, .val (.long (((p1 &&& (9223372036854775807 : Int64)) / (1 : Int64)) * (1 : Int64))), .second, .unset, .unset, .unset, .unset] [(.long (1 : Int64)), (.long (p2 &&& (9223372036854775807 : Int64)))])) _
          refine XS.ldiv X0.here hx rfl (hb hby at_38) rfl (by decide : ¬ ((1 : Int64) = (0 : Int64))) ?_
          show Steps p.tables e below (s₁.setTop (mkF m 39 #[.val (.long p1), .second, .val (.long p2), .second, .val (.long p3), .second, .val (.long (1 : Int64)), .second, .val (.long (((p1 &&& (9223372036854775807 : Int64)) / (1 : Int64)) * (1 : Int64))), .second, .unset, .unset, .unset, .unset] [(.long ((p2 &&& (9223372036854775807 : Int64)) / (1 : Int64)))])) _
          refine XS.lload X0.here hx rfl (hb hby at_39) rfl ?_
          show Steps p.tables e below (s₁.setTop (mkF m 41 #[.val (.long p1), .second, .val (.long p2), .second, .val (.long p3), .second, .val (.long (1 : Int64)), .second, .val (.long (((p1 &&& (9223372036854775807 : Int64)) / (1 : Int64)) * (1 : Int64))), .second, .unset, .unset, .unset, .unset] [(.long (1 : Int64)), (.long ((p2 &&& (9223372036854775807 : Int64)) / (1 : Int64)))])) _
          refine XS.lmul X0.here hx rfl (hb hby at_41) rfl ?_
          show Steps p.tables e below (s₁.setTop (mkF m 42 #[.val (.long p1), .second, .val (.long p2), .second, .val (.long p3), .second, .val (.long (1 : Int64)), .second, .val (.long (((p1 &&& (9223372036854775807 : Int64)) / (1 : Int64)) * (1 : Int64))), .second, .unset, .unset, .unset, .unset] [(.long (((p2 &&& (9223372036854775807 : Int64)) / (1 : Int64)) * (1 : Int64)))])) _
          refine XS.lstore X0.here hx rfl (hb hby at_42) rfl (l' := #[.val (.long p1), .second, .val (.long p2), .second, .val (.long p3), .second, .val (.long (1 : Int64)), .second, .val (.long (((p1 &&& (9223372036854775807 : Int64)) / (1 : Int64)) * (1 : Int64))), .second, .val (.long (((p2 &&& (9223372036854775807 : Int64)) / (1 : Int64)) * (1 : Int64))), .second, .unset, .unset]) rfl ?_
          show Steps p.tables e below (s₁.setTop (mkF m 44 #[.val (.long p1), .second, .val (.long p2), .second, .val (.long p3), .second, .val (.long (1 : Int64)), .second, .val (.long (((p1 &&& (9223372036854775807 : Int64)) / (1 : Int64)) * (1 : Int64))), .second, .val (.long (((p2 &&& (9223372036854775807 : Int64)) / (1 : Int64)) * (1 : Int64))), .second, .unset, .unset] [])) _
          refine XS.lload X0.here hx rfl (hb hby at_44) rfl ?_
          show Steps p.tables e below (s₁.setTop (mkF m 46 #[.val (.long p1), .second, .val (.long p2), .second, .val (.long p3), .second, .val (.long (1 : Int64)), .second, .val (.long (((p1 &&& (9223372036854775807 : Int64)) / (1 : Int64)) * (1 : Int64))), .second, .val (.long (((p2 &&& (9223372036854775807 : Int64)) / (1 : Int64)) * (1 : Int64))), .second, .unset, .unset] [(.long (((p1 &&& (9223372036854775807 : Int64)) / (1 : Int64)) * (1 : Int64)))])) _
          refine XS.lconst X0.here hx rfl (hb hby at_46) ?_
          show Steps p.tables e below (s₁.setTop (mkF m 47 #[.val (.long p1), .second, .val (.long p2), .second, .val (.long p3), .second, .val (.long (1 : Int64)), .second, .val (.long (((p1 &&& (9223372036854775807 : Int64)) / (1 : Int64)) * (1 : Int64))), .second, .val (.long (((p2 &&& (9223372036854775807 : Int64)) / (1 : Int64)) * (1 : Int64))), .second, .unset, .unset] [(.long (0 : Int64)), (.long (((p1 &&& (9223372036854775807 : Int64)) / (1 : Int64)) * (1 : Int64)))])) _
          refine XS.lcmp X0.here hx rfl (hb hby at_47) rfl ?_
          show Steps p.tables e below (s₁.setTop (mkF m 48 #[.val (.long p1), .second, .val (.long p2), .second, .val (.long p3), .second, .val (.long (1 : Int64)), .second, .val (.long (((p1 &&& (9223372036854775807 : Int64)) / (1 : Int64)) * (1 : Int64))), .second, .val (.long (((p2 &&& (9223372036854775807 : Int64)) / (1 : Int64)) * (1 : Int64))), .second, .unset, .unset] [(.int (lcmpW (((p1 &&& (9223372036854775807 : Int64)) / (1 : Int64)) * (1 : Int64)) (0 : Int64)))])) _
          refine XS.ifNo X0.here hx rfl (hb hby at_48) rfl ((if0 _ _).trans (teq ((lw_eq _ _).mpr hc2)).2) ?_
          show Steps p.tables e below (s₁.setTop (mkF m 51 #[.val (.long p1), .second, .val (.long p2), .second, .val (.long p3), .second, .val (.long (1 : Int64)), .second, .val (.long (((p1 &&& (9223372036854775807 : Int64)) / (1 : Int64)) * (1 : Int64))), .second, .val (.long (((p2 &&& (9223372036854775807 : Int64)) / (1 : Int64)) * (1 : Int64))), .second, .unset, .unset] [])) _
          refine XS.lload X0.here hx rfl (hb hby at_51) rfl ?_
          show Steps p.tables e below (s₁.setTop (mkF m 53 #[.val (.long p1), .second, .val (.long p2), .second, .val (.long p3), .second, .val (.long (1 : Int64)), .second, .val (.long (((p1 &&& (9223372036854775807 : Int64)) / (1 : Int64)) * (1 : Int64))), .second, .val (.long (((p2 &&& (9223372036854775807 : Int64)) / (1 : Int64)) * (1 : Int64))), .second, .unset, .unset] [(.long (((p2 &&& (9223372036854775807 : Int64)) / (1 : Int64)) * (1 : Int64)))])) _
          refine XS.lconst X0.here hx rfl (hb hby at_53) ?_
          show Steps p.tables e below (s₁.setTop (mkF m 54 #[.val (.long p1), .second, .val (.long p2), .second, .val (.long p3), .second, .val (.long (1 : Int64)), .second, .val (.long (((p1 &&& (9223372036854775807 : Int64)) / (1 : Int64)) * (1 : Int64))), .second, .val (.long (((p2 &&& (9223372036854775807 : Int64)) / (1 : Int64)) * (1 : Int64))), .second, .unset, .unset] [(.long (0 : Int64)), (.long (((p2 &&& (9223372036854775807 : Int64)) / (1 : Int64)) * (1 : Int64)))])) _
          refine XS.lcmp X0.here hx rfl (hb hby at_54) rfl ?_
          show Steps p.tables e below (s₁.setTop (mkF m 55 #[.val (.long p1), .second, .val (.long p2), .second, .val (.long p3), .second, .val (.long (1 : Int64)), .second, .val (.long (((p1 &&& (9223372036854775807 : Int64)) / (1 : Int64)) * (1 : Int64))), .second, .val (.long (((p2 &&& (9223372036854775807 : Int64)) / (1 : Int64)) * (1 : Int64))), .second, .unset, .unset] [(.int (lcmpW (((p2 &&& (9223372036854775807 : Int64)) / (1 : Int64)) * (1 : Int64)) (0 : Int64)))])) _
          refine XS.ifYes X0.here hx rfl (pc0 := 55) (pc' := 60) rfl (hb hby at_55) rfl ((if0 _ _).trans (feq (fun q_ => hc3 ((lw_eq _ _).mp q_))).2) (by decide) (by decide) ?_
          show Steps p.tables e below (s₁.setTop (mkF m 60 #[.val (.long p1), .second, .val (.long p2), .second, .val (.long p3), .second, .val (.long (1 : Int64)), .second, .val (.long (((p1 &&& (9223372036854775807 : Int64)) / (1 : Int64)) * (1 : Int64))), .second, .val (.long (((p2 &&& (9223372036854775807 : Int64)) / (1 : Int64)) * (1 : Int64))), .second, .unset, .unset] [])) _
          refine XS.lload X0.here hx rfl (hb hby at_60) rfl ?_
          show Steps p.tables e below (s₁.setTop (mkF m 62 #[.val (.long p1), .second, .val (.long p2), .second, .val (.long p3), .second, .val (.long (1 : Int64)), .second, .val (.long (((p1 &&& (9223372036854775807 : Int64)) / (1 : Int64)) * (1 : Int64))), .second, .val (.long (((p2 &&& (9223372036854775807 : Int64)) / (1 : Int64)) * (1 : Int64))), .second, .unset, .unset] [(.long (((p1 &&& (9223372036854775807 : Int64)) / (1 : Int64)) * (1 : Int64)))])) _
          refine XS.lload X0.here hx rfl (hb hby at_62) rfl ?_
          show Steps p.tables e below (s₁.setTop (mkF m 64 #[.val (.long p1), .second, .val (.long p2), .second, .val (.long p3), .second, .val (.long (1 : Int64)), .second, .val (.long (((p1 &&& (9223372036854775807 : Int64)) / (1 : Int64)) * (1 : Int64))), .second, .val (.long (((p2 &&& (9223372036854775807 : Int64)) / (1 : Int64)) * (1 : Int64))), .second, .unset, .unset] [(.long (((p2 &&& (9223372036854775807 : Int64)) / (1 : Int64)) * (1 : Int64))), (.long (((p1 &&& (9223372036854775807 : Int64)) / (1 : Int64)) * (1 : Int64)))])) _
          refine st1 _ ?_
          show Steps p.tables e below (T1.setTop (mkF m 67 #[.val (.long p1), .second, .val (.long p2), .second, .val (.long p3), .second, .val (.long (1 : Int64)), .second, .val (.long (((p1 &&& (9223372036854775807 : Int64)) / (1 : Int64)) * (1 : Int64))), .second, .val (.long (((p2 &&& (9223372036854775807 : Int64)) / (1 : Int64)) * (1 : Int64))), .second, .unset, .unset] [(.long g_1)])) _
          refine XS.lstore X1.here hx rfl (hb hby at_67) rfl (l' := #[.val (.long p1), .second, .val (.long p2), .second, .val (.long p3), .second, .val (.long (1 : Int64)), .second, .val (.long (((p1 &&& (9223372036854775807 : Int64)) / (1 : Int64)) * (1 : Int64))), .second, .val (.long (((p2 &&& (9223372036854775807 : Int64)) / (1 : Int64)) * (1 : Int64))), .second, .val (.long g_1), .second]) rfl ?_
          show Steps p.tables e below (T1.setTop (mkF m 69 #[.val (.long p1), .second, .val (.long p2), .second, .val (.long p3), .second, .val (.long (1 : Int64)), .second, .val (.long (((p1 &&& (9223372036854775807 : Int64)) / (1 : Int64)) * (1 : Int64))), .second, .val (.long (((p2 &&& (9223372036854775807 : Int64)) / (1 : Int64)) * (1 : Int64))), .second, .val (.long g_1), .second] [])) _
          refine XS.lload X1.here hx rfl (hb hby at_69) rfl ?_
          show Steps p.tables e below (T1.setTop (mkF m 71 #[.val (.long p1), .second, .val (.long p2), .second, .val (.long p3), .second, .val (.long (1 : Int64)), .second, .val (.long (((p1 &&& (9223372036854775807 : Int64)) / (1 : Int64)) * (1 : Int64))), .second, .val (.long (((p2 &&& (9223372036854775807 : Int64)) / (1 : Int64)) * (1 : Int64))), .second, .val (.long g_1), .second] [(.long g_1)])) _
          refine XS.lconst X1.here hx rfl (hb hby at_71) ?_
          show Steps p.tables e below (T1.setTop (mkF m 72 #[.val (.long p1), .second, .val (.long p2), .second, .val (.long p3), .second, .val (.long (1 : Int64)), .second, .val (.long (((p1 &&& (9223372036854775807 : Int64)) / (1 : Int64)) * (1 : Int64))), .second, .val (.long (((p2 &&& (9223372036854775807 : Int64)) / (1 : Int64)) * (1 : Int64))), .second, .val (.long g_1), .second] [(.long (0 : Int64)), (.long g_1)])) _
          refine XS.lcmp X1.here hx rfl (hb hby at_72) rfl ?_
          show Steps p.tables e below (T1.setTop (mkF m 73 #[.val (.long p1), .second, .val (.long p2), .second, .val (.long p3), .second, .val (.long (1 : Int64)), .second, .val (.long (((p1 &&& (9223372036854775807 : Int64)) / (1 : Int64)) * (1 : Int64))), .second, .val (.long (((p2 &&& (9223372036854775807 : Int64)) / (1 : Int64)) * (1 : Int64))), .second, .val (.long g_1), .second] [(.int (lcmpW g_1 (0 : Int64)))])) _
          refine XS.ifNo X1.here hx rfl (hb hby at_73) rfl ((if0 _ _).trans (tlt ((lw_gt _ _).mpr (own_g1 (own_mul p1 (by decide : (0 : Int) < (1 : Int64).toInt)) (own_mul p2 (by decide : (0 : Int) < (1 : Int64).toInt)) (by decide : (0 : Int) < (1 : Int64).toInt) p1_0 (Or.inr hc3)))).2.2.2) ?_
          show Steps p.tables e below (T1.setTop (mkF m 76 #[.val (.long p1), .second, .val (.long p2), .second, .val (.long p3), .second, .val (.long (1 : Int64)), .second, .val (.long (((p1 &&& (9223372036854775807 : Int64)) / (1 : Int64)) * (1 : Int64))), .second, .val (.long (((p2 &&& (9223372036854775807 : Int64)) / (1 : Int64)) * (1 : Int64))), .second, .val (.long g_1), .second] [])) _
          refine XS.lload X1.here hx rfl (hb hby at_76) rfl ?_
          show Steps p.tables e below (T1.setTop (mkF m 78 #[.val (.long p1), .second, .val (.long p2), .second, .val (.long p3), .second, .val (.long (1 : Int64)), .second, .val (.long (((p1 &&& (9223372036854775807 : Int64)) / (1 : Int64)) * (1 : Int64))), .second, .val (.long (((p2 &&& (9223372036854775807 : Int64)) / (1 : Int64)) * (1 : Int64))), .second, .val (.long g_1), .second] [(.long (((p1 &&& (9223372036854775807 : Int64)) / (1 : Int64)) * (1 : Int64)))])) _
          refine XS.lload X1.here hx rfl (hb hby at_78) rfl ?_
          show Steps p.tables e below (T1.setTop (mkF m 80 #[.val (.long p1), .second, .val (.long p2), .second, .val (.long p3), .second, .val (.long (1 : Int64)), .second, .val (.long (((p1 &&& (9223372036854775807 : Int64)) / (1 : Int64)) * (1 : Int64))), .second, .val (.long (((p2 &&& (9223372036854775807 : Int64)) / (1 : Int64)) * (1 : Int64))), .second, .val (.long g_1), .second] [(.long g_1), (.long (((p1 &&& (9223372036854775807 : Int64)) / (1 : Int64)) * (1 : Int64)))])) _
          refine XS.lrem X1.here hx rfl (hb hby at_80) rfl (own_g0 (own_mul p1 (by decide : (0 : Int) < (1 : Int64).toInt)) (own_mul p2 (by decide : (0 : Int) < (1 : Int64).toInt)) (by decide : (0 : Int) < (1 : Int64).toInt) p1_0 (Or.inr hc3)) ?_
          show Steps p.tables e below (T1.setTop (mkF m 81 #[.val (.long p1), .second, .val (.long p2), .second, .val (.long p3), .second, .val (.long (1 : Int64)), .second, .val (.long (((p1 &&& (9223372036854775807 : Int64)) / (1 : Int64)) * (1 : Int64))), .second, .val (.long (((p2 &&& (9223372036854775807 : Int64)) / (1 : Int64)) * (1 : Int64))), .second, .val (.long g_1), .second] [(.long ((((p1 &&& (9223372036854775807 : Int64)) / (1 : Int64)) * (1 : Int64)) - ((((p1 &&& (9223372036854775807 : Int64)) / (1 : Int64)) * (1 : Int64)) / g_1) * g_1))])) _
          refine XS.lconst X1.here hx rfl (hb hby at_81) ?_
          show Steps p.tables e below (T1.setTop (mkF m 82 #[.val (.long p1), .second, .val (.long p2), .second, .val (.long p3), .second, .val (.long (1 : Int64)), .second, .val (.long (((p1 &&& (9223372036854775807 : Int64)) / (1 : Int64)) * (1 : Int64))), .second, .val (.long (((p2 &&& (9223372036854775807 : Int64)) / (1 : Int64)) * (1 : Int64))), .second, .val (.long g_1), .second] [(.long (0 : Int64)), (.long ((((p1 &&& (9223372036854775807 : Int64)) / (1 : Int64)) * (1 : Int64)) - ((((p1 &&& (9223372036854775807 : Int64)) / (1 : Int64)) * (1 : Int64)) / g_1) * g_1))])) _
          refine XS.lcmp X1.here hx rfl (hb hby at_82) rfl ?_
          show Steps p.tables e below (T1.setTop (mkF m 83 #[.val (.long p1), .second, .val (.long p2), .second, .val (.long p3), .second, .val (.long (1 : Int64)), .second, .val (.long (((p1 &&& (9223372036854775807 : Int64)) / (1 : Int64)) * (1 : Int64))), .second, .val (.long (((p2 &&& (9223372036854775807 : Int64)) / (1 : Int64)) * (1 : Int64))), .second, .val (.long g_1), .second] [(.int (lcmpW ((((p1 &&& (9223372036854775807 : Int64)) / (1 : Int64)) * (1 : Int64)) - ((((p1 &&& (9223372036854775807 : Int64)) / (1 : Int64)) * (1 : Int64)) / g_1) * g_1) (0 : Int64)))])) _
          refine XS.ifNo X1.here hx rfl (hb hby at_83) rfl ((if0 _ _).trans (teq ((lw_eq _ _).mpr (own_g2 (own_mul p1 (by decide : (0 : Int) < (1 : Int64).toInt)) (own_mul p2 (by decide : (0 : Int) < (1 : Int64).toInt)) (by decide : (0 : Int) < (1 : Int64).toInt) p1_0 (Or.inr hc3)))).2) ?_
          show Steps p.tables e below (T1.setTop (mkF m 86 #[.val (.long p1), .second, .val (.long p2), .second, .val (.long p3), .second, .val (.long (1 : Int64)), .second, .val (.long (((p1 &&& (9223372036854775807 : Int64)) / (1 : Int64)) * (1 : Int64))), .second, .val (.long (((p2 &&& (9223372036854775807 : Int64)) / (1 : Int64)) * (1 : Int64))), .second, .val (.long g_1), .second] [])) _
          refine XS.lload X1.here hx rfl (hb hby at_86) rfl ?_
          show Steps p.tables e below (T1.setTop (mkF m 88 #[.val (.long p1), .second, .val (.long p2), .second, .val (.long p3), .second, .val (.long (1 : Int64)), .second, .val (.long (((p1 &&& (9223372036854775807 : Int64)) / (1 : Int64)) * (1 : Int64))), .second, .val (.long (((p2 &&& (9223372036854775807 : Int64)) / (1 : Int64)) * (1 : Int64))), .second, .val (.long g_1), .second] [(.long (((p2 &&& (9223372036854775807 : Int64)) / (1 : Int64)) * (1 : Int64)))])) _
          refine XS.lload X1.here hx rfl (hb hby at_88) rfl ?_
          show Steps p.tables e below (T1.setTop (mkF m 90 #[.val (.long p1), .second, .val (.long p2), .second, .val (.long p3), .second, .val (.long (1 : Int64)), .second, .val (.long (((p1 &&& (9223372036854775807 : Int64)) / (1 : Int64)) * (1 : Int64))), .second, .val (.long (((p2 &&& (9223372036854775807 : Int64)) / (1 : Int64)) * (1 : Int64))), .second, .val (.long g_1), .second] [(.long g_1), (.long (((p2 &&& (9223372036854775807 : Int64)) / (1 : Int64)) * (1 : Int64)))])) _
          refine XS.lrem X1.here hx rfl (hb hby at_90) rfl (own_g0 (own_mul p1 (by decide : (0 : Int) < (1 : Int64).toInt)) (own_mul p2 (by decide : (0 : Int) < (1 : Int64).toInt)) (by decide : (0 : Int) < (1 : Int64).toInt) p1_0 (Or.inr hc3)) ?_
          show Steps p.tables e below (T1.setTop (mkF m 91 #[.val (.long p1), .second, .val (.long p2), .second, .val (.long p3), .second, .val (.long (1 : Int64)), .second, .val (.long (((p1 &&& (9223372036854775807 : Int64)) / (1 : Int64)) * (1 : Int64))), .second, .val (.long (((p2 &&& (9223372036854775807 : Int64)) / (1 : Int64)) * (1 : Int64))), .second, .val (.long g_1), .second] [(.long ((((p2 &&& (9223372036854775807 : Int64)) / (1 : Int64)) * (1 : Int64)) - ((((p2 &&& (9223372036854775807 : Int64)) / (1 : Int64)) * (1 : Int64)) / g_1) * g_1))])) _
          refine XS.lconst X1.here hx rfl (hb hby at_91) ?_
          show Steps p.tables e below (T1.setTop (mkF m 92 #[.val (.long p1), .second, .val (.long p2), .second, .val (.long p3), .second, .val (.long (1 : Int64)), .second, .val (.long (((p1 &&& (9223372036854775807 : Int64)) / (1 : Int64)) * (1 : Int64))), .second, .val (.long (((p2 &&& (9223372036854775807 : Int64)) / (1 : Int64)) * (1 : Int64))), .second, .val (.long g_1), .second] [(.long (0 : Int64)), (.long ((((p2 &&& (9223372036854775807 : Int64)) / (1 : Int64)) * (1 : Int64)) - ((((p2 &&& (9223372036854775807 : Int64)) / (1 : Int64)) * (1 : Int64)) / g_1) * g_1))])) _
          refine XS.lcmp X1.here hx rfl (hb hby at_92) rfl ?_
          show Steps p.tables e below (T1.setTop (mkF m 93 #[.val (.long p1), .second, .val (.long p2), .second, .val (.long p3), .second, .val (.long (1 : Int64)), .second, .val (.long (((p1 &&& (9223372036854775807 : Int64)) / (1 : Int64)) * (1 : Int64))), .second, .val (.long (((p2 &&& (9223372036854775807 : Int64)) / (1 : Int64)) * (1 : Int64))), .second, .val (.long g_1), .second] [(.int (lcmpW ((((p2 &&& (9223372036854775807 : Int64)) / (1 : Int64)) * (1 : Int64)) - ((((p2 &&& (9223372036854775807 : Int64)) / (1 : Int64)) * (1 : Int64)) / g_1) * g_1) (0 : Int64)))])) _
          refine XS.ifNo X1.here hx rfl (hb hby at_93) rfl ((if0 _ _).trans (teq ((lw_eq _ _).mpr (own_g3 (own_mul p1 (by decide : (0 : Int) < (1 : Int64).toInt)) (own_mul p2 (by decide : (0 : Int) < (1 : Int64).toInt)) (by decide : (0 : Int) < (1 : Int64).toInt) p1_0 (Or.inr hc3)))).2) ?_
          show Steps p.tables e below (T1.setTop (mkF m 96 #[.val (.long p1), .second, .val (.long p2), .second, .val (.long p3), .second, .val (.long (1 : Int64)), .second, .val (.long (((p1 &&& (9223372036854775807 : Int64)) / (1 : Int64)) * (1 : Int64))), .second, .val (.long (((p2 &&& (9223372036854775807 : Int64)) / (1 : Int64)) * (1 : Int64))), .second, .val (.long g_1), .second] [])) _
          refine XS.lload X1.here hx rfl (hb hby at_96) rfl ?_
          show Steps p.tables e below (T1.setTop (mkF m 98 #[.val (.long p1), .second, .val (.long p2), .second, .val (.long p3), .second, .val (.long (1 : Int64)), .second, .val (.long (((p1 &&& (9223372036854775807 : Int64)) / (1 : Int64)) * (1 : Int64))), .second, .val (.long (((p2 &&& (9223372036854775807 : Int64)) / (1 : Int64)) * (1 : Int64))), .second, .val (.long g_1), .second] [(.long g_1)])) _
          refine XS.lload X1.here hx rfl (hb hby at_98) rfl ?_
          show Steps p.tables e below (T1.setTop (mkF m 100 #[.val (.long p1), .second, .val (.long p2), .second, .val (.long p3), .second, .val (.long (1 : Int64)), .second, .val (.long (((p1 &&& (9223372036854775807 : Int64)) / (1 : Int64)) * (1 : Int64))), .second, .val (.long (((p2 &&& (9223372036854775807 : Int64)) / (1 : Int64)) * (1 : Int64))), .second, .val (.long g_1), .second] [(.long (1 : Int64)), (.long g_1)])) _
          refine XS.lrem X1.here hx rfl (hb hby at_100) rfl (by decide : ¬ ((1 : Int64) = (0 : Int64))) ?_
          show Steps p.tables e below (T1.setTop (mkF m 101 #[.val (.long p1), .second, .val (.long p2), .second, .val (.long p3), .second, .val (.long (1 : Int64)), .second, .val (.long (((p1 &&& (9223372036854775807 : Int64)) / (1 : Int64)) * (1 : Int64))), .second, .val (.long (((p2 &&& (9223372036854775807 : Int64)) / (1 : Int64)) * (1 : Int64))), .second, .val (.long g_1), .second] [(.long (g_1 - (g_1 / (1 : Int64)) * (1 : Int64)))])) _
          refine XS.lconst X1.here hx rfl (hb hby at_101) ?_
          show Steps p.tables e below (T1.setTop (mkF m 102 #[.val (.long p1), .second, .val (.long p2), .second, .val (.long p3), .second, .val (.long (1 : Int64)), .second, .val (.long (((p1 &&& (9223372036854775807 : Int64)) / (1 : Int64)) * (1 : Int64))), .second, .val (.long (((p2 &&& (9223372036854775807 : Int64)) / (1 : Int64)) * (1 : Int64))), .second, .val (.long g_1), .second] [(.long (0 : Int64)), (.long (g_1 - (g_1 / (1 : Int64)) * (1 : Int64)))])) _
          refine XS.lcmp X1.here hx rfl (hb hby at_102) rfl ?_
          show Steps p.tables e below (T1.setTop (mkF m 103 #[.val (.long p1), .second, .val (.long p2), .second, .val (.long p3), .second, .val (.long (1 : Int64)), .second, .val (.long (((p1 &&& (9223372036854775807 : Int64)) / (1 : Int64)) * (1 : Int64))), .second, .val (.long (((p2 &&& (9223372036854775807 : Int64)) / (1 : Int64)) * (1 : Int64))), .second, .val (.long g_1), .second] [(.int (lcmpW (g_1 - (g_1 / (1 : Int64)) * (1 : Int64)) (0 : Int64)))])) _
          refine XS.ifNo X1.here hx rfl (hb hby at_103) rfl ((if0 _ _).trans (teq ((lw_eq _ _).mpr (own_g4 (own_mul p1 (by decide : (0 : Int) < (1 : Int64).toInt)) (own_mul p2 (by decide : (0 : Int) < (1 : Int64).toInt)) (by decide : (0 : Int) < (1 : Int64).toInt) p1_0 (Or.inr hc3)))).2) ?_
          show Steps p.tables e below (T1.setTop (mkF m 106 #[.val (.long p1), .second, .val (.long p2), .second, .val (.long p3), .second, .val (.long (1 : Int64)), .second, .val (.long (((p1 &&& (9223372036854775807 : Int64)) / (1 : Int64)) * (1 : Int64))), .second, .val (.long (((p2 &&& (9223372036854775807 : Int64)) / (1 : Int64)) * (1 : Int64))), .second, .val (.long g_1), .second] [])) _
          refine XS.iconst X1.here hx rfl (hb hby at_106) ?_
          show Steps p.tables e below (T1.setTop (mkF m 107 #[.val (.long p1), .second, .val (.long p2), .second, .val (.long p3), .second, .val (.long (1 : Int64)), .second, .val (.long (((p1 &&& (9223372036854775807 : Int64)) / (1 : Int64)) * (1 : Int64))), .second, .val (.long (((p2 &&& (9223372036854775807 : Int64)) / (1 : Int64)) * (1 : Int64))), .second, .val (.long g_1), .second] [(.int (1 : Int32))])) _
          refine XS.goto X1.here hx rfl (pc0 := 107) (pc' := 111) rfl (hb hby at_107) (by decide) (by decide) ?_
          show Steps p.tables e below (T1.setTop (mkF m 111 #[.val (.long p1), .second, .val (.long p2), .second, .val (.long p3), .second, .val (.long (1 : Int64)), .second, .val (.long (((p1 &&& (9223372036854775807 : Int64)) / (1 : Int64)) * (1 : Int64))), .second, .val (.long (((p2 &&& (9223372036854775807 : Int64)) / (1 : Int64)) * (1 : Int64))), .second, .val (.long g_1), .second] [(.int (1 : Int32))])) _
          exact retN X1 hx (t := .boolean) Bd.returns (by simp) (hb hby at_111) hr
        · show Q_rm0 Z p1 p2 p3 h0 n0 _ T1.heap _
          exact ⟨rfl, N1⟩
    · obtain ⟨_, _, ⟨T2, L2, k2, n2⟩, -, X2, ⟨Lc2, hQ2, l2, y2, z2⟩, st2⟩ := Jvm.LawKit.callS X0 hx (y := (⟨"com/example/entropic_join/entropicjoin/Fraction", "gcd", "(JJ)J"⟩ : MethodName)) hown (mvT hZ (hw _ (List.mem_of_getElem? (i := 1) rfl))) (mvT hZ (hw _ (List.mem_of_getElem? (i := 2) rfl))) (mvT hZ (hw _ (List.mem_of_getElem? (i := 3) rfl))) (mvT hZ (hw _ (List.mem_of_getElem? (i := 4) rfl))) (by decide) (backOf (W := 0) (rm_g l Z a0 hw [] (((p1 &&& (9223372036854775807 : Int64)) / (1 : Int64)) * (1 : Int64)) (((p2 &&& (9223372036854775807 : Int64)) / (1 : Int64)) * (1 : Int64)) h0 n0 Z0 (own_mul p1 (by decide : (0 : Int) < (1 : Int64).toInt)).1 (own_mul p2 (by decide : (0 : Int) < (1 : Int64).toInt)).1) hZ (hw _ (List.mem_of_getElem? (i := 4) rfl)) (hw _ (List.mem_of_getElem? (i := 3) rfl)) (by decide) (by decide)) (g := (mkF m 64 #[.val (.long p1), .second, .val (.long p2), .second, .val (.long p3), .second, .val (.long (1 : Int64)), .second, .val (.long (((p1 &&& (9223372036854775807 : Int64)) / (1 : Int64)) * (1 : Int64))), .second, .val (.long (((p2 &&& (9223372036854775807 : Int64)) / (1 : Int64)) * (1 : Int64))), .second, .unset, .unset] [(.long (((p2 &&& (9223372036854775807 : Int64)) / (1 : Int64)) * (1 : Int64))), (.long (((p1 &&& (9223372036854775807 : Int64)) / (1 : Int64)) * (1 : Int64)))])) rfl (by rw [hml]; rfl) (argsL := [(.long (((p1 &&& (9223372036854775807 : Int64)) / (1 : Int64)) * (1 : Int64))), (.long (((p2 &&& (9223372036854775807 : Int64)) / (1 : Int64)) * (1 : Int64)))]) (rest := []) (lenOf pd__40JJ_41J rfl) rfl (by show 2 * 0 + _ ≤ _; exact Nat.le_of_eq rfl) (hb hby at_64) (fun _ _ => ⟨rfl, e0, (by decide : 0 + 0 ≤ _), (by decide : 0 + 0 ≤ _)⟩)
      dsimp only [Pt.U, Pt.locs, Pt.cells, Pt.slots] at X2 l2 y2 z2 st2 hQ2
      subst l2 y2 z2
      obtain ⟨g_2, rfl, Nq2, e2, p2_0⟩ := hQ2
      have N2 := Fr.app N0 Nq2
      obtain ⟨fs, hr, hrun, hended, hW, hsame⟩ := X2.leave (v := some (.int (1 : Int32))) (fun h => by rw [Bd.returns] at h; cases h)
      refine ⟨_, _, pre0 _ ?_, hrun, hended, _, _, rfl, ?_, ⟨_, rfl⟩, hW, hsame.mono (by decide) (by decide)⟩
      · show Steps p.tables e below (s₁.setTop (mkF m 0 #[.val (.long p1), .second, .val (.long p2), .second, .val (.long p3), .second, .unset, .unset, .unset, .unset, .unset, .unset, .unset, .unset] [])) _
        refine XS.lload X0.here hx rfl (hb hby at_0) rfl ?_
        show Steps p.tables e below (s₁.setTop (mkF m 2 #[.val (.long p1), .second, .val (.long p2), .second, .val (.long p3), .second, .unset, .unset, .unset, .unset, .unset, .unset, .unset, .unset] [(.long p3)])) _
        refine X0.ldc2Long hx hown (mvT hZ (hw _ (List.mem_of_getElem? (i := 0) rfl))) (g := (mkF m 2 #[.val (.long p1), .second, .val (.long p2), .second, .val (.long p3), .second, .unset, .unset, .unset, .unset, .unset, .unset, .unset, .unset] [(.long p3)])) rfl (hb hby at_2) _ ?_
        show Steps p.tables e below (s₁.setTop (mkF m 5 #[.val (.long p1), .second, .val (.long p2), .second, .val (.long p3), .second, .unset, .unset, .unset, .unset, .unset, .unset, .unset, .unset] [(.long (9223372036854775807 : Int64)), (.long p3)])) _
        refine XS.land X0.here hx rfl (hb hby at_5) rfl ?_
        show Steps p.tables e below (s₁.setTop (mkF m 6 #[.val (.long p1), .second, .val (.long p2), .second, .val (.long p3), .second, .unset, .unset, .unset, .unset, .unset, .unset, .unset, .unset] [(.long (p3 &&& (9223372036854775807 : Int64)))])) _
        refine XS.lstore X0.here hx rfl (hb hby at_6) rfl (l' := #[.val (.long p1), .second, .val (.long p2), .second, .val (.long p3), .second, .val (.long (p3 &&& (9223372036854775807 : Int64))), .second, .unset, .unset, .unset, .unset, .unset, .unset]) rfl ?_
        show Steps p.tables e below (s₁.setTop (mkF m 8 #[.val (.long p1), .second, .val (.long p2), .second, .val (.long p3), .second, .val (.long (p3 &&& (9223372036854775807 : Int64))), .second, .unset, .unset, .unset, .unset, .unset, .unset] [])) _
        refine XS.lload X0.here hx rfl (hb hby at_8) rfl ?_
        show Steps p.tables e below (s₁.setTop (mkF m 10 #[.val (.long p1), .second, .val (.long p2), .second, .val (.long p3), .second, .val (.long (p3 &&& (9223372036854775807 : Int64))), .second, .unset, .unset, .unset, .unset, .unset, .unset] [(.long (p3 &&& (9223372036854775807 : Int64)))])) _
        refine XS.lconst X0.here hx rfl (hb hby at_10) ?_
        show Steps p.tables e below (s₁.setTop (mkF m 11 #[.val (.long p1), .second, .val (.long p2), .second, .val (.long p3), .second, .val (.long (p3 &&& (9223372036854775807 : Int64))), .second, .unset, .unset, .unset, .unset, .unset, .unset] [(.long (0 : Int64)), (.long (p3 &&& (9223372036854775807 : Int64)))])) _
        refine XS.lcmp X0.here hx rfl (hb hby at_11) rfl ?_
        show Steps p.tables e below (s₁.setTop (mkF m 12 #[.val (.long p1), .second, .val (.long p2), .second, .val (.long p3), .second, .val (.long (p3 &&& (9223372036854775807 : Int64))), .second, .unset, .unset, .unset, .unset, .unset, .unset] [(.int (lcmpW (p3 &&& (9223372036854775807 : Int64)) (0 : Int64)))])) _
        refine XS.ifNo X0.here hx rfl (hb hby at_12) rfl ((if0 _ _).trans (teq ((lw_eq _ _).mpr hc1)).2) ?_
        show Steps p.tables e below (s₁.setTop (mkF m 15 #[.val (.long p1), .second, .val (.long p2), .second, .val (.long p3), .second, .val (.long (p3 &&& (9223372036854775807 : Int64))), .second, .unset, .unset, .unset, .unset, .unset, .unset] [])) _
        refine XS.lconst X0.here hx rfl (hb hby at_15) ?_
        show Steps p.tables e below (s₁.setTop (mkF m 16 #[.val (.long p1), .second, .val (.long p2), .second, .val (.long p3), .second, .val (.long (p3 &&& (9223372036854775807 : Int64))), .second, .unset, .unset, .unset, .unset, .unset, .unset] [(.long (1 : Int64))])) _
        refine XS.lstore X0.here hx rfl (hb hby at_16) rfl (l' := #[.val (.long p1), .second, .val (.long p2), .second, .val (.long p3), .second, .val (.long (1 : Int64)), .second, .unset, .unset, .unset, .unset, .unset, .unset]) rfl ?_
        show Steps p.tables e below (s₁.setTop (mkF m 18 #[.val (.long p1), .second, .val (.long p2), .second, .val (.long p3), .second, .val (.long (1 : Int64)), .second, .unset, .unset, .unset, .unset, .unset, .unset] [])) _
        refine XS.lloadN X0.here hx rfl (hb hby at_18) rfl ?_
        show Steps p.tables e below (s₁.setTop (mkF m 19 #[.val (.long p1), .second, .val (.long p2), .second, .val (.long p3), .second, .val (.long (1 : Int64)), .second, .unset, .unset, .unset, .unset, .unset, .unset] [(.long p1)])) _
        refine X0.ldc2Long hx hown (mvT hZ (hw _ (List.mem_of_getElem? (i := 0) rfl))) (g := (mkF m 19 #[.val (.long p1), .second, .val (.long p2), .second, .val (.long p3), .second, .val (.long (1 : Int64)), .second, .unset, .unset, .unset, .unset, .unset, .unset] [(.long p1)])) rfl (hb hby at_19) _ ?_
        show Steps p.tables e below (s₁.setTop (mkF m 22 #[.val (.long p1), .second, .val (.long p2), .second, .val (.long p3), .second, .val (.long (1 : Int64)), .second, .unset, .unset, .unset, .unset, .unset, .unset] [(.long (9223372036854775807 : Int64)), (.long p1)])) _
        refine XS.land X0.here hx rfl (hb hby at_22) rfl ?_
        show Steps p.tables e below (s₁.setTop (mkF m 23 #[.val (.long p1), .second, .val (.long p2), .second, .val (.long p3), .second, .val (.long (1 : Int64)), .second, .unset, .unset, .unset, .unset, .unset, .unset] [(.long (p1 &&& (9223372036854775807 : Int64)))])) _
        refine XS.lload X0.here hx rfl (hb hby at_23) rfl ?_
        show Steps p.tables e below (s₁.setTop (mkF m 25 #[.val (.long p1), .second, .val (.long p2), .second, .val (.long p3), .second, .val (.long (1 : Int64)), .second, .unset, .unset, .unset, .unset, .unset, .unset] [(.long (1 : Int64)), (.long (p1 &&& (9223372036854775807 : Int64)))])) _
        refine XS.ldiv X0.here hx rfl (hb hby at_25) rfl (by decide : ¬ ((1 : Int64) = (0 : Int64))) ?_
        show Steps p.tables e below (s₁.setTop (mkF m 26 #[.val (.long p1), .second, .val (.long p2), .second, .val (.long p3), .second, .val (.long (1 : Int64)), .second, .unset, .unset, .unset, .unset, .unset, .unset] [(.long ((p1 &&& (9223372036854775807 : Int64)) / (1 : Int64)))])) _
        refine XS.lload X0.here hx rfl (hb hby at_26) rfl ?_
        show Steps p.tables e below (s₁.setTop (mkF m 28 #[.val (.long p1), .second, .val (.long p2), .second, .val (.long p3), .second, .val (.long (1 : Int64)), .second, .unset, .unset, .unset, .unset, .unset, .unset] [(.long (1 : Int64)), (.long ((p1 &&& (9223372036854775807 : Int64)) / (1 : Int64)))])) _
        refine XS.lmul X0.here hx rfl (hb hby at_28) rfl ?_
        show Steps p.tables e below (s₁.setTop (mkF m 29 #[.val (.long p1), .second, .val (.long p2), .second, .val (.long p3), .second, .val (.long (1 : Int64)), .second, .unset, .unset, .unset, .unset, .unset, .unset] [(.long (((p1 &&& (9223372036854775807 : Int64)) / (1 : Int64)) * (1 : Int64)))])) _
        refine XS.lstore X0.here hx rfl (hb hby at_29) rfl (l' := #[.val (.long p1), .second, .val (.long p2), .second, .val (.long p3), .second, .val (.long (1 : Int64)), .second, .val (.long (((p1 &&& (9223372036854775807 : Int64)) / (1 : Int64)) * (1 : Int64))), .second, .unset, .unset, .unset, .unset]) rfl ?_
        show Steps p.tables e below (s₁.setTop (mkF m 31 #[.val (.long p1), .second, .val (.long p2), .second, .val (.long p3), .second, .val (.long (1 : Int64)), .second, .val (.long (((p1 &&& (9223372036854775807 : Int64)) / (1 : Int64)) * (1 : Int64))), .second, .unset, .unset, .unset, .unset] [])) _
        refine XS.lloadN X0.here hx rfl (hb hby at_31) rfl ?_
        show Steps p.tables e below (s₁.setTop (mkF m 32 #[.val (.long p1), .second, .val (.long p2), .second, .val (.long p3), .second, .val (.long (1 : Int64)), .second, .val (.long (((p1 &&& (9223372036854775807 : Int64)) / (1 : Int64)) * (1 : Int64))), .second, .unset, .unset, .unset, .unset] [(.long p2)])) _
        refine X0.ldc2Long hx hown (mvT hZ (hw _ (List.mem_of_getElem? (i := 0) rfl))) (g := (mkF m 32 #[.val (.long p1), .second, .val (.long p2), .second, .val (.long p3), .second, .val (.long (1 : Int64)), .second, .val (.long (((p1 &&& (9223372036854775807 : Int64)) / (1 : Int64)) * (1 : Int64))), .second, .unset, .unset, .unset, .unset] [(.long p2)])) rfl (hb hby at_32) _ ?_
        show Steps p.tables e below (s₁.setTop (mkF m 35 #[.val (.long p1), .second, .val (.long p2), .second, .val (.long p3), .second, .val (.long (1 : Int64)), .second, .val (.long (((p1 &&& (9223372036854775807 : Int64)) / (1 : Int64)) * (1 : Int64))), .second, .unset, .unset, .unset, .unset] [(.long (9223372036854775807 : Int64)), (.long p2)])) _
        refine XS.land X0.here hx rfl (hb hby at_35) rfl ?_
        show Steps p.tables e below (s₁.setTop (mkF m 36 #[.val (.long p1), .second, .val (.long p2), .second, .val (.long p3), .second, .val (.long (1 : Int64)), .second, .val (.long (((p1 &&& (9223372036854775807 : Int64)) / (1 : Int64)) * (1 : Int64))), .second, .unset, .unset, .unset, .unset] [(.long (p2 &&& (9223372036854775807 : Int64)))])) _
        refine XS.lload X0.here hx rfl (hb hby at_36) rfl ?_
        show Steps p.tables e below (s₁.setTop (mkF m 38 #[.val (.long p1), .second, .val (.long p2), .second, .val (.long p3), .second, .val (.long (1 : Int64)), .second, .val (.long (((p1 &&& (9223372036854775807 : Int64)) / (1 : Int64)) * (1 : Int64))), .second, .unset, .unset, .unset, .unset] [(.long (1 : Int64)), (.long (p2 &&& (9223372036854775807 : Int64)))])) _
        refine XS.ldiv X0.here hx rfl (hb hby at_38) rfl (by decide : ¬ ((1 : Int64) = (0 : Int64))) ?_
        show Steps p.tables e below (s₁.setTop (mkF m 39 #[.val (.long p1), .second, .val (.long p2), .second, .val (.long p3), .second, .val (.long (1 : Int64)), .second, .val (.long (((p1 &&& (9223372036854775807 : Int64)) / (1 : Int64)) * (1 : Int64))), .second, .unset, .unset, .unset, .unset] [(.long ((p2 &&& (9223372036854775807 : Int64)) / (1 : Int64)))])) _
        refine XS.lload X0.here hx rfl (hb hby at_39) rfl ?_
        show Steps p.tables e below (s₁.setTop (mkF m 41 #[.val (.long p1), .second, .val (.long p2), .second, .val (.long p3), .second, .val (.long (1 : Int64)), .second, .val (.long (((p1 &&& (9223372036854775807 : Int64)) / (1 : Int64)) * (1 : Int64))), .second, .unset, .unset, .unset, .unset] [(.long (1 : Int64)), (.long ((p2 &&& (9223372036854775807 : Int64)) / (1 : Int64)))])) _
        refine XS.lmul X0.here hx rfl (hb hby at_41) rfl ?_
        show Steps p.tables e below (s₁.setTop (mkF m 42 #[.val (.long p1), .second, .val (.long p2), .second, .val (.long p3), .second, .val (.long (1 : Int64)), .second, .val (.long (((p1 &&& (9223372036854775807 : Int64)) / (1 : Int64)) * (1 : Int64))), .second, .unset, .unset, .unset, .unset] [(.long (((p2 &&& (9223372036854775807 : Int64)) / (1 : Int64)) * (1 : Int64)))])) _
        refine XS.lstore X0.here hx rfl (hb hby at_42) rfl (l' := #[.val (.long p1), .second, .val (.long p2), .second, .val (.long p3), .second, .val (.long (1 : Int64)), .second, .val (.long (((p1 &&& (9223372036854775807 : Int64)) / (1 : Int64)) * (1 : Int64))), .second, .val (.long (((p2 &&& (9223372036854775807 : Int64)) / (1 : Int64)) * (1 : Int64))), .second, .unset, .unset]) rfl ?_
        show Steps p.tables e below (s₁.setTop (mkF m 44 #[.val (.long p1), .second, .val (.long p2), .second, .val (.long p3), .second, .val (.long (1 : Int64)), .second, .val (.long (((p1 &&& (9223372036854775807 : Int64)) / (1 : Int64)) * (1 : Int64))), .second, .val (.long (((p2 &&& (9223372036854775807 : Int64)) / (1 : Int64)) * (1 : Int64))), .second, .unset, .unset] [])) _
        refine XS.lload X0.here hx rfl (hb hby at_44) rfl ?_
        show Steps p.tables e below (s₁.setTop (mkF m 46 #[.val (.long p1), .second, .val (.long p2), .second, .val (.long p3), .second, .val (.long (1 : Int64)), .second, .val (.long (((p1 &&& (9223372036854775807 : Int64)) / (1 : Int64)) * (1 : Int64))), .second, .val (.long (((p2 &&& (9223372036854775807 : Int64)) / (1 : Int64)) * (1 : Int64))), .second, .unset, .unset] [(.long (((p1 &&& (9223372036854775807 : Int64)) / (1 : Int64)) * (1 : Int64)))])) _
        refine XS.lconst X0.here hx rfl (hb hby at_46) ?_
        show Steps p.tables e below (s₁.setTop (mkF m 47 #[.val (.long p1), .second, .val (.long p2), .second, .val (.long p3), .second, .val (.long (1 : Int64)), .second, .val (.long (((p1 &&& (9223372036854775807 : Int64)) / (1 : Int64)) * (1 : Int64))), .second, .val (.long (((p2 &&& (9223372036854775807 : Int64)) / (1 : Int64)) * (1 : Int64))), .second, .unset, .unset] [(.long (0 : Int64)), (.long (((p1 &&& (9223372036854775807 : Int64)) / (1 : Int64)) * (1 : Int64)))])) _
        refine XS.lcmp X0.here hx rfl (hb hby at_47) rfl ?_
        show Steps p.tables e below (s₁.setTop (mkF m 48 #[.val (.long p1), .second, .val (.long p2), .second, .val (.long p3), .second, .val (.long (1 : Int64)), .second, .val (.long (((p1 &&& (9223372036854775807 : Int64)) / (1 : Int64)) * (1 : Int64))), .second, .val (.long (((p2 &&& (9223372036854775807 : Int64)) / (1 : Int64)) * (1 : Int64))), .second, .unset, .unset] [(.int (lcmpW (((p1 &&& (9223372036854775807 : Int64)) / (1 : Int64)) * (1 : Int64)) (0 : Int64)))])) _
        refine XS.ifYes X0.here hx rfl (pc0 := 48) (pc' := 60) rfl (hb hby at_48) rfl ((if0 _ _).trans (feq (fun q_ => hc2 ((lw_eq _ _).mp q_))).2) (by decide) (by decide) ?_
        show Steps p.tables e below (s₁.setTop (mkF m 60 #[.val (.long p1), .second, .val (.long p2), .second, .val (.long p3), .second, .val (.long (1 : Int64)), .second, .val (.long (((p1 &&& (9223372036854775807 : Int64)) / (1 : Int64)) * (1 : Int64))), .second, .val (.long (((p2 &&& (9223372036854775807 : Int64)) / (1 : Int64)) * (1 : Int64))), .second, .unset, .unset] [])) _
        refine XS.lload X0.here hx rfl (hb hby at_60) rfl ?_
        show Steps p.tables e below (s₁.setTop (mkF m 62 #[.val (.long p1), .second, .val (.long p2), .second, .val (.long p3), .second, .val (.long (1 : Int64)), .second, .val (.long (((p1 &&& (9223372036854775807 : Int64)) / (1 : Int64)) * (1 : Int64))), .second, .val (.long (((p2 &&& (9223372036854775807 : Int64)) / (1 : Int64)) * (1 : Int64))), .second, .unset, .unset] [(.long (((p1 &&& (9223372036854775807 : Int64)) / (1 : Int64)) * (1 : Int64)))])) _
        refine XS.lload X0.here hx rfl (hb hby at_62) rfl ?_
        show Steps p.tables e below (s₁.setTop (mkF m 64 #[.val (.long p1), .second, .val (.long p2), .second, .val (.long p3), .second, .val (.long (1 : Int64)), .second, .val (.long (((p1 &&& (9223372036854775807 : Int64)) / (1 : Int64)) * (1 : Int64))), .second, .val (.long (((p2 &&& (9223372036854775807 : Int64)) / (1 : Int64)) * (1 : Int64))), .second, .unset, .unset] [(.long (((p2 &&& (9223372036854775807 : Int64)) / (1 : Int64)) * (1 : Int64))), (.long (((p1 &&& (9223372036854775807 : Int64)) / (1 : Int64)) * (1 : Int64)))])) _
        refine st2 _ ?_
        show Steps p.tables e below (T2.setTop (mkF m 67 #[.val (.long p1), .second, .val (.long p2), .second, .val (.long p3), .second, .val (.long (1 : Int64)), .second, .val (.long (((p1 &&& (9223372036854775807 : Int64)) / (1 : Int64)) * (1 : Int64))), .second, .val (.long (((p2 &&& (9223372036854775807 : Int64)) / (1 : Int64)) * (1 : Int64))), .second, .unset, .unset] [(.long g_2)])) _
        refine XS.lstore X2.here hx rfl (hb hby at_67) rfl (l' := #[.val (.long p1), .second, .val (.long p2), .second, .val (.long p3), .second, .val (.long (1 : Int64)), .second, .val (.long (((p1 &&& (9223372036854775807 : Int64)) / (1 : Int64)) * (1 : Int64))), .second, .val (.long (((p2 &&& (9223372036854775807 : Int64)) / (1 : Int64)) * (1 : Int64))), .second, .val (.long g_2), .second]) rfl ?_
        show Steps p.tables e below (T2.setTop (mkF m 69 #[.val (.long p1), .second, .val (.long p2), .second, .val (.long p3), .second, .val (.long (1 : Int64)), .second, .val (.long (((p1 &&& (9223372036854775807 : Int64)) / (1 : Int64)) * (1 : Int64))), .second, .val (.long (((p2 &&& (9223372036854775807 : Int64)) / (1 : Int64)) * (1 : Int64))), .second, .val (.long g_2), .second] [])) _
        refine XS.lload X2.here hx rfl (hb hby at_69) rfl ?_
        show Steps p.tables e below (T2.setTop (mkF m 71 #[.val (.long p1), .second, .val (.long p2), .second, .val (.long p3), .second, .val (.long (1 : Int64)), .second, .val (.long (((p1 &&& (9223372036854775807 : Int64)) / (1 : Int64)) * (1 : Int64))), .second, .val (.long (((p2 &&& (9223372036854775807 : Int64)) / (1 : Int64)) * (1 : Int64))), .second, .val (.long g_2), .second] [(.long g_2)])) _
        refine XS.lconst X2.here hx rfl (hb hby at_71) ?_
        show Steps p.tables e below (T2.setTop (mkF m 72 #[.val (.long p1), .second, .val (.long p2), .second, .val (.long p3), .second, .val (.long (1 : Int64)), .second, .val (.long (((p1 &&& (9223372036854775807 : Int64)) / (1 : Int64)) * (1 : Int64))), .second, .val (.long (((p2 &&& (9223372036854775807 : Int64)) / (1 : Int64)) * (1 : Int64))), .second, .val (.long g_2), .second] [(.long (0 : Int64)), (.long g_2)])) _
        refine XS.lcmp X2.here hx rfl (hb hby at_72) rfl ?_
        show Steps p.tables e below (T2.setTop (mkF m 73 #[.val (.long p1), .second, .val (.long p2), .second, .val (.long p3), .second, .val (.long (1 : Int64)), .second, .val (.long (((p1 &&& (9223372036854775807 : Int64)) / (1 : Int64)) * (1 : Int64))), .second, .val (.long (((p2 &&& (9223372036854775807 : Int64)) / (1 : Int64)) * (1 : Int64))), .second, .val (.long g_2), .second] [(.int (lcmpW g_2 (0 : Int64)))])) _
        refine XS.ifNo X2.here hx rfl (hb hby at_73) rfl ((if0 _ _).trans (tlt ((lw_gt _ _).mpr (own_g1 (own_mul p1 (by decide : (0 : Int) < (1 : Int64).toInt)) (own_mul p2 (by decide : (0 : Int) < (1 : Int64).toInt)) (by decide : (0 : Int) < (1 : Int64).toInt) p2_0 (Or.inl hc2)))).2.2.2) ?_
        show Steps p.tables e below (T2.setTop (mkF m 76 #[.val (.long p1), .second, .val (.long p2), .second, .val (.long p3), .second, .val (.long (1 : Int64)), .second, .val (.long (((p1 &&& (9223372036854775807 : Int64)) / (1 : Int64)) * (1 : Int64))), .second, .val (.long (((p2 &&& (9223372036854775807 : Int64)) / (1 : Int64)) * (1 : Int64))), .second, .val (.long g_2), .second] [])) _
        refine XS.lload X2.here hx rfl (hb hby at_76) rfl ?_
        show Steps p.tables e below (T2.setTop (mkF m 78 #[.val (.long p1), .second, .val (.long p2), .second, .val (.long p3), .second, .val (.long (1 : Int64)), .second, .val (.long (((p1 &&& (9223372036854775807 : Int64)) / (1 : Int64)) * (1 : Int64))), .second, .val (.long (((p2 &&& (9223372036854775807 : Int64)) / (1 : Int64)) * (1 : Int64))), .second, .val (.long g_2), .second] [(.long (((p1 &&& (9223372036854775807 : Int64)) / (1 : Int64)) * (1 : Int64)))])) _
        refine XS.lload X2.here hx rfl (hb hby at_78) rfl ?_
        show Steps p.tables e below (T2.setTop (mkF m 80 #[.val (.long p1), .second, .val (.long p2), .second, .val (.long p3), .second, .val (.long (1 : Int64)), .second, .val (.long (((p1 &&& (9223372036854775807 : Int64)) / (1 : Int64)) * (1 : Int64))), .second, .val (.long (((p2 &&& (9223372036854775807 : Int64)) / (1 : Int64)) * (1 : Int64))), .second, .val (.long g_2), .second] [(.long g_2), (.long (((p1 &&& (9223372036854775807 : Int64)) / (1 : Int64)) * (1 : Int64)))])) _
        refine XS.lrem X2.here hx rfl (hb hby at_80) rfl (own_g0 (own_mul p1 (by decide : (0 : Int) < (1 : Int64).toInt)) (own_mul p2 (by decide : (0 : Int) < (1 : Int64).toInt)) (by decide : (0 : Int) < (1 : Int64).toInt) p2_0 (Or.inl hc2)) ?_
        show Steps p.tables e below (T2.setTop (mkF m 81 #[.val (.long p1), .second, .val (.long p2), .second, .val (.long p3), .second, .val (.long (1 : Int64)), .second, .val (.long (((p1 &&& (9223372036854775807 : Int64)) / (1 : Int64)) * (1 : Int64))), .second, .val (.long (((p2 &&& (9223372036854775807 : Int64)) / (1 : Int64)) * (1 : Int64))), .second, .val (.long g_2), .second] [(.long ((((p1 &&& (9223372036854775807 : Int64)) / (1 : Int64)) * (1 : Int64)) - ((((p1 &&& (9223372036854775807 : Int64)) / (1 : Int64)) * (1 : Int64)) / g_2) * g_2))])) _
        refine XS.lconst X2.here hx rfl (hb hby at_81) ?_
        show Steps p.tables e below (T2.setTop (mkF m 82 #[.val (.long p1), .second, .val (.long p2), .second, .val (.long p3), .second, .val (.long (1 : Int64)), .second, .val (.long (((p1 &&& (9223372036854775807 : Int64)) / (1 : Int64)) * (1 : Int64))), .second, .val (.long (((p2 &&& (9223372036854775807 : Int64)) / (1 : Int64)) * (1 : Int64))), .second, .val (.long g_2), .second] [(.long (0 : Int64)), (.long ((((p1 &&& (9223372036854775807 : Int64)) / (1 : Int64)) * (1 : Int64)) - ((((p1 &&& (9223372036854775807 : Int64)) / (1 : Int64)) * (1 : Int64)) / g_2) * g_2))])) _
        refine XS.lcmp X2.here hx rfl (hb hby at_82) rfl ?_
        show Steps p.tables e below (T2.setTop (mkF m 83 #[.val (.long p1), .second, .val (.long p2), .second, .val (.long p3), .second, .val (.long (1 : Int64)), .second, .val (.long (((p1 &&& (9223372036854775807 : Int64)) / (1 : Int64)) * (1 : Int64))), .second, .val (.long (((p2 &&& (9223372036854775807 : Int64)) / (1 : Int64)) * (1 : Int64))), .second, .val (.long g_2), .second] [(.int (lcmpW ((((p1 &&& (9223372036854775807 : Int64)) / (1 : Int64)) * (1 : Int64)) - ((((p1 &&& (9223372036854775807 : Int64)) / (1 : Int64)) * (1 : Int64)) / g_2) * g_2) (0 : Int64)))])) _
        refine XS.ifNo X2.here hx rfl (hb hby at_83) rfl ((if0 _ _).trans (teq ((lw_eq _ _).mpr (own_g2 (own_mul p1 (by decide : (0 : Int) < (1 : Int64).toInt)) (own_mul p2 (by decide : (0 : Int) < (1 : Int64).toInt)) (by decide : (0 : Int) < (1 : Int64).toInt) p2_0 (Or.inl hc2)))).2) ?_
        show Steps p.tables e below (T2.setTop (mkF m 86 #[.val (.long p1), .second, .val (.long p2), .second, .val (.long p3), .second, .val (.long (1 : Int64)), .second, .val (.long (((p1 &&& (9223372036854775807 : Int64)) / (1 : Int64)) * (1 : Int64))), .second, .val (.long (((p2 &&& (9223372036854775807 : Int64)) / (1 : Int64)) * (1 : Int64))), .second, .val (.long g_2), .second] [])) _
        refine XS.lload X2.here hx rfl (hb hby at_86) rfl ?_
        show Steps p.tables e below (T2.setTop (mkF m 88 #[.val (.long p1), .second, .val (.long p2), .second, .val (.long p3), .second, .val (.long (1 : Int64)), .second, .val (.long (((p1 &&& (9223372036854775807 : Int64)) / (1 : Int64)) * (1 : Int64))), .second, .val (.long (((p2 &&& (9223372036854775807 : Int64)) / (1 : Int64)) * (1 : Int64))), .second, .val (.long g_2), .second] [(.long (((p2 &&& (9223372036854775807 : Int64)) / (1 : Int64)) * (1 : Int64)))])) _
        refine XS.lload X2.here hx rfl (hb hby at_88) rfl ?_
        show Steps p.tables e below (T2.setTop (mkF m 90 #[.val (.long p1), .second, .val (.long p2), .second, .val (.long p3), .second, .val (.long (1 : Int64)), .second, .val (.long (((p1 &&& (9223372036854775807 : Int64)) / (1 : Int64)) * (1 : Int64))), .second, .val (.long (((p2 &&& (9223372036854775807 : Int64)) / (1 : Int64)) * (1 : Int64))), .second, .val (.long g_2), .second] [(.long g_2), (.long (((p2 &&& (9223372036854775807 : Int64)) / (1 : Int64)) * (1 : Int64)))])) _
        refine XS.lrem X2.here hx rfl (hb hby at_90) rfl (own_g0 (own_mul p1 (by decide : (0 : Int) < (1 : Int64).toInt)) (own_mul p2 (by decide : (0 : Int) < (1 : Int64).toInt)) (by decide : (0 : Int) < (1 : Int64).toInt) p2_0 (Or.inl hc2)) ?_
        show Steps p.tables e below (T2.setTop (mkF m 91 #[.val (.long p1), .second, .val (.long p2), .second, .val (.long p3), .second, .val (.long (1 : Int64)), .second, .val (.long (((p1 &&& (9223372036854775807 : Int64)) / (1 : Int64)) * (1 : Int64))), .second, .val (.long (((p2 &&& (9223372036854775807 : Int64)) / (1 : Int64)) * (1 : Int64))), .second, .val (.long g_2), .second] [(.long ((((p2 &&& (9223372036854775807 : Int64)) / (1 : Int64)) * (1 : Int64)) - ((((p2 &&& (9223372036854775807 : Int64)) / (1 : Int64)) * (1 : Int64)) / g_2) * g_2))])) _
        refine XS.lconst X2.here hx rfl (hb hby at_91) ?_
        show Steps p.tables e below (T2.setTop (mkF m 92 #[.val (.long p1), .second, .val (.long p2), .second, .val (.long p3), .second, .val (.long (1 : Int64)), .second, .val (.long (((p1 &&& (9223372036854775807 : Int64)) / (1 : Int64)) * (1 : Int64))), .second, .val (.long (((p2 &&& (9223372036854775807 : Int64)) / (1 : Int64)) * (1 : Int64))), .second, .val (.long g_2), .second] [(.long (0 : Int64)), (.long ((((p2 &&& (9223372036854775807 : Int64)) / (1 : Int64)) * (1 : Int64)) - ((((p2 &&& (9223372036854775807 : Int64)) / (1 : Int64)) * (1 : Int64)) / g_2) * g_2))])) _
        refine XS.lcmp X2.here hx rfl (hb hby at_92) rfl ?_
        show Steps p.tables e below (T2.setTop (mkF m 93 #[.val (.long p1), .second, .val (.long p2), .second, .val (.long p3), .second, .val (.long (1 : Int64)), .second, .val (.long (((p1 &&& (9223372036854775807 : Int64)) / (1 : Int64)) * (1 : Int64))), .second, .val (.long (((p2 &&& (9223372036854775807 : Int64)) / (1 : Int64)) * (1 : Int64))), .second, .val (.long g_2), .second] [(.int (lcmpW ((((p2 &&& (9223372036854775807 : Int64)) / (1 : Int64)) * (1 : Int64)) - ((((p2 &&& (9223372036854775807 : Int64)) / (1 : Int64)) * (1 : Int64)) / g_2) * g_2) (0 : Int64)))])) _
        refine XS.ifNo X2.here hx rfl (hb hby at_93) rfl ((if0 _ _).trans (teq ((lw_eq _ _).mpr (own_g3 (own_mul p1 (by decide : (0 : Int) < (1 : Int64).toInt)) (own_mul p2 (by decide : (0 : Int) < (1 : Int64).toInt)) (by decide : (0 : Int) < (1 : Int64).toInt) p2_0 (Or.inl hc2)))).2) ?_
        show Steps p.tables e below (T2.setTop (mkF m 96 #[.val (.long p1), .second, .val (.long p2), .second, .val (.long p3), .second, .val (.long (1 : Int64)), .second, .val (.long (((p1 &&& (9223372036854775807 : Int64)) / (1 : Int64)) * (1 : Int64))), .second, .val (.long (((p2 &&& (9223372036854775807 : Int64)) / (1 : Int64)) * (1 : Int64))), .second, .val (.long g_2), .second] [])) _
        refine XS.lload X2.here hx rfl (hb hby at_96) rfl ?_
        show Steps p.tables e below (T2.setTop (mkF m 98 #[.val (.long p1), .second, .val (.long p2), .second, .val (.long p3), .second, .val (.long (1 : Int64)), .second, .val (.long (((p1 &&& (9223372036854775807 : Int64)) / (1 : Int64)) * (1 : Int64))), .second, .val (.long (((p2 &&& (9223372036854775807 : Int64)) / (1 : Int64)) * (1 : Int64))), .second, .val (.long g_2), .second] [(.long g_2)])) _
        refine XS.lload X2.here hx rfl (hb hby at_98) rfl ?_
        show Steps p.tables e below (T2.setTop (mkF m 100 #[.val (.long p1), .second, .val (.long p2), .second, .val (.long p3), .second, .val (.long (1 : Int64)), .second, .val (.long (((p1 &&& (9223372036854775807 : Int64)) / (1 : Int64)) * (1 : Int64))), .second, .val (.long (((p2 &&& (9223372036854775807 : Int64)) / (1 : Int64)) * (1 : Int64))), .second, .val (.long g_2), .second] [(.long (1 : Int64)), (.long g_2)])) _
        refine XS.lrem X2.here hx rfl (hb hby at_100) rfl (by decide : ¬ ((1 : Int64) = (0 : Int64))) ?_
        show Steps p.tables e below (T2.setTop (mkF m 101 #[.val (.long p1), .second, .val (.long p2), .second, .val (.long p3), .second, .val (.long (1 : Int64)), .second, .val (.long (((p1 &&& (9223372036854775807 : Int64)) / (1 : Int64)) * (1 : Int64))), .second, .val (.long (((p2 &&& (9223372036854775807 : Int64)) / (1 : Int64)) * (1 : Int64))), .second, .val (.long g_2), .second] [(.long (g_2 - (g_2 / (1 : Int64)) * (1 : Int64)))])) _
        refine XS.lconst X2.here hx rfl (hb hby at_101) ?_
        show Steps p.tables e below (T2.setTop (mkF m 102 #[.val (.long p1), .second, .val (.long p2), .second, .val (.long p3), .second, .val (.long (1 : Int64)), .second, .val (.long (((p1 &&& (9223372036854775807 : Int64)) / (1 : Int64)) * (1 : Int64))), .second, .val (.long (((p2 &&& (9223372036854775807 : Int64)) / (1 : Int64)) * (1 : Int64))), .second, .val (.long g_2), .second] [(.long (0 : Int64)), (.long (g_2 - (g_2 / (1 : Int64)) * (1 : Int64)))])) _
        refine XS.lcmp X2.here hx rfl (hb hby at_102) rfl ?_
        show Steps p.tables e below (T2.setTop (mkF m 103 #[.val (.long p1), .second, .val (.long p2), .second, .val (.long p3), .second, .val (.long (1 : Int64)), .second, .val (.long (((p1 &&& (9223372036854775807 : Int64)) / (1 : Int64)) * (1 : Int64))), .second, .val (.long (((p2 &&& (9223372036854775807 : Int64)) / (1 : Int64)) * (1 : Int64))), .second, .val (.long g_2), .second] [(.int (lcmpW (g_2 - (g_2 / (1 : Int64)) * (1 : Int64)) (0 : Int64)))])) _
        refine XS.ifNo X2.here hx rfl (hb hby at_103) rfl ((if0 _ _).trans (teq ((lw_eq _ _).mpr (own_g4 (own_mul p1 (by decide : (0 : Int) < (1 : Int64).toInt)) (own_mul p2 (by decide : (0 : Int) < (1 : Int64).toInt)) (by decide : (0 : Int) < (1 : Int64).toInt) p2_0 (Or.inl hc2)))).2) ?_
        show Steps p.tables e below (T2.setTop (mkF m 106 #[.val (.long p1), .second, .val (.long p2), .second, .val (.long p3), .second, .val (.long (1 : Int64)), .second, .val (.long (((p1 &&& (9223372036854775807 : Int64)) / (1 : Int64)) * (1 : Int64))), .second, .val (.long (((p2 &&& (9223372036854775807 : Int64)) / (1 : Int64)) * (1 : Int64))), .second, .val (.long g_2), .second] [])) _
        refine XS.iconst X2.here hx rfl (hb hby at_106) ?_
        show Steps p.tables e below (T2.setTop (mkF m 107 #[.val (.long p1), .second, .val (.long p2), .second, .val (.long p3), .second, .val (.long (1 : Int64)), .second, .val (.long (((p1 &&& (9223372036854775807 : Int64)) / (1 : Int64)) * (1 : Int64))), .second, .val (.long (((p2 &&& (9223372036854775807 : Int64)) / (1 : Int64)) * (1 : Int64))), .second, .val (.long g_2), .second] [(.int (1 : Int32))])) _
        refine XS.goto X2.here hx rfl (pc0 := 107) (pc' := 111) rfl (hb hby at_107) (by decide) (by decide) ?_
        show Steps p.tables e below (T2.setTop (mkF m 111 #[.val (.long p1), .second, .val (.long p2), .second, .val (.long p3), .second, .val (.long (1 : Int64)), .second, .val (.long (((p1 &&& (9223372036854775807 : Int64)) / (1 : Int64)) * (1 : Int64))), .second, .val (.long (((p2 &&& (9223372036854775807 : Int64)) / (1 : Int64)) * (1 : Int64))), .second, .val (.long g_2), .second] [(.int (1 : Int32))])) _
        exact retN X2 hx (t := .boolean) Bd.returns (by simp) (hb hby at_111) hr
      · show Q_rm0 Z p1 p2 p3 h0 n0 _ T2.heap _
        exact ⟨rfl, N2⟩
  · by_cases hc4 : (((p1 &&& (9223372036854775807 : Int64)) / (p3 &&& (9223372036854775807 : Int64))) * (p3 &&& (9223372036854775807 : Int64))) = (0 : Int64)
    · by_cases hc5 : (((p2 &&& (9223372036854775807 : Int64)) / (p3 &&& (9223372036854775807 : Int64))) * (p3 &&& (9223372036854775807 : Int64))) = (0 : Int64)
      · obtain ⟨fs, hr, hrun, hended, hW, hsame⟩ := X0.leave (v := some (.int (1 : Int32))) (fun h => by rw [Bd.returns] at h; cases h)
        refine ⟨_, _, pre0 _ ?_, hrun, hended, _, _, rfl, ?_, ⟨_, rfl⟩, hW, hsame.mono (by decide) (by decide)⟩
        · show Steps p.tables e below (s₁.setTop (mkF m 0 #[.val (.long p1), .second, .val (.long p2), .second, .val (.long p3), .second, .unset, .unset, .unset, .unset, .unset, .unset, .unset, .unset] [])) _
          refine XS.lload X0.here hx rfl (hb hby at_0) rfl ?_
          show Steps p.tables e below (s₁.setTop (mkF m 2 #[.val (.long p1), .second, .val (.long p2), .second, .val (.long p3), .second, .unset, .unset, .unset, .unset, .unset, .unset, .unset, .unset] [(.long p3)])) _
          refine X0.ldc2Long hx hown (mvT hZ (hw _ (List.mem_of_getElem? (i := 0) rfl))) (g := (mkF m 2 #[.val (.long p1), .second, .val (.long p2), .second, .val (.long p3), .second, .unset, .unset, .unset, .unset, .unset, .unset, .unset, .unset] [(.long p3)])) rfl (hb hby at_2) _ ?_
          show Steps p.tables e below (s₁.setTop (mkF m 5 #[.val (.long p1), .second, .val (.long p2), .second, .val (.long p3), .second, .unset, .unset, .unset, .unset, .unset, .unset, .unset, .unset] [(.long (9223372036854775807 : Int64)), (.long p3)])) _
          refine XS.land X0.here hx rfl (hb hby at_5) rfl ?_
          show Steps p.tables e below (s₁.setTop (mkF m 6 #[.val (.long p1), .second, .val (.long p2), .second, .val (.long p3), .second, .unset, .unset, .unset, .unset, .unset, .unset, .unset, .unset] [(.long (p3 &&& (9223372036854775807 : Int64)))])) _
          refine XS.lstore X0.here hx rfl (hb hby at_6) rfl (l' := #[.val (.long p1), .second, .val (.long p2), .second, .val (.long p3), .second, .val (.long (p3 &&& (9223372036854775807 : Int64))), .second, .unset, .unset, .unset, .unset, .unset, .unset]) rfl ?_
          show Steps p.tables e below (s₁.setTop (mkF m 8 #[.val (.long p1), .second, .val (.long p2), .second, .val (.long p3), .second, .val (.long (p3 &&& (9223372036854775807 : Int64))), .second, .unset, .unset, .unset, .unset, .unset, .unset] [])) _
          refine XS.lload X0.here hx rfl (hb hby at_8) rfl ?_
          show Steps p.tables e below (s₁.setTop (mkF m 10 #[.val (.long p1), .second, .val (.long p2), .second, .val (.long p3), .second, .val (.long (p3 &&& (9223372036854775807 : Int64))), .second, .unset, .unset, .unset, .unset, .unset, .unset] [(.long (p3 &&& (9223372036854775807 : Int64)))])) _
          refine XS.lconst X0.here hx rfl (hb hby at_10) ?_
          show Steps p.tables e below (s₁.setTop (mkF m 11 #[.val (.long p1), .second, .val (.long p2), .second, .val (.long p3), .second, .val (.long (p3 &&& (9223372036854775807 : Int64))), .second, .unset, .unset, .unset, .unset, .unset, .unset] [(.long (0 : Int64)), (.long (p3 &&& (9223372036854775807 : Int64)))])) _
          refine XS.lcmp X0.here hx rfl (hb hby at_11) rfl ?_
          show Steps p.tables e below (s₁.setTop (mkF m 12 #[.val (.long p1), .second, .val (.long p2), .second, .val (.long p3), .second, .val (.long (p3 &&& (9223372036854775807 : Int64))), .second, .unset, .unset, .unset, .unset, .unset, .unset] [(.int (lcmpW (p3 &&& (9223372036854775807 : Int64)) (0 : Int64)))])) _
          refine XS.ifYes X0.here hx rfl (pc0 := 12) (pc' := 18) rfl (hb hby at_12) rfl ((if0 _ _).trans (feq (fun q_ => hc1 ((lw_eq _ _).mp q_))).2) (by decide) (by decide) ?_
          show Steps p.tables e below (s₁.setTop (mkF m 18 #[.val (.long p1), .second, .val (.long p2), .second, .val (.long p3), .second, .val (.long (p3 &&& (9223372036854775807 : Int64))), .second, .unset, .unset, .unset, .unset, .unset, .unset] [])) _
          refine XS.lloadN X0.here hx rfl (hb hby at_18) rfl ?_
          show Steps p.tables e below (s₁.setTop (mkF m 19 #[.val (.long p1), .second, .val (.long p2), .second, .val (.long p3), .second, .val (.long (p3 &&& (9223372036854775807 : Int64))), .second, .unset, .unset, .unset, .unset, .unset, .unset] [(.long p1)])) _
          refine X0.ldc2Long hx hown (mvT hZ (hw _ (List.mem_of_getElem? (i := 0) rfl))) (g := (mkF m 19 #[.val (.long p1), .second, .val (.long p2), .second, .val (.long p3), .second, .val (.long (p3 &&& (9223372036854775807 : Int64))), .second, .unset, .unset, .unset, .unset, .unset, .unset] [(.long p1)])) rfl (hb hby at_19) _ ?_
          show Steps p.tables e below (s₁.setTop (mkF m 22 #[.val (.long p1), .second, .val (.long p2), .second, .val (.long p3), .second, .val (.long (p3 &&& (9223372036854775807 : Int64))), .second, .unset, .unset, .unset, .unset, .unset, .unset] [(.long (9223372036854775807 : Int64)), (.long p1)])) _
          refine XS.land X0.here hx rfl (hb hby at_22) rfl ?_
          show Steps p.tables e below (s₁.setTop (mkF m 23 #[.val (.long p1), .second, .val (.long p2), .second, .val (.long p3), .second, .val (.long (p3 &&& (9223372036854775807 : Int64))), .second, .unset, .unset, .unset, .unset, .unset, .unset] [(.long (p1 &&& (9223372036854775807 : Int64)))])) _
          refine XS.lload X0.here hx rfl (hb hby at_23) rfl ?_
          show Steps p.tables e below (s₁.setTop (mkF m 25 #[.val (.long p1), .second, .val (.long p2), .second, .val (.long p3), .second, .val (.long (p3 &&& (9223372036854775807 : Int64))), .second, .unset, .unset, .unset, .unset, .unset, .unset] [(.long (p3 &&& (9223372036854775807 : Int64))), (.long (p1 &&& (9223372036854775807 : Int64)))])) _
          refine XS.ldiv X0.here hx rfl (hb hby at_25) rfl hc1 ?_
          show Steps p.tables e below (s₁.setTop (mkF m 26 #[.val (.long p1), .second, .val (.long p2), .second, .val (.long p3), .second, .val (.long (p3 &&& (9223372036854775807 : Int64))), .second, .unset, .unset, .unset, .unset, .unset, .unset] [(.long ((p1 &&& (9223372036854775807 : Int64)) / (p3 &&& (9223372036854775807 : Int64))))])) _
          refine XS.lload X0.here hx rfl (hb hby at_26) rfl ?_
          show Steps p.tables e below (s₁.setTop (mkF m 28 #[.val (.long p1), .second, .val (.long p2), .second, .val (.long p3), .second, .val (.long (p3 &&& (9223372036854775807 : Int64))), .second, .unset, .unset, .unset, .unset, .unset, .unset] [(.long (p3 &&& (9223372036854775807 : Int64))), (.long ((p1 &&& (9223372036854775807 : Int64)) / (p3 &&& (9223372036854775807 : Int64))))])) _
          refine XS.lmul X0.here hx rfl (hb hby at_28) rfl ?_
          show Steps p.tables e below (s₁.setTop (mkF m 29 #[.val (.long p1), .second, .val (.long p2), .second, .val (.long p3), .second, .val (.long (p3 &&& (9223372036854775807 : Int64))), .second, .unset, .unset, .unset, .unset, .unset, .unset] [(.long (((p1 &&& (9223372036854775807 : Int64)) / (p3 &&& (9223372036854775807 : Int64))) * (p3 &&& (9223372036854775807 : Int64))))])) _
          refine XS.lstore X0.here hx rfl (hb hby at_29) rfl (l' := #[.val (.long p1), .second, .val (.long p2), .second, .val (.long p3), .second, .val (.long (p3 &&& (9223372036854775807 : Int64))), .second, .val (.long (((p1 &&& (9223372036854775807 : Int64)) / (p3 &&& (9223372036854775807 : Int64))) * (p3 &&& (9223372036854775807 : Int64)))), .second, .unset, .unset, .unset, .unset]) rfl ?_
          show Steps p.tables e below (s₁.setTop (mkF m 31 #[.val (.long p1), .second, .val (.long p2), .second, .val (.long p3), .second, .val (.long (p3 &&& (9223372036854775807 : Int64))), .second, .val (.long (((p1 &&& (9223372036854775807 : Int64)) / (p3 &&& (9223372036854775807 : Int64))) * (p3 &&& (9223372036854775807 : Int64)))), .second, .unset, .unset, .unset, .unset] [])) _
          refine XS.lloadN X0.here hx rfl (hb hby at_31) rfl ?_
          show Steps p.tables e below (s₁.setTop (mkF m 32 #[.val (.long p1), .second, .val (.long p2), .second, .val (.long p3), .second, .val (.long (p3 &&& (9223372036854775807 : Int64))), .second, .val (.long (((p1 &&& (9223372036854775807 : Int64)) / (p3 &&& (9223372036854775807 : Int64))) * (p3 &&& (9223372036854775807 : Int64)))), .second, .unset, .unset, .unset, .unset] [(.long p2)])) _
          refine X0.ldc2Long hx hown (mvT hZ (hw _ (List.mem_of_getElem? (i := 0) rfl))) (g := (mkF m 32 #[.val (.long p1), .second, .val (.long p2), .second, .val (.long p3), .second, .val (.long (p3 &&& (9223372036854775807 : Int64))), .second, .val (.long (((p1 &&& (9223372036854775807 : Int64)) / (p3 &&& (9223372036854775807 : Int64))) * (p3 &&& (9223372036854775807 : Int64)))), .second, .unset, .unset, .unset, .unset] [(.long p2)])) rfl (hb hby at_32) _ ?_
          show Steps p.tables e below (s₁.setTop (mkF m 35 #[.val (.long p1), .second, .val (.long p2), .second, .val (.long p3), .second, .val (.long (p3 &&& (9223372036854775807 : Int64))), .second, .val (.long (((p1 &&& (9223372036854775807 : Int64)) / (p3 &&& (9223372036854775807 : Int64))) * (p3 &&& (9223372036854775807 : Int64)))), .second, .unset, .unset, .unset, .unset] [(.long (9223372036854775807 : Int64)), (.long p2)])) _
          refine XS.land X0.here hx rfl (hb hby at_35) rfl ?_
          show Steps p.tables e below (s₁.setTop (mkF m 36 #[.val (.long p1), .second, .val (.long p2), .second, .val (.long p3), .second, .val (.long (p3 &&& (9223372036854775807 : Int64))), .second, .val (.long (((p1 &&& (9223372036854775807 : Int64)) / (p3 &&& (9223372036854775807 : Int64))) * (p3 &&& (9223372036854775807 : Int64)))), .second, .unset, .unset, .unset, .unset] [(.long (p2 &&& (9223372036854775807 : Int64)))])) _
          refine XS.lload X0.here hx rfl (hb hby at_36) rfl ?_
          show Steps p.tables e below (s₁.setTop (mkF m 38 #[.val (.long p1), .second, .val (.long p2), .second, .val (.long p3), .second, .val (.long (p3 &&& (9223372036854775807 : Int64))), .second, .val (.long (((p1 &&& (9223372036854775807 : Int64)) / (p3 &&& (9223372036854775807 : Int64))) * (p3 &&& (9223372036854775807 : Int64)))), .second, .unset, .unset, .unset, .unset] [(.long (p3 &&& (9223372036854775807 : Int64))), (.long (p2 &&& (9223372036854775807 : Int64)))])) _
          refine XS.ldiv X0.here hx rfl (hb hby at_38) rfl hc1 ?_
          show Steps p.tables e below (s₁.setTop (mkF m 39 #[.val (.long p1), .second, .val (.long p2), .second, .val (.long p3), .second, .val (.long (p3 &&& (9223372036854775807 : Int64))), .second, .val (.long (((p1 &&& (9223372036854775807 : Int64)) / (p3 &&& (9223372036854775807 : Int64))) * (p3 &&& (9223372036854775807 : Int64)))), .second, .unset, .unset, .unset, .unset] [(.long ((p2 &&& (9223372036854775807 : Int64)) / (p3 &&& (9223372036854775807 : Int64))))])) _
          refine XS.lload X0.here hx rfl (hb hby at_39) rfl ?_
          show Steps p.tables e below (s₁.setTop (mkF m 41 #[.val (.long p1), .second, .val (.long p2), .second, .val (.long p3), .second, .val (.long (p3 &&& (9223372036854775807 : Int64))), .second, .val (.long (((p1 &&& (9223372036854775807 : Int64)) / (p3 &&& (9223372036854775807 : Int64))) * (p3 &&& (9223372036854775807 : Int64)))), .second, .unset, .unset, .unset, .unset] [(.long (p3 &&& (9223372036854775807 : Int64))), (.long ((p2 &&& (9223372036854775807 : Int64)) / (p3 &&& (9223372036854775807 : Int64))))])) _
          refine XS.lmul X0.here hx rfl (hb hby at_41) rfl ?_
          show Steps p.tables e below (s₁.setTop (mkF m 42 #[.val (.long p1), .second, .val (.long p2), .second, .val (.long p3), .second, .val (.long (p3 &&& (9223372036854775807 : Int64))), .second, .val (.long (((p1 &&& (9223372036854775807 : Int64)) / (p3 &&& (9223372036854775807 : Int64))) * (p3 &&& (9223372036854775807 : Int64)))), .second, .unset, .unset, .unset, .unset] [(.long (((p2 &&& (9223372036854775807 : Int64)) / (p3 &&& (9223372036854775807 : Int64))) * (p3 &&& (9223372036854775807 : Int64))))])) _
          refine XS.lstore X0.here hx rfl (hb hby at_42) rfl (l' := #[.val (.long p1), .second, .val (.long p2), .second, .val (.long p3), .second, .val (.long (p3 &&& (9223372036854775807 : Int64))), .second, .val (.long (((p1 &&& (9223372036854775807 : Int64)) / (p3 &&& (9223372036854775807 : Int64))) * (p3 &&& (9223372036854775807 : Int64)))), .second, .val (.long (((p2 &&& (9223372036854775807 : Int64)) / (p3 &&& (9223372036854775807 : Int64))) * (p3 &&& (9223372036854775807 : Int64)))), .second, .unset, .unset]) rfl ?_
          show Steps p.tables e below (s₁.setTop (mkF m 44 #[.val (.long p1), .second, .val (.long p2), .second, .val (.long p3), .second, .val (.long (p3 &&& (9223372036854775807 : Int64))), .second, .val (.long (((p1 &&& (9223372036854775807 : Int64)) / (p3 &&& (9223372036854775807 : Int64))) * (p3 &&& (9223372036854775807 : Int64)))), .second, .val (.long (((p2 &&& (9223372036854775807 : Int64)) / (p3 &&& (9223372036854775807 : Int64))) * (p3 &&& (9223372036854775807 : Int64)))), .second, .unset, .unset] [])) _
          refine XS.lload X0.here hx rfl (hb hby at_44) rfl ?_
          show Steps p.tables e below (s₁.setTop (mkF m 46 #[.val (.long p1), .second, .val (.long p2), .second, .val (.long p3), .second, .val (.long (p3 &&& (9223372036854775807 : Int64))), .second, .val (.long (((p1 &&& (9223372036854775807 : Int64)) / (p3 &&& (9223372036854775807 : Int64))) * (p3 &&& (9223372036854775807 : Int64)))), .second, .val (.long (((p2 &&& (9223372036854775807 : Int64)) / (p3 &&& (9223372036854775807 : Int64))) * (p3 &&& (9223372036854775807 : Int64)))), .second, .unset, .unset] [(.long (((p1 &&& (9223372036854775807 : Int64)) / (p3 &&& (9223372036854775807 : Int64))) * (p3 &&& (9223372036854775807 : Int64))))])) _
          refine XS.lconst X0.here hx rfl (hb hby at_46) ?_
          show Steps p.tables e below (s₁.setTop (mkF m 47 #[.val (.long p1), .second, .val (.long p2), .second, .val (.long p3), .second, .val (.long (p3 &&& (9223372036854775807 : Int64))), .second, .val (.long (((p1 &&& (9223372036854775807 : Int64)) / (p3 &&& (9223372036854775807 : Int64))) * (p3 &&& (9223372036854775807 : Int64)))), .second, .val (.long (((p2 &&& (9223372036854775807 : Int64)) / (p3 &&& (9223372036854775807 : Int64))) * (p3 &&& (9223372036854775807 : Int64)))), .second, .unset, .unset] [(.long (0 : Int64)), (.long (((p1 &&& (9223372036854775807 : Int64)) / (p3 &&& (9223372036854775807 : Int64))) * (p3 &&& (9223372036854775807 : Int64))))])) _
          refine XS.lcmp X0.here hx rfl (hb hby at_47) rfl ?_
          show Steps p.tables e below (s₁.setTop (mkF m 48 #[.val (.long p1), .second, .val (.long p2), .second, .val (.long p3), .second, .val (.long (p3 &&& (9223372036854775807 : Int64))), .second, .val (.long (((p1 &&& (9223372036854775807 : Int64)) / (p3 &&& (9223372036854775807 : Int64))) * (p3 &&& (9223372036854775807 : Int64)))), .second, .val (.long (((p2 &&& (9223372036854775807 : Int64)) / (p3 &&& (9223372036854775807 : Int64))) * (p3 &&& (9223372036854775807 : Int64)))), .second, .unset, .unset] [(.int (lcmpW (((p1 &&& (9223372036854775807 : Int64)) / (p3 &&& (9223372036854775807 : Int64))) * (p3 &&& (9223372036854775807 : Int64))) (0 : Int64)))])) _
          refine XS.ifNo X0.here hx rfl (hb hby at_48) rfl ((if0 _ _).trans (teq ((lw_eq _ _).mpr hc4)).2) ?_
          show Steps p.tables e below (s₁.setTop (mkF m 51 #[.val (.long p1), .second, .val (.long p2), .second, .val (.long p3), .second, .val (.long (p3 &&& (9223372036854775807 : Int64))), .second, .val (.long (((p1 &&& (9223372036854775807 : Int64)) / (p3 &&& (9223372036854775807 : Int64))) * (p3 &&& (9223372036854775807 : Int64)))), .second, .val (.long (((p2 &&& (9223372036854775807 : Int64)) / (p3 &&& (9223372036854775807 : Int64))) * (p3 &&& (9223372036854775807 : Int64)))), .second, .unset, .unset] [])) _
          refine XS.lload X0.here hx rfl (hb hby at_51) rfl ?_
          show Steps p.tables e below (s₁.setTop (mkF m 53 #[.val (.long p1), .second, .val (.long p2), .second, .val (.long p3), .second, .val (.long (p3 &&& (9223372036854775807 : Int64))), .second, .val (.long (((p1 &&& (9223372036854775807 : Int64)) / (p3 &&& (9223372036854775807 : Int64))) * (p3 &&& (9223372036854775807 : Int64)))), .second, .val (.long (((p2 &&& (9223372036854775807 : Int64)) / (p3 &&& (9223372036854775807 : Int64))) * (p3 &&& (9223372036854775807 : Int64)))), .second, .unset, .unset] [(.long (((p2 &&& (9223372036854775807 : Int64)) / (p3 &&& (9223372036854775807 : Int64))) * (p3 &&& (9223372036854775807 : Int64))))])) _
          refine XS.lconst X0.here hx rfl (hb hby at_53) ?_
          show Steps p.tables e below (s₁.setTop (mkF m 54 #[.val (.long p1), .second, .val (.long p2), .second, .val (.long p3), .second, .val (.long (p3 &&& (9223372036854775807 : Int64))), .second, .val (.long (((p1 &&& (9223372036854775807 : Int64)) / (p3 &&& (9223372036854775807 : Int64))) * (p3 &&& (9223372036854775807 : Int64)))), .second, .val (.long (((p2 &&& (9223372036854775807 : Int64)) / (p3 &&& (9223372036854775807 : Int64))) * (p3 &&& (9223372036854775807 : Int64)))), .second, .unset, .unset] [(.long (0 : Int64)), (.long (((p2 &&& (9223372036854775807 : Int64)) / (p3 &&& (9223372036854775807 : Int64))) * (p3 &&& (9223372036854775807 : Int64))))])) _
          refine XS.lcmp X0.here hx rfl (hb hby at_54) rfl ?_
          show Steps p.tables e below (s₁.setTop (mkF m 55 #[.val (.long p1), .second, .val (.long p2), .second, .val (.long p3), .second, .val (.long (p3 &&& (9223372036854775807 : Int64))), .second, .val (.long (((p1 &&& (9223372036854775807 : Int64)) / (p3 &&& (9223372036854775807 : Int64))) * (p3 &&& (9223372036854775807 : Int64)))), .second, .val (.long (((p2 &&& (9223372036854775807 : Int64)) / (p3 &&& (9223372036854775807 : Int64))) * (p3 &&& (9223372036854775807 : Int64)))), .second, .unset, .unset] [(.int (lcmpW (((p2 &&& (9223372036854775807 : Int64)) / (p3 &&& (9223372036854775807 : Int64))) * (p3 &&& (9223372036854775807 : Int64))) (0 : Int64)))])) _
          refine XS.ifNo X0.here hx rfl (hb hby at_55) rfl ((if0 _ _).trans (teq ((lw_eq _ _).mpr hc5)).2) ?_
          show Steps p.tables e below (s₁.setTop (mkF m 58 #[.val (.long p1), .second, .val (.long p2), .second, .val (.long p3), .second, .val (.long (p3 &&& (9223372036854775807 : Int64))), .second, .val (.long (((p1 &&& (9223372036854775807 : Int64)) / (p3 &&& (9223372036854775807 : Int64))) * (p3 &&& (9223372036854775807 : Int64)))), .second, .val (.long (((p2 &&& (9223372036854775807 : Int64)) / (p3 &&& (9223372036854775807 : Int64))) * (p3 &&& (9223372036854775807 : Int64)))), .second, .unset, .unset] [])) _
          refine XS.iconst X0.here hx rfl (hb hby at_58) ?_
          show Steps p.tables e below (s₁.setTop (mkF m 59 #[.val (.long p1), .second, .val (.long p2), .second, .val (.long p3), .second, .val (.long (p3 &&& (9223372036854775807 : Int64))), .second, .val (.long (((p1 &&& (9223372036854775807 : Int64)) / (p3 &&& (9223372036854775807 : Int64))) * (p3 &&& (9223372036854775807 : Int64)))), .second, .val (.long (((p2 &&& (9223372036854775807 : Int64)) / (p3 &&& (9223372036854775807 : Int64))) * (p3 &&& (9223372036854775807 : Int64)))), .second, .unset, .unset] [(.int (1 : Int32))])) _
          exact retN X0 hx (t := .boolean) Bd.returns (by simp) (hb hby at_59) hr
        · show Q_rm0 Z p1 p2 p3 h0 n0 _ s₁.heap _
          exact ⟨rfl, N0⟩
      · obtain ⟨_, _, ⟨T3, L3, k3, n3⟩, -, X3, ⟨Lc3, hQ3, l3, y3, z3⟩, st3⟩ := Jvm.LawKit.callS X0 hx (y := (⟨"com/example/entropic_join/entropicjoin/Fraction", "gcd", "(JJ)J"⟩ : MethodName)) hown (mvT hZ (hw _ (List.mem_of_getElem? (i := 1) rfl))) (mvT hZ (hw _ (List.mem_of_getElem? (i := 2) rfl))) (mvT hZ (hw _ (List.mem_of_getElem? (i := 3) rfl))) (mvT hZ (hw _ (List.mem_of_getElem? (i := 4) rfl))) (by decide) (backOf (W := 0) (rm_g l Z a0 hw [] (((p1 &&& (9223372036854775807 : Int64)) / (p3 &&& (9223372036854775807 : Int64))) * (p3 &&& (9223372036854775807 : Int64))) (((p2 &&& (9223372036854775807 : Int64)) / (p3 &&& (9223372036854775807 : Int64))) * (p3 &&& (9223372036854775807 : Int64))) h0 n0 Z0 (own_mul p1 (own_cpos hc1)).1 (own_mul p2 (own_cpos hc1)).1) hZ (hw _ (List.mem_of_getElem? (i := 4) rfl)) (hw _ (List.mem_of_getElem? (i := 3) rfl)) (by decide) (by decide)) (g := (mkF m 64 #[.val (.long p1), .second, .val (.long p2), .second, .val (.long p3), .second, .val (.long (p3 &&& (9223372036854775807 : Int64))), .second, .val (.long (((p1 &&& (9223372036854775807 : Int64)) / (p3 &&& (9223372036854775807 : Int64))) * (p3 &&& (9223372036854775807 : Int64)))), .second, .val (.long (((p2 &&& (9223372036854775807 : Int64)) / (p3 &&& (9223372036854775807 : Int64))) * (p3 &&& (9223372036854775807 : Int64)))), .second, .unset, .unset] [(.long (((p2 &&& (9223372036854775807 : Int64)) / (p3 &&& (9223372036854775807 : Int64))) * (p3 &&& (9223372036854775807 : Int64)))), (.long (((p1 &&& (9223372036854775807 : Int64)) / (p3 &&& (9223372036854775807 : Int64))) * (p3 &&& (9223372036854775807 : Int64))))])) rfl (by rw [hml]; rfl) (argsL := [(.long (((p1 &&& (9223372036854775807 : Int64)) / (p3 &&& (9223372036854775807 : Int64))) * (p3 &&& (9223372036854775807 : Int64)))), (.long (((p2 &&& (9223372036854775807 : Int64)) / (p3 &&& (9223372036854775807 : Int64))) * (p3 &&& (9223372036854775807 : Int64))))]) (rest := []) (lenOf pd__40JJ_41J rfl) rfl (by show 2 * 0 + _ ≤ _; exact Nat.le_of_eq rfl) (hb hby at_64) (fun _ _ => ⟨rfl, e0, (by decide : 0 + 0 ≤ _), (by decide : 0 + 0 ≤ _)⟩)
        dsimp only [Pt.U, Pt.locs, Pt.cells, Pt.slots] at X3 l3 y3 z3 st3 hQ3
        subst l3 y3 z3
        obtain ⟨g_3, rfl, Nq3, e3, p3_0⟩ := hQ3
        have N3 := Fr.app N0 Nq3
        obtain ⟨fs, hr, hrun, hended, hW, hsame⟩ := X3.leave (v := some (.int (1 : Int32))) (fun h => by rw [Bd.returns] at h; cases h)
        refine ⟨_, _, pre0 _ ?_, hrun, hended, _, _, rfl, ?_, ⟨_, rfl⟩, hW, hsame.mono (by decide) (by decide)⟩
        · show Steps p.tables e below (s₁.setTop (mkF m 0 #[.val (.long p1), .second, .val (.long p2), .second, .val (.long p3), .second, .unset, .unset, .unset, .unset, .unset, .unset, .unset, .unset] [])) _
          refine XS.lload X0.here hx rfl (hb hby at_0) rfl ?_
          show Steps p.tables e below (s₁.setTop (mkF m 2 #[.val (.long p1), .second, .val (.long p2), .second, .val (.long p3), .second, .unset, .unset, .unset, .unset, .unset, .unset, .unset, .unset] [(.long p3)])) _
          refine X0.ldc2Long hx hown (mvT hZ (hw _ (List.mem_of_getElem? (i := 0) rfl))) (g := (mkF m 2 #[.val (.long p1), .second, .val (.long p2), .second, .val (.long p3), .second, .unset, .unset, .unset, .unset, .unset, .unset, .unset, .unset] [(.long p3)])) rfl (hb hby at_2) _ ?_
          show Steps p.tables e below (s₁.setTop (mkF m 5 #[.val (.long p1), .second, .val (.long p2), .second, .val (.long p3), .second, .unset, .unset, .unset, .unset, .unset, .unset, .unset, .unset] [(.long (9223372036854775807 : Int64)), (.long p3)])) _
          refine XS.land X0.here hx rfl (hb hby at_5) rfl ?_
          show Steps p.tables e below (s₁.setTop (mkF m 6 #[.val (.long p1), .second, .val (.long p2), .second, .val (.long p3), .second, .unset, .unset, .unset, .unset, .unset, .unset, .unset, .unset] [(.long (p3 &&& (9223372036854775807 : Int64)))])) _
          refine XS.lstore X0.here hx rfl (hb hby at_6) rfl (l' := #[.val (.long p1), .second, .val (.long p2), .second, .val (.long p3), .second, .val (.long (p3 &&& (9223372036854775807 : Int64))), .second, .unset, .unset, .unset, .unset, .unset, .unset]) rfl ?_
          show Steps p.tables e below (s₁.setTop (mkF m 8 #[.val (.long p1), .second, .val (.long p2), .second, .val (.long p3), .second, .val (.long (p3 &&& (9223372036854775807 : Int64))), .second, .unset, .unset, .unset, .unset, .unset, .unset] [])) _
          refine XS.lload X0.here hx rfl (hb hby at_8) rfl ?_
          show Steps p.tables e below (s₁.setTop (mkF m 10 #[.val (.long p1), .second, .val (.long p2), .second, .val (.long p3), .second, .val (.long (p3 &&& (9223372036854775807 : Int64))), .second, .unset, .unset, .unset, .unset, .unset, .unset] [(.long (p3 &&& (9223372036854775807 : Int64)))])) _
          refine XS.lconst X0.here hx rfl (hb hby at_10) ?_
          show Steps p.tables e below (s₁.setTop (mkF m 11 #[.val (.long p1), .second, .val (.long p2), .second, .val (.long p3), .second, .val (.long (p3 &&& (9223372036854775807 : Int64))), .second, .unset, .unset, .unset, .unset, .unset, .unset] [(.long (0 : Int64)), (.long (p3 &&& (9223372036854775807 : Int64)))])) _
          refine XS.lcmp X0.here hx rfl (hb hby at_11) rfl ?_
          show Steps p.tables e below (s₁.setTop (mkF m 12 #[.val (.long p1), .second, .val (.long p2), .second, .val (.long p3), .second, .val (.long (p3 &&& (9223372036854775807 : Int64))), .second, .unset, .unset, .unset, .unset, .unset, .unset] [(.int (lcmpW (p3 &&& (9223372036854775807 : Int64)) (0 : Int64)))])) _
          refine XS.ifYes X0.here hx rfl (pc0 := 12) (pc' := 18) rfl (hb hby at_12) rfl ((if0 _ _).trans (feq (fun q_ => hc1 ((lw_eq _ _).mp q_))).2) (by decide) (by decide) ?_
          show Steps p.tables e below (s₁.setTop (mkF m 18 #[.val (.long p1), .second, .val (.long p2), .second, .val (.long p3), .second, .val (.long (p3 &&& (9223372036854775807 : Int64))), .second, .unset, .unset, .unset, .unset, .unset, .unset] [])) _
          refine XS.lloadN X0.here hx rfl (hb hby at_18) rfl ?_
          show Steps p.tables e below (s₁.setTop (mkF m 19 #[.val (.long p1), .second, .val (.long p2), .second, .val (.long p3), .second, .val (.long (p3 &&& (9223372036854775807 : Int64))), .second, .unset, .unset, .unset, .unset, .unset, .unset] [(.long p1)])) _
          refine X0.ldc2Long hx hown (mvT hZ (hw _ (List.mem_of_getElem? (i := 0) rfl))) (g := (mkF m 19 #[.val (.long p1), .second, .val (.long p2), .second, .val (.long p3), .second, .val (.long (p3 &&& (9223372036854775807 : Int64))), .second, .unset, .unset, .unset, .unset, .unset, .unset] [(.long p1)])) rfl (hb hby at_19) _ ?_
          show Steps p.tables e below (s₁.setTop (mkF m 22 #[.val (.long p1), .second, .val (.long p2), .second, .val (.long p3), .second, .val (.long (p3 &&& (9223372036854775807 : Int64))), .second, .unset, .unset, .unset, .unset, .unset, .unset] [(.long (9223372036854775807 : Int64)), (.long p1)])) _
          refine XS.land X0.here hx rfl (hb hby at_22) rfl ?_
          show Steps p.tables e below (s₁.setTop (mkF m 23 #[.val (.long p1), .second, .val (.long p2), .second, .val (.long p3), .second, .val (.long (p3 &&& (9223372036854775807 : Int64))), .second, .unset, .unset, .unset, .unset, .unset, .unset] [(.long (p1 &&& (9223372036854775807 : Int64)))])) _
          refine XS.lload X0.here hx rfl (hb hby at_23) rfl ?_
          show Steps p.tables e below (s₁.setTop (mkF m 25 #[.val (.long p1), .second, .val (.long p2), .second, .val (.long p3), .second, .val (.long (p3 &&& (9223372036854775807 : Int64))), .second, .unset, .unset, .unset, .unset, .unset, .unset] [(.long (p3 &&& (9223372036854775807 : Int64))), (.long (p1 &&& (9223372036854775807 : Int64)))])) _
          refine XS.ldiv X0.here hx rfl (hb hby at_25) rfl hc1 ?_
          show Steps p.tables e below (s₁.setTop (mkF m 26 #[.val (.long p1), .second, .val (.long p2), .second, .val (.long p3), .second, .val (.long (p3 &&& (9223372036854775807 : Int64))), .second, .unset, .unset, .unset, .unset, .unset, .unset] [(.long ((p1 &&& (9223372036854775807 : Int64)) / (p3 &&& (9223372036854775807 : Int64))))])) _
          refine XS.lload X0.here hx rfl (hb hby at_26) rfl ?_
          show Steps p.tables e below (s₁.setTop (mkF m 28 #[.val (.long p1), .second, .val (.long p2), .second, .val (.long p3), .second, .val (.long (p3 &&& (9223372036854775807 : Int64))), .second, .unset, .unset, .unset, .unset, .unset, .unset] [(.long (p3 &&& (9223372036854775807 : Int64))), (.long ((p1 &&& (9223372036854775807 : Int64)) / (p3 &&& (9223372036854775807 : Int64))))])) _
          refine XS.lmul X0.here hx rfl (hb hby at_28) rfl ?_
          show Steps p.tables e below (s₁.setTop (mkF m 29 #[.val (.long p1), .second, .val (.long p2), .second, .val (.long p3), .second, .val (.long (p3 &&& (9223372036854775807 : Int64))), .second, .unset, .unset, .unset, .unset, .unset, .unset] [(.long (((p1 &&& (9223372036854775807 : Int64)) / (p3 &&& (9223372036854775807 : Int64))) * (p3 &&& (9223372036854775807 : Int64))))])) _
          refine XS.lstore X0.here hx rfl (hb hby at_29) rfl (l' := #[.val (.long p1), .second, .val (.long p2), .second, .val (.long p3), .second, .val (.long (p3 &&& (9223372036854775807 : Int64))), .second, .val (.long (((p1 &&& (9223372036854775807 : Int64)) / (p3 &&& (9223372036854775807 : Int64))) * (p3 &&& (9223372036854775807 : Int64)))), .second, .unset, .unset, .unset, .unset]) rfl ?_
          show Steps p.tables e below (s₁.setTop (mkF m 31 #[.val (.long p1), .second, .val (.long p2), .second, .val (.long p3), .second, .val (.long (p3 &&& (9223372036854775807 : Int64))), .second, .val (.long (((p1 &&& (9223372036854775807 : Int64)) / (p3 &&& (9223372036854775807 : Int64))) * (p3 &&& (9223372036854775807 : Int64)))), .second, .unset, .unset, .unset, .unset] [])) _
          refine XS.lloadN X0.here hx rfl (hb hby at_31) rfl ?_
          show Steps p.tables e below (s₁.setTop (mkF m 32 #[.val (.long p1), .second, .val (.long p2), .second, .val (.long p3), .second, .val (.long (p3 &&& (9223372036854775807 : Int64))), .second, .val (.long (((p1 &&& (9223372036854775807 : Int64)) / (p3 &&& (9223372036854775807 : Int64))) * (p3 &&& (9223372036854775807 : Int64)))), .second, .unset, .unset, .unset, .unset] [(.long p2)])) _
          refine X0.ldc2Long hx hown (mvT hZ (hw _ (List.mem_of_getElem? (i := 0) rfl))) (g := (mkF m 32 #[.val (.long p1), .second, .val (.long p2), .second, .val (.long p3), .second, .val (.long (p3 &&& (9223372036854775807 : Int64))), .second, .val (.long (((p1 &&& (9223372036854775807 : Int64)) / (p3 &&& (9223372036854775807 : Int64))) * (p3 &&& (9223372036854775807 : Int64)))), .second, .unset, .unset, .unset, .unset] [(.long p2)])) rfl (hb hby at_32) _ ?_
          show Steps p.tables e below (s₁.setTop (mkF m 35 #[.val (.long p1), .second, .val (.long p2), .second, .val (.long p3), .second, .val (.long (p3 &&& (9223372036854775807 : Int64))), .second, .val (.long (((p1 &&& (9223372036854775807 : Int64)) / (p3 &&& (9223372036854775807 : Int64))) * (p3 &&& (9223372036854775807 : Int64)))), .second, .unset, .unset, .unset, .unset] [(.long (9223372036854775807 : Int64)), (.long p2)])) _
          refine XS.land X0.here hx rfl (hb hby at_35) rfl ?_
          show Steps p.tables e below (s₁.setTop (mkF m 36 #[.val (.long p1), .second, .val (.long p2), .second, .val (.long p3), .second, .val (.long (p3 &&& (9223372036854775807 : Int64))), .second, .val (.long (((p1 &&& (9223372036854775807 : Int64)) / (p3 &&& (9223372036854775807 : Int64))) * (p3 &&& (9223372036854775807 : Int64)))), .second, .unset, .unset, .unset, .unset] [(.long (p2 &&& (9223372036854775807 : Int64)))])) _
          refine XS.lload X0.here hx rfl (hb hby at_36) rfl ?_
          show Steps p.tables e below (s₁.setTop (mkF m 38 #[.val (.long p1), .second, .val (.long p2), .second, .val (.long p3), .second, .val (.long (p3 &&& (9223372036854775807 : Int64))), .second, .val (.long (((p1 &&& (9223372036854775807 : Int64)) / (p3 &&& (9223372036854775807 : Int64))) * (p3 &&& (9223372036854775807 : Int64)))), .second, .unset, .unset, .unset, .unset] [(.long (p3 &&& (9223372036854775807 : Int64))), (.long (p2 &&& (9223372036854775807 : Int64)))])) _
          refine XS.ldiv X0.here hx rfl (hb hby at_38) rfl hc1 ?_
          show Steps p.tables e below (s₁.setTop (mkF m 39 #[.val (.long p1), .second, .val (.long p2), .second, .val (.long p3), .second, .val (.long (p3 &&& (9223372036854775807 : Int64))), .second, .val (.long (((p1 &&& (9223372036854775807 : Int64)) / (p3 &&& (9223372036854775807 : Int64))) * (p3 &&& (9223372036854775807 : Int64)))), .second, .unset, .unset, .unset, .unset] [(.long ((p2 &&& (9223372036854775807 : Int64)) / (p3 &&& (9223372036854775807 : Int64))))])) _
          refine XS.lload X0.here hx rfl (hb hby at_39) rfl ?_
          show Steps p.tables e below (s₁.setTop (mkF m 41 #[.val (.long p1), .second, .val (.long p2), .second, .val (.long p3), .second, .val (.long (p3 &&& (9223372036854775807 : Int64))), .second, .val (.long (((p1 &&& (9223372036854775807 : Int64)) / (p3 &&& (9223372036854775807 : Int64))) * (p3 &&& (9223372036854775807 : Int64)))), .second, .unset, .unset, .unset, .unset] [(.long (p3 &&& (9223372036854775807 : Int64))), (.long ((p2 &&& (9223372036854775807 : Int64)) / (p3 &&& (9223372036854775807 : Int64))))])) _
          refine XS.lmul X0.here hx rfl (hb hby at_41) rfl ?_
          show Steps p.tables e below (s₁.setTop (mkF m 42 #[.val (.long p1), .second, .val (.long p2), .second, .val (.long p3), .second, .val (.long (p3 &&& (9223372036854775807 : Int64))), .second, .val (.long (((p1 &&& (9223372036854775807 : Int64)) / (p3 &&& (9223372036854775807 : Int64))) * (p3 &&& (9223372036854775807 : Int64)))), .second, .unset, .unset, .unset, .unset] [(.long (((p2 &&& (9223372036854775807 : Int64)) / (p3 &&& (9223372036854775807 : Int64))) * (p3 &&& (9223372036854775807 : Int64))))])) _
          refine XS.lstore X0.here hx rfl (hb hby at_42) rfl (l' := #[.val (.long p1), .second, .val (.long p2), .second, .val (.long p3), .second, .val (.long (p3 &&& (9223372036854775807 : Int64))), .second, .val (.long (((p1 &&& (9223372036854775807 : Int64)) / (p3 &&& (9223372036854775807 : Int64))) * (p3 &&& (9223372036854775807 : Int64)))), .second, .val (.long (((p2 &&& (9223372036854775807 : Int64)) / (p3 &&& (9223372036854775807 : Int64))) * (p3 &&& (9223372036854775807 : Int64)))), .second, .unset, .unset]) rfl ?_
          show Steps p.tables e below (s₁.setTop (mkF m 44 #[.val (.long p1), .second, .val (.long p2), .second, .val (.long p3), .second, .val (.long (p3 &&& (9223372036854775807 : Int64))), .second, .val (.long (((p1 &&& (9223372036854775807 : Int64)) / (p3 &&& (9223372036854775807 : Int64))) * (p3 &&& (9223372036854775807 : Int64)))), .second, .val (.long (((p2 &&& (9223372036854775807 : Int64)) / (p3 &&& (9223372036854775807 : Int64))) * (p3 &&& (9223372036854775807 : Int64)))), .second, .unset, .unset] [])) _
          refine XS.lload X0.here hx rfl (hb hby at_44) rfl ?_
          show Steps p.tables e below (s₁.setTop (mkF m 46 #[.val (.long p1), .second, .val (.long p2), .second, .val (.long p3), .second, .val (.long (p3 &&& (9223372036854775807 : Int64))), .second, .val (.long (((p1 &&& (9223372036854775807 : Int64)) / (p3 &&& (9223372036854775807 : Int64))) * (p3 &&& (9223372036854775807 : Int64)))), .second, .val (.long (((p2 &&& (9223372036854775807 : Int64)) / (p3 &&& (9223372036854775807 : Int64))) * (p3 &&& (9223372036854775807 : Int64)))), .second, .unset, .unset] [(.long (((p1 &&& (9223372036854775807 : Int64)) / (p3 &&& (9223372036854775807 : Int64))) * (p3 &&& (9223372036854775807 : Int64))))])) _
          refine XS.lconst X0.here hx rfl (hb hby at_46) ?_
          show Steps p.tables e below (s₁.setTop (mkF m 47 #[.val (.long p1), .second, .val (.long p2), .second, .val (.long p3), .second, .val (.long (p3 &&& (9223372036854775807 : Int64))), .second, .val (.long (((p1 &&& (9223372036854775807 : Int64)) / (p3 &&& (9223372036854775807 : Int64))) * (p3 &&& (9223372036854775807 : Int64)))), .second, .val (.long (((p2 &&& (9223372036854775807 : Int64)) / (p3 &&& (9223372036854775807 : Int64))) * (p3 &&& (9223372036854775807 : Int64)))), .second, .unset, .unset] [(.long (0 : Int64)), (.long (((p1 &&& (9223372036854775807 : Int64)) / (p3 &&& (9223372036854775807 : Int64))) * (p3 &&& (9223372036854775807 : Int64))))])) _
          refine XS.lcmp X0.here hx rfl (hb hby at_47) rfl ?_
          show Steps p.tables e below (s₁.setTop (mkF m 48 #[.val (.long p1), .second, .val (.long p2), .second, .val (.long p3), .second, .val (.long (p3 &&& (9223372036854775807 : Int64))), .second, .val (.long (((p1 &&& (9223372036854775807 : Int64)) / (p3 &&& (9223372036854775807 : Int64))) * (p3 &&& (9223372036854775807 : Int64)))), .second, .val (.long (((p2 &&& (9223372036854775807 : Int64)) / (p3 &&& (9223372036854775807 : Int64))) * (p3 &&& (9223372036854775807 : Int64)))), .second, .unset, .unset] [(.int (lcmpW (((p1 &&& (9223372036854775807 : Int64)) / (p3 &&& (9223372036854775807 : Int64))) * (p3 &&& (9223372036854775807 : Int64))) (0 : Int64)))])) _
          refine XS.ifNo X0.here hx rfl (hb hby at_48) rfl ((if0 _ _).trans (teq ((lw_eq _ _).mpr hc4)).2) ?_
          show Steps p.tables e below (s₁.setTop (mkF m 51 #[.val (.long p1), .second, .val (.long p2), .second, .val (.long p3), .second, .val (.long (p3 &&& (9223372036854775807 : Int64))), .second, .val (.long (((p1 &&& (9223372036854775807 : Int64)) / (p3 &&& (9223372036854775807 : Int64))) * (p3 &&& (9223372036854775807 : Int64)))), .second, .val (.long (((p2 &&& (9223372036854775807 : Int64)) / (p3 &&& (9223372036854775807 : Int64))) * (p3 &&& (9223372036854775807 : Int64)))), .second, .unset, .unset] [])) _
          refine XS.lload X0.here hx rfl (hb hby at_51) rfl ?_
          show Steps p.tables e below (s₁.setTop (mkF m 53 #[.val (.long p1), .second, .val (.long p2), .second, .val (.long p3), .second, .val (.long (p3 &&& (9223372036854775807 : Int64))), .second, .val (.long (((p1 &&& (9223372036854775807 : Int64)) / (p3 &&& (9223372036854775807 : Int64))) * (p3 &&& (9223372036854775807 : Int64)))), .second, .val (.long (((p2 &&& (9223372036854775807 : Int64)) / (p3 &&& (9223372036854775807 : Int64))) * (p3 &&& (9223372036854775807 : Int64)))), .second, .unset, .unset] [(.long (((p2 &&& (9223372036854775807 : Int64)) / (p3 &&& (9223372036854775807 : Int64))) * (p3 &&& (9223372036854775807 : Int64))))])) _
          refine XS.lconst X0.here hx rfl (hb hby at_53) ?_
          show Steps p.tables e below (s₁.setTop (mkF m 54 #[.val (.long p1), .second, .val (.long p2), .second, .val (.long p3), .second, .val (.long (p3 &&& (9223372036854775807 : Int64))), .second, .val (.long (((p1 &&& (9223372036854775807 : Int64)) / (p3 &&& (9223372036854775807 : Int64))) * (p3 &&& (9223372036854775807 : Int64)))), .second, .val (.long (((p2 &&& (9223372036854775807 : Int64)) / (p3 &&& (9223372036854775807 : Int64))) * (p3 &&& (9223372036854775807 : Int64)))), .second, .unset, .unset] [(.long (0 : Int64)), (.long (((p2 &&& (9223372036854775807 : Int64)) / (p3 &&& (9223372036854775807 : Int64))) * (p3 &&& (9223372036854775807 : Int64))))])) _
          refine XS.lcmp X0.here hx rfl (hb hby at_54) rfl ?_
          show Steps p.tables e below (s₁.setTop (mkF m 55 #[.val (.long p1), .second, .val (.long p2), .second, .val (.long p3), .second, .val (.long (p3 &&& (9223372036854775807 : Int64))), .second, .val (.long (((p1 &&& (9223372036854775807 : Int64)) / (p3 &&& (9223372036854775807 : Int64))) * (p3 &&& (9223372036854775807 : Int64)))), .second, .val (.long (((p2 &&& (9223372036854775807 : Int64)) / (p3 &&& (9223372036854775807 : Int64))) * (p3 &&& (9223372036854775807 : Int64)))), .second, .unset, .unset] [(.int (lcmpW (((p2 &&& (9223372036854775807 : Int64)) / (p3 &&& (9223372036854775807 : Int64))) * (p3 &&& (9223372036854775807 : Int64))) (0 : Int64)))])) _
          refine XS.ifYes X0.here hx rfl (pc0 := 55) (pc' := 60) rfl (hb hby at_55) rfl ((if0 _ _).trans (feq (fun q_ => hc5 ((lw_eq _ _).mp q_))).2) (by decide) (by decide) ?_
          show Steps p.tables e below (s₁.setTop (mkF m 60 #[.val (.long p1), .second, .val (.long p2), .second, .val (.long p3), .second, .val (.long (p3 &&& (9223372036854775807 : Int64))), .second, .val (.long (((p1 &&& (9223372036854775807 : Int64)) / (p3 &&& (9223372036854775807 : Int64))) * (p3 &&& (9223372036854775807 : Int64)))), .second, .val (.long (((p2 &&& (9223372036854775807 : Int64)) / (p3 &&& (9223372036854775807 : Int64))) * (p3 &&& (9223372036854775807 : Int64)))), .second, .unset, .unset] [])) _
          refine XS.lload X0.here hx rfl (hb hby at_60) rfl ?_
          show Steps p.tables e below (s₁.setTop (mkF m 62 #[.val (.long p1), .second, .val (.long p2), .second, .val (.long p3), .second, .val (.long (p3 &&& (9223372036854775807 : Int64))), .second, .val (.long (((p1 &&& (9223372036854775807 : Int64)) / (p3 &&& (9223372036854775807 : Int64))) * (p3 &&& (9223372036854775807 : Int64)))), .second, .val (.long (((p2 &&& (9223372036854775807 : Int64)) / (p3 &&& (9223372036854775807 : Int64))) * (p3 &&& (9223372036854775807 : Int64)))), .second, .unset, .unset] [(.long (((p1 &&& (9223372036854775807 : Int64)) / (p3 &&& (9223372036854775807 : Int64))) * (p3 &&& (9223372036854775807 : Int64))))])) _
          refine XS.lload X0.here hx rfl (hb hby at_62) rfl ?_
          show Steps p.tables e below (s₁.setTop (mkF m 64 #[.val (.long p1), .second, .val (.long p2), .second, .val (.long p3), .second, .val (.long (p3 &&& (9223372036854775807 : Int64))), .second, .val (.long (((p1 &&& (9223372036854775807 : Int64)) / (p3 &&& (9223372036854775807 : Int64))) * (p3 &&& (9223372036854775807 : Int64)))), .second, .val (.long (((p2 &&& (9223372036854775807 : Int64)) / (p3 &&& (9223372036854775807 : Int64))) * (p3 &&& (9223372036854775807 : Int64)))), .second, .unset, .unset] [(.long (((p2 &&& (9223372036854775807 : Int64)) / (p3 &&& (9223372036854775807 : Int64))) * (p3 &&& (9223372036854775807 : Int64)))), (.long (((p1 &&& (9223372036854775807 : Int64)) / (p3 &&& (9223372036854775807 : Int64))) * (p3 &&& (9223372036854775807 : Int64))))])) _
          refine st3 _ ?_
          show Steps p.tables e below (T3.setTop (mkF m 67 #[.val (.long p1), .second, .val (.long p2), .second, .val (.long p3), .second, .val (.long (p3 &&& (9223372036854775807 : Int64))), .second, .val (.long (((p1 &&& (9223372036854775807 : Int64)) / (p3 &&& (9223372036854775807 : Int64))) * (p3 &&& (9223372036854775807 : Int64)))), .second, .val (.long (((p2 &&& (9223372036854775807 : Int64)) / (p3 &&& (9223372036854775807 : Int64))) * (p3 &&& (9223372036854775807 : Int64)))), .second, .unset, .unset] [(.long g_3)])) _
          refine XS.lstore X3.here hx rfl (hb hby at_67) rfl (l' := #[.val (.long p1), .second, .val (.long p2), .second, .val (.long p3), .second, .val (.long (p3 &&& (9223372036854775807 : Int64))), .second, .val (.long (((p1 &&& (9223372036854775807 : Int64)) / (p3 &&& (9223372036854775807 : Int64))) * (p3 &&& (9223372036854775807 : Int64)))), .second, .val (.long (((p2 &&& (9223372036854775807 : Int64)) / (p3 &&& (9223372036854775807 : Int64))) * (p3 &&& (9223372036854775807 : Int64)))), .second, .val (.long g_3), .second]) rfl ?_
          show Steps p.tables e below (T3.setTop (mkF m 69 #[.val (.long p1), .second, .val (.long p2), .second, .val (.long p3), .second, .val (.long (p3 &&& (9223372036854775807 : Int64))), .second, .val (.long (((p1 &&& (9223372036854775807 : Int64)) / (p3 &&& (9223372036854775807 : Int64))) * (p3 &&& (9223372036854775807 : Int64)))), .second, .val (.long (((p2 &&& (9223372036854775807 : Int64)) / (p3 &&& (9223372036854775807 : Int64))) * (p3 &&& (9223372036854775807 : Int64)))), .second, .val (.long g_3), .second] [])) _
          refine XS.lload X3.here hx rfl (hb hby at_69) rfl ?_
          show Steps p.tables e below (T3.setTop (mkF m 71 #[.val (.long p1), .second, .val (.long p2), .second, .val (.long p3), .second, .val (.long (p3 &&& (9223372036854775807 : Int64))), .second, .val (.long (((p1 &&& (9223372036854775807 : Int64)) / (p3 &&& (9223372036854775807 : Int64))) * (p3 &&& (9223372036854775807 : Int64)))), .second, .val (.long (((p2 &&& (9223372036854775807 : Int64)) / (p3 &&& (9223372036854775807 : Int64))) * (p3 &&& (9223372036854775807 : Int64)))), .second, .val (.long g_3), .second] [(.long g_3)])) _
          refine XS.lconst X3.here hx rfl (hb hby at_71) ?_
          show Steps p.tables e below (T3.setTop (mkF m 72 #[.val (.long p1), .second, .val (.long p2), .second, .val (.long p3), .second, .val (.long (p3 &&& (9223372036854775807 : Int64))), .second, .val (.long (((p1 &&& (9223372036854775807 : Int64)) / (p3 &&& (9223372036854775807 : Int64))) * (p3 &&& (9223372036854775807 : Int64)))), .second, .val (.long (((p2 &&& (9223372036854775807 : Int64)) / (p3 &&& (9223372036854775807 : Int64))) * (p3 &&& (9223372036854775807 : Int64)))), .second, .val (.long g_3), .second] [(.long (0 : Int64)), (.long g_3)])) _
          refine XS.lcmp X3.here hx rfl (hb hby at_72) rfl ?_
          show Steps p.tables e below (T3.setTop (mkF m 73 #[.val (.long p1), .second, .val (.long p2), .second, .val (.long p3), .second, .val (.long (p3 &&& (9223372036854775807 : Int64))), .second, .val (.long (((p1 &&& (9223372036854775807 : Int64)) / (p3 &&& (9223372036854775807 : Int64))) * (p3 &&& (9223372036854775807 : Int64)))), .second, .val (.long (((p2 &&& (9223372036854775807 : Int64)) / (p3 &&& (9223372036854775807 : Int64))) * (p3 &&& (9223372036854775807 : Int64)))), .second, .val (.long g_3), .second] [(.int (lcmpW g_3 (0 : Int64)))])) _
          refine XS.ifNo X3.here hx rfl (hb hby at_73) rfl ((if0 _ _).trans (tlt ((lw_gt _ _).mpr (own_g1 (own_mul p1 (own_cpos hc1)) (own_mul p2 (own_cpos hc1)) (own_cpos hc1) p3_0 (Or.inr hc5)))).2.2.2) ?_
          show Steps p.tables e below (T3.setTop (mkF m 76 #[.val (.long p1), .second, .val (.long p2), .second, .val (.long p3), .second, .val (.long (p3 &&& (9223372036854775807 : Int64))), .second, .val (.long (((p1 &&& (9223372036854775807 : Int64)) / (p3 &&& (9223372036854775807 : Int64))) * (p3 &&& (9223372036854775807 : Int64)))), .second, .val (.long (((p2 &&& (9223372036854775807 : Int64)) / (p3 &&& (9223372036854775807 : Int64))) * (p3 &&& (9223372036854775807 : Int64)))), .second, .val (.long g_3), .second] [])) _
          refine XS.lload X3.here hx rfl (hb hby at_76) rfl ?_
          show Steps p.tables e below (T3.setTop (mkF m 78 #[.val (.long p1), .second, .val (.long p2), .second, .val (.long p3), .second, .val (.long (p3 &&& (9223372036854775807 : Int64))), .second, .val (.long (((p1 &&& (9223372036854775807 : Int64)) / (p3 &&& (9223372036854775807 : Int64))) * (p3 &&& (9223372036854775807 : Int64)))), .second, .val (.long (((p2 &&& (9223372036854775807 : Int64)) / (p3 &&& (9223372036854775807 : Int64))) * (p3 &&& (9223372036854775807 : Int64)))), .second, .val (.long g_3), .second] [(.long (((p1 &&& (9223372036854775807 : Int64)) / (p3 &&& (9223372036854775807 : Int64))) * (p3 &&& (9223372036854775807 : Int64))))])) _
          refine XS.lload X3.here hx rfl (hb hby at_78) rfl ?_
          show Steps p.tables e below (T3.setTop (mkF m 80 #[.val (.long p1), .second, .val (.long p2), .second, .val (.long p3), .second, .val (.long (p3 &&& (9223372036854775807 : Int64))), .second, .val (.long (((p1 &&& (9223372036854775807 : Int64)) / (p3 &&& (9223372036854775807 : Int64))) * (p3 &&& (9223372036854775807 : Int64)))), .second, .val (.long (((p2 &&& (9223372036854775807 : Int64)) / (p3 &&& (9223372036854775807 : Int64))) * (p3 &&& (9223372036854775807 : Int64)))), .second, .val (.long g_3), .second] [(.long g_3), (.long (((p1 &&& (9223372036854775807 : Int64)) / (p3 &&& (9223372036854775807 : Int64))) * (p3 &&& (9223372036854775807 : Int64))))])) _
          refine XS.lrem X3.here hx rfl (hb hby at_80) rfl (own_g0 (own_mul p1 (own_cpos hc1)) (own_mul p2 (own_cpos hc1)) (own_cpos hc1) p3_0 (Or.inr hc5)) ?_
          show Steps p.tables e below (T3.setTop (mkF m 81 #[.val (.long p1), .second, .val (.long p2), .second, .val (.long p3), .second, .val (.long (p3 &&& (9223372036854775807 : Int64))), .second, .val (.long (((p1 &&& (9223372036854775807 : Int64)) / (p3 &&& (9223372036854775807 : Int64))) * (p3 &&& (9223372036854775807 : Int64)))), .second, .val (.long (((p2 &&& (9223372036854775807 : Int64)) / (p3 &&& (9223372036854775807 : Int64))) * (p3 &&& (9223372036854775807 : Int64)))), .second, .val (.long g_3), .second] [(.long ((((p1 &&& (9223372036854775807 : Int64)) / (p3 &&& (9223372036854775807 : Int64))) * (p3 &&& (9223372036854775807 : Int64))) - ((((p1 &&& (9223372036854775807 : Int64)) / (p3 &&& (9223372036854775807 : Int64))) * (p3 &&& (9223372036854775807 : Int64))) / g_3) * g_3))])) _
          refine XS.lconst X3.here hx rfl (hb hby at_81) ?_
          show Steps p.tables e below (T3.setTop (mkF m 82 #[.val (.long p1), .second, .val (.long p2), .second, .val (.long p3), .second, .val (.long (p3 &&& (9223372036854775807 : Int64))), .second, .val (.long (((p1 &&& (9223372036854775807 : Int64)) / (p3 &&& (9223372036854775807 : Int64))) * (p3 &&& (9223372036854775807 : Int64)))), .second, .val (.long (((p2 &&& (9223372036854775807 : Int64)) / (p3 &&& (9223372036854775807 : Int64))) * (p3 &&& (9223372036854775807 : Int64)))), .second, .val (.long g_3), .second] [(.long (0 : Int64)), (.long ((((p1 &&& (9223372036854775807 : Int64)) / (p3 &&& (9223372036854775807 : Int64))) * (p3 &&& (9223372036854775807 : Int64))) - ((((p1 &&& (9223372036854775807 : Int64)) / (p3 &&& (9223372036854775807 : Int64))) * (p3 &&& (9223372036854775807 : Int64))) / g_3) * g_3))])) _
          refine XS.lcmp X3.here hx rfl (hb hby at_82) rfl ?_
          show Steps p.tables e below (T3.setTop (mkF m 83 #[.val (.long p1), .second, .val (.long p2), .second, .val (.long p3), .second, .val (.long (p3 &&& (9223372036854775807 : Int64))), .second, .val (.long (((p1 &&& (9223372036854775807 : Int64)) / (p3 &&& (9223372036854775807 : Int64))) * (p3 &&& (9223372036854775807 : Int64)))), .second, .val (.long (((p2 &&& (9223372036854775807 : Int64)) / (p3 &&& (9223372036854775807 : Int64))) * (p3 &&& (9223372036854775807 : Int64)))), .second, .val (.long g_3), .second] [(.int (lcmpW ((((p1 &&& (9223372036854775807 : Int64)) / (p3 &&& (9223372036854775807 : Int64))) * (p3 &&& (9223372036854775807 : Int64))) - ((((p1 &&& (9223372036854775807 : Int64)) / (p3 &&& (9223372036854775807 : Int64))) * (p3 &&& (9223372036854775807 : Int64))) / g_3) * g_3) (0 : Int64)))])) _
          refine XS.ifNo X3.here hx rfl (hb hby at_83) rfl ((if0 _ _).trans (teq ((lw_eq _ _).mpr (own_g2 (own_mul p1 (own_cpos hc1)) (own_mul p2 (own_cpos hc1)) (own_cpos hc1) p3_0 (Or.inr hc5)))).2) ?_
          show Steps p.tables e below (T3.setTop (mkF m 86 #[.val (.long p1), .second, .val (.long p2), .second, .val (.long p3), .second, .val (.long (p3 &&& (9223372036854775807 : Int64))), .second, .val (.long (((p1 &&& (9223372036854775807 : Int64)) / (p3 &&& (9223372036854775807 : Int64))) * (p3 &&& (9223372036854775807 : Int64)))), .second, .val (.long (((p2 &&& (9223372036854775807 : Int64)) / (p3 &&& (9223372036854775807 : Int64))) * (p3 &&& (9223372036854775807 : Int64)))), .second, .val (.long g_3), .second] [])) _
          refine XS.lload X3.here hx rfl (hb hby at_86) rfl ?_
          show Steps p.tables e below (T3.setTop (mkF m 88 #[.val (.long p1), .second, .val (.long p2), .second, .val (.long p3), .second, .val (.long (p3 &&& (9223372036854775807 : Int64))), .second, .val (.long (((p1 &&& (9223372036854775807 : Int64)) / (p3 &&& (9223372036854775807 : Int64))) * (p3 &&& (9223372036854775807 : Int64)))), .second, .val (.long (((p2 &&& (9223372036854775807 : Int64)) / (p3 &&& (9223372036854775807 : Int64))) * (p3 &&& (9223372036854775807 : Int64)))), .second, .val (.long g_3), .second] [(.long (((p2 &&& (9223372036854775807 : Int64)) / (p3 &&& (9223372036854775807 : Int64))) * (p3 &&& (9223372036854775807 : Int64))))])) _
          refine XS.lload X3.here hx rfl (hb hby at_88) rfl ?_
          show Steps p.tables e below (T3.setTop (mkF m 90 #[.val (.long p1), .second, .val (.long p2), .second, .val (.long p3), .second, .val (.long (p3 &&& (9223372036854775807 : Int64))), .second, .val (.long (((p1 &&& (9223372036854775807 : Int64)) / (p3 &&& (9223372036854775807 : Int64))) * (p3 &&& (9223372036854775807 : Int64)))), .second, .val (.long (((p2 &&& (9223372036854775807 : Int64)) / (p3 &&& (9223372036854775807 : Int64))) * (p3 &&& (9223372036854775807 : Int64)))), .second, .val (.long g_3), .second] [(.long g_3), (.long (((p2 &&& (9223372036854775807 : Int64)) / (p3 &&& (9223372036854775807 : Int64))) * (p3 &&& (9223372036854775807 : Int64))))])) _
          refine XS.lrem X3.here hx rfl (hb hby at_90) rfl (own_g0 (own_mul p1 (own_cpos hc1)) (own_mul p2 (own_cpos hc1)) (own_cpos hc1) p3_0 (Or.inr hc5)) ?_
          show Steps p.tables e below (T3.setTop (mkF m 91 #[.val (.long p1), .second, .val (.long p2), .second, .val (.long p3), .second, .val (.long (p3 &&& (9223372036854775807 : Int64))), .second, .val (.long (((p1 &&& (9223372036854775807 : Int64)) / (p3 &&& (9223372036854775807 : Int64))) * (p3 &&& (9223372036854775807 : Int64)))), .second, .val (.long (((p2 &&& (9223372036854775807 : Int64)) / (p3 &&& (9223372036854775807 : Int64))) * (p3 &&& (9223372036854775807 : Int64)))), .second, .val (.long g_3), .second] [(.long ((((p2 &&& (9223372036854775807 : Int64)) / (p3 &&& (9223372036854775807 : Int64))) * (p3 &&& (9223372036854775807 : Int64))) - ((((p2 &&& (9223372036854775807 : Int64)) / (p3 &&& (9223372036854775807 : Int64))) * (p3 &&& (9223372036854775807 : Int64))) / g_3) * g_3))])) _
          refine XS.lconst X3.here hx rfl (hb hby at_91) ?_
          show Steps p.tables e below (T3.setTop (mkF m 92 #[.val (.long p1), .second, .val (.long p2), .second, .val (.long p3), .second, .val (.long (p3 &&& (9223372036854775807 : Int64))), .second, .val (.long (((p1 &&& (9223372036854775807 : Int64)) / (p3 &&& (9223372036854775807 : Int64))) * (p3 &&& (9223372036854775807 : Int64)))), .second, .val (.long (((p2 &&& (9223372036854775807 : Int64)) / (p3 &&& (9223372036854775807 : Int64))) * (p3 &&& (9223372036854775807 : Int64)))), .second, .val (.long g_3), .second] [(.long (0 : Int64)), (.long ((((p2 &&& (9223372036854775807 : Int64)) / (p3 &&& (9223372036854775807 : Int64))) * (p3 &&& (9223372036854775807 : Int64))) - ((((p2 &&& (9223372036854775807 : Int64)) / (p3 &&& (9223372036854775807 : Int64))) * (p3 &&& (9223372036854775807 : Int64))) / g_3) * g_3))])) _
          refine XS.lcmp X3.here hx rfl (hb hby at_92) rfl ?_
          show Steps p.tables e below (T3.setTop (mkF m 93 #[.val (.long p1), .second, .val (.long p2), .second, .val (.long p3), .second, .val (.long (p3 &&& (9223372036854775807 : Int64))), .second, .val (.long (((p1 &&& (9223372036854775807 : Int64)) / (p3 &&& (9223372036854775807 : Int64))) * (p3 &&& (9223372036854775807 : Int64)))), .second, .val (.long (((p2 &&& (9223372036854775807 : Int64)) / (p3 &&& (9223372036854775807 : Int64))) * (p3 &&& (9223372036854775807 : Int64)))), .second, .val (.long g_3), .second] [(.int (lcmpW ((((p2 &&& (9223372036854775807 : Int64)) / (p3 &&& (9223372036854775807 : Int64))) * (p3 &&& (9223372036854775807 : Int64))) - ((((p2 &&& (9223372036854775807 : Int64)) / (p3 &&& (9223372036854775807 : Int64))) * (p3 &&& (9223372036854775807 : Int64))) / g_3) * g_3) (0 : Int64)))])) _
          refine XS.ifNo X3.here hx rfl (hb hby at_93) rfl ((if0 _ _).trans (teq ((lw_eq _ _).mpr (own_g3 (own_mul p1 (own_cpos hc1)) (own_mul p2 (own_cpos hc1)) (own_cpos hc1) p3_0 (Or.inr hc5)))).2) ?_
          show Steps p.tables e below (T3.setTop (mkF m 96 #[.val (.long p1), .second, .val (.long p2), .second, .val (.long p3), .second, .val (.long (p3 &&& (9223372036854775807 : Int64))), .second, .val (.long (((p1 &&& (9223372036854775807 : Int64)) / (p3 &&& (9223372036854775807 : Int64))) * (p3 &&& (9223372036854775807 : Int64)))), .second, .val (.long (((p2 &&& (9223372036854775807 : Int64)) / (p3 &&& (9223372036854775807 : Int64))) * (p3 &&& (9223372036854775807 : Int64)))), .second, .val (.long g_3), .second] [])) _
          refine XS.lload X3.here hx rfl (hb hby at_96) rfl ?_
          show Steps p.tables e below (T3.setTop (mkF m 98 #[.val (.long p1), .second, .val (.long p2), .second, .val (.long p3), .second, .val (.long (p3 &&& (9223372036854775807 : Int64))), .second, .val (.long (((p1 &&& (9223372036854775807 : Int64)) / (p3 &&& (9223372036854775807 : Int64))) * (p3 &&& (9223372036854775807 : Int64)))), .second, .val (.long (((p2 &&& (9223372036854775807 : Int64)) / (p3 &&& (9223372036854775807 : Int64))) * (p3 &&& (9223372036854775807 : Int64)))), .second, .val (.long g_3), .second] [(.long g_3)])) _
          refine XS.lload X3.here hx rfl (hb hby at_98) rfl ?_
          show Steps p.tables e below (T3.setTop (mkF m 100 #[.val (.long p1), .second, .val (.long p2), .second, .val (.long p3), .second, .val (.long (p3 &&& (9223372036854775807 : Int64))), .second, .val (.long (((p1 &&& (9223372036854775807 : Int64)) / (p3 &&& (9223372036854775807 : Int64))) * (p3 &&& (9223372036854775807 : Int64)))), .second, .val (.long (((p2 &&& (9223372036854775807 : Int64)) / (p3 &&& (9223372036854775807 : Int64))) * (p3 &&& (9223372036854775807 : Int64)))), .second, .val (.long g_3), .second] [(.long (p3 &&& (9223372036854775807 : Int64))), (.long g_3)])) _
          refine XS.lrem X3.here hx rfl (hb hby at_100) rfl hc1 ?_
          show Steps p.tables e below (T3.setTop (mkF m 101 #[.val (.long p1), .second, .val (.long p2), .second, .val (.long p3), .second, .val (.long (p3 &&& (9223372036854775807 : Int64))), .second, .val (.long (((p1 &&& (9223372036854775807 : Int64)) / (p3 &&& (9223372036854775807 : Int64))) * (p3 &&& (9223372036854775807 : Int64)))), .second, .val (.long (((p2 &&& (9223372036854775807 : Int64)) / (p3 &&& (9223372036854775807 : Int64))) * (p3 &&& (9223372036854775807 : Int64)))), .second, .val (.long g_3), .second] [(.long (g_3 - (g_3 / (p3 &&& (9223372036854775807 : Int64))) * (p3 &&& (9223372036854775807 : Int64))))])) _
          refine XS.lconst X3.here hx rfl (hb hby at_101) ?_
          show Steps p.tables e below (T3.setTop (mkF m 102 #[.val (.long p1), .second, .val (.long p2), .second, .val (.long p3), .second, .val (.long (p3 &&& (9223372036854775807 : Int64))), .second, .val (.long (((p1 &&& (9223372036854775807 : Int64)) / (p3 &&& (9223372036854775807 : Int64))) * (p3 &&& (9223372036854775807 : Int64)))), .second, .val (.long (((p2 &&& (9223372036854775807 : Int64)) / (p3 &&& (9223372036854775807 : Int64))) * (p3 &&& (9223372036854775807 : Int64)))), .second, .val (.long g_3), .second] [(.long (0 : Int64)), (.long (g_3 - (g_3 / (p3 &&& (9223372036854775807 : Int64))) * (p3 &&& (9223372036854775807 : Int64))))])) _
          refine XS.lcmp X3.here hx rfl (hb hby at_102) rfl ?_
          show Steps p.tables e below (T3.setTop (mkF m 103 #[.val (.long p1), .second, .val (.long p2), .second, .val (.long p3), .second, .val (.long (p3 &&& (9223372036854775807 : Int64))), .second, .val (.long (((p1 &&& (9223372036854775807 : Int64)) / (p3 &&& (9223372036854775807 : Int64))) * (p3 &&& (9223372036854775807 : Int64)))), .second, .val (.long (((p2 &&& (9223372036854775807 : Int64)) / (p3 &&& (9223372036854775807 : Int64))) * (p3 &&& (9223372036854775807 : Int64)))), .second, .val (.long g_3), .second] [(.int (lcmpW (g_3 - (g_3 / (p3 &&& (9223372036854775807 : Int64))) * (p3 &&& (9223372036854775807 : Int64))) (0 : Int64)))])) _
          refine XS.ifNo X3.here hx rfl (hb hby at_103) rfl ((if0 _ _).trans (teq ((lw_eq _ _).mpr (own_g4 (own_mul p1 (own_cpos hc1)) (own_mul p2 (own_cpos hc1)) (own_cpos hc1) p3_0 (Or.inr hc5)))).2) ?_
          show Steps p.tables e below (T3.setTop (mkF m 106 #[.val (.long p1), .second, .val (.long p2), .second, .val (.long p3), .second, .val (.long (p3 &&& (9223372036854775807 : Int64))), .second, .val (.long (((p1 &&& (9223372036854775807 : Int64)) / (p3 &&& (9223372036854775807 : Int64))) * (p3 &&& (9223372036854775807 : Int64)))), .second, .val (.long (((p2 &&& (9223372036854775807 : Int64)) / (p3 &&& (9223372036854775807 : Int64))) * (p3 &&& (9223372036854775807 : Int64)))), .second, .val (.long g_3), .second] [])) _
          refine XS.iconst X3.here hx rfl (hb hby at_106) ?_
          show Steps p.tables e below (T3.setTop (mkF m 107 #[.val (.long p1), .second, .val (.long p2), .second, .val (.long p3), .second, .val (.long (p3 &&& (9223372036854775807 : Int64))), .second, .val (.long (((p1 &&& (9223372036854775807 : Int64)) / (p3 &&& (9223372036854775807 : Int64))) * (p3 &&& (9223372036854775807 : Int64)))), .second, .val (.long (((p2 &&& (9223372036854775807 : Int64)) / (p3 &&& (9223372036854775807 : Int64))) * (p3 &&& (9223372036854775807 : Int64)))), .second, .val (.long g_3), .second] [(.int (1 : Int32))])) _
          refine XS.goto X3.here hx rfl (pc0 := 107) (pc' := 111) rfl (hb hby at_107) (by decide) (by decide) ?_
          show Steps p.tables e below (T3.setTop (mkF m 111 #[.val (.long p1), .second, .val (.long p2), .second, .val (.long p3), .second, .val (.long (p3 &&& (9223372036854775807 : Int64))), .second, .val (.long (((p1 &&& (9223372036854775807 : Int64)) / (p3 &&& (9223372036854775807 : Int64))) * (p3 &&& (9223372036854775807 : Int64)))), .second, .val (.long (((p2 &&& (9223372036854775807 : Int64)) / (p3 &&& (9223372036854775807 : Int64))) * (p3 &&& (9223372036854775807 : Int64)))), .second, .val (.long g_3), .second] [(.int (1 : Int32))])) _
          exact retN X3 hx (t := .boolean) Bd.returns (by simp) (hb hby at_111) hr
        · show Q_rm0 Z p1 p2 p3 h0 n0 _ T3.heap _
          exact ⟨rfl, N3⟩
    · obtain ⟨_, _, ⟨T4, L4, k4, n4⟩, -, X4, ⟨Lc4, hQ4, l4, y4, z4⟩, st4⟩ := Jvm.LawKit.callS X0 hx (y := (⟨"com/example/entropic_join/entropicjoin/Fraction", "gcd", "(JJ)J"⟩ : MethodName)) hown (mvT hZ (hw _ (List.mem_of_getElem? (i := 1) rfl))) (mvT hZ (hw _ (List.mem_of_getElem? (i := 2) rfl))) (mvT hZ (hw _ (List.mem_of_getElem? (i := 3) rfl))) (mvT hZ (hw _ (List.mem_of_getElem? (i := 4) rfl))) (by decide) (backOf (W := 0) (rm_g l Z a0 hw [] (((p1 &&& (9223372036854775807 : Int64)) / (p3 &&& (9223372036854775807 : Int64))) * (p3 &&& (9223372036854775807 : Int64))) (((p2 &&& (9223372036854775807 : Int64)) / (p3 &&& (9223372036854775807 : Int64))) * (p3 &&& (9223372036854775807 : Int64))) h0 n0 Z0 (own_mul p1 (own_cpos hc1)).1 (own_mul p2 (own_cpos hc1)).1) hZ (hw _ (List.mem_of_getElem? (i := 4) rfl)) (hw _ (List.mem_of_getElem? (i := 3) rfl)) (by decide) (by decide)) (g := (mkF m 64 #[.val (.long p1), .second, .val (.long p2), .second, .val (.long p3), .second, .val (.long (p3 &&& (9223372036854775807 : Int64))), .second, .val (.long (((p1 &&& (9223372036854775807 : Int64)) / (p3 &&& (9223372036854775807 : Int64))) * (p3 &&& (9223372036854775807 : Int64)))), .second, .val (.long (((p2 &&& (9223372036854775807 : Int64)) / (p3 &&& (9223372036854775807 : Int64))) * (p3 &&& (9223372036854775807 : Int64)))), .second, .unset, .unset] [(.long (((p2 &&& (9223372036854775807 : Int64)) / (p3 &&& (9223372036854775807 : Int64))) * (p3 &&& (9223372036854775807 : Int64)))), (.long (((p1 &&& (9223372036854775807 : Int64)) / (p3 &&& (9223372036854775807 : Int64))) * (p3 &&& (9223372036854775807 : Int64))))])) rfl (by rw [hml]; rfl) (argsL := [(.long (((p1 &&& (9223372036854775807 : Int64)) / (p3 &&& (9223372036854775807 : Int64))) * (p3 &&& (9223372036854775807 : Int64)))), (.long (((p2 &&& (9223372036854775807 : Int64)) / (p3 &&& (9223372036854775807 : Int64))) * (p3 &&& (9223372036854775807 : Int64))))]) (rest := []) (lenOf pd__40JJ_41J rfl) rfl (by show 2 * 0 + _ ≤ _; exact Nat.le_of_eq rfl) (hb hby at_64) (fun _ _ => ⟨rfl, e0, (by decide : 0 + 0 ≤ _), (by decide : 0 + 0 ≤ _)⟩)
      dsimp only [Pt.U, Pt.locs, Pt.cells, Pt.slots] at X4 l4 y4 z4 st4 hQ4
      subst l4 y4 z4
      obtain ⟨g_4, rfl, Nq4, e4, p4_0⟩ := hQ4
      have N4 := Fr.app N0 Nq4
      obtain ⟨fs, hr, hrun, hended, hW, hsame⟩ := X4.leave (v := some (.int (1 : Int32))) (fun h => by rw [Bd.returns] at h; cases h)
      refine ⟨_, _, pre0 _ ?_, hrun, hended, _, _, rfl, ?_, ⟨_, rfl⟩, hW, hsame.mono (by decide) (by decide)⟩
      · show Steps p.tables e below (s₁.setTop (mkF m 0 #[.val (.long p1), .second, .val (.long p2), .second, .val (.long p3), .second, .unset, .unset, .unset, .unset, .unset, .unset, .unset, .unset] [])) _
        refine XS.lload X0.here hx rfl (hb hby at_0) rfl ?_
        show Steps p.tables e below (s₁.setTop (mkF m 2 #[.val (.long p1), .second, .val (.long p2), .second, .val (.long p3), .second, .unset, .unset, .unset, .unset, .unset, .unset, .unset, .unset] [(.long p3)])) _
        refine X0.ldc2Long hx hown (mvT hZ (hw _ (List.mem_of_getElem? (i := 0) rfl))) (g := (mkF m 2 #[.val (.long p1), .second, .val (.long p2), .second, .val (.long p3), .second, .unset, .unset, .unset, .unset, .unset, .unset, .unset, .unset] [(.long p3)])) rfl (hb hby at_2) _ ?_
        show Steps p.tables e below (s₁.setTop (mkF m 5 #[.val (.long p1), .second, .val (.long p2), .second, .val (.long p3), .second, .unset, .unset, .unset, .unset, .unset, .unset, .unset, .unset] [(.long (9223372036854775807 : Int64)), (.long p3)])) _
        refine XS.land X0.here hx rfl (hb hby at_5) rfl ?_
        show Steps p.tables e below (s₁.setTop (mkF m 6 #[.val (.long p1), .second, .val (.long p2), .second, .val (.long p3), .second, .unset, .unset, .unset, .unset, .unset, .unset, .unset, .unset] [(.long (p3 &&& (9223372036854775807 : Int64)))])) _
        refine XS.lstore X0.here hx rfl (hb hby at_6) rfl (l' := #[.val (.long p1), .second, .val (.long p2), .second, .val (.long p3), .second, .val (.long (p3 &&& (9223372036854775807 : Int64))), .second, .unset, .unset, .unset, .unset, .unset, .unset]) rfl ?_
        show Steps p.tables e below (s₁.setTop (mkF m 8 #[.val (.long p1), .second, .val (.long p2), .second, .val (.long p3), .second, .val (.long (p3 &&& (9223372036854775807 : Int64))), .second, .unset, .unset, .unset, .unset, .unset, .unset] [])) _
        refine XS.lload X0.here hx rfl (hb hby at_8) rfl ?_
        show Steps p.tables e below (s₁.setTop (mkF m 10 #[.val (.long p1), .second, .val (.long p2), .second, .val (.long p3), .second, .val (.long (p3 &&& (9223372036854775807 : Int64))), .second, .unset, .unset, .unset, .unset, .unset, .unset] [(.long (p3 &&& (9223372036854775807 : Int64)))])) _
        refine XS.lconst X0.here hx rfl (hb hby at_10) ?_
        show Steps p.tables e below (s₁.setTop (mkF m 11 #[.val (.long p1), .second, .val (.long p2), .second, .val (.long p3), .second, .val (.long (p3 &&& (9223372036854775807 : Int64))), .second, .unset, .unset, .unset, .unset, .unset, .unset] [(.long (0 : Int64)), (.long (p3 &&& (9223372036854775807 : Int64)))])) _
        refine XS.lcmp X0.here hx rfl (hb hby at_11) rfl ?_
        show Steps p.tables e below (s₁.setTop (mkF m 12 #[.val (.long p1), .second, .val (.long p2), .second, .val (.long p3), .second, .val (.long (p3 &&& (9223372036854775807 : Int64))), .second, .unset, .unset, .unset, .unset, .unset, .unset] [(.int (lcmpW (p3 &&& (9223372036854775807 : Int64)) (0 : Int64)))])) _
        refine XS.ifYes X0.here hx rfl (pc0 := 12) (pc' := 18) rfl (hb hby at_12) rfl ((if0 _ _).trans (feq (fun q_ => hc1 ((lw_eq _ _).mp q_))).2) (by decide) (by decide) ?_
        show Steps p.tables e below (s₁.setTop (mkF m 18 #[.val (.long p1), .second, .val (.long p2), .second, .val (.long p3), .second, .val (.long (p3 &&& (9223372036854775807 : Int64))), .second, .unset, .unset, .unset, .unset, .unset, .unset] [])) _
        refine XS.lloadN X0.here hx rfl (hb hby at_18) rfl ?_
        show Steps p.tables e below (s₁.setTop (mkF m 19 #[.val (.long p1), .second, .val (.long p2), .second, .val (.long p3), .second, .val (.long (p3 &&& (9223372036854775807 : Int64))), .second, .unset, .unset, .unset, .unset, .unset, .unset] [(.long p1)])) _
        refine X0.ldc2Long hx hown (mvT hZ (hw _ (List.mem_of_getElem? (i := 0) rfl))) (g := (mkF m 19 #[.val (.long p1), .second, .val (.long p2), .second, .val (.long p3), .second, .val (.long (p3 &&& (9223372036854775807 : Int64))), .second, .unset, .unset, .unset, .unset, .unset, .unset] [(.long p1)])) rfl (hb hby at_19) _ ?_
        show Steps p.tables e below (s₁.setTop (mkF m 22 #[.val (.long p1), .second, .val (.long p2), .second, .val (.long p3), .second, .val (.long (p3 &&& (9223372036854775807 : Int64))), .second, .unset, .unset, .unset, .unset, .unset, .unset] [(.long (9223372036854775807 : Int64)), (.long p1)])) _
        refine XS.land X0.here hx rfl (hb hby at_22) rfl ?_
        show Steps p.tables e below (s₁.setTop (mkF m 23 #[.val (.long p1), .second, .val (.long p2), .second, .val (.long p3), .second, .val (.long (p3 &&& (9223372036854775807 : Int64))), .second, .unset, .unset, .unset, .unset, .unset, .unset] [(.long (p1 &&& (9223372036854775807 : Int64)))])) _
        refine XS.lload X0.here hx rfl (hb hby at_23) rfl ?_
        show Steps p.tables e below (s₁.setTop (mkF m 25 #[.val (.long p1), .second, .val (.long p2), .second, .val (.long p3), .second, .val (.long (p3 &&& (9223372036854775807 : Int64))), .second, .unset, .unset, .unset, .unset, .unset, .unset] [(.long (p3 &&& (9223372036854775807 : Int64))), (.long (p1 &&& (9223372036854775807 : Int64)))])) _
        refine XS.ldiv X0.here hx rfl (hb hby at_25) rfl hc1 ?_
        show Steps p.tables e below (s₁.setTop (mkF m 26 #[.val (.long p1), .second, .val (.long p2), .second, .val (.long p3), .second, .val (.long (p3 &&& (9223372036854775807 : Int64))), .second, .unset, .unset, .unset, .unset, .unset, .unset] [(.long ((p1 &&& (9223372036854775807 : Int64)) / (p3 &&& (9223372036854775807 : Int64))))])) _
        refine XS.lload X0.here hx rfl (hb hby at_26) rfl ?_
        show Steps p.tables e below (s₁.setTop (mkF m 28 #[.val (.long p1), .second, .val (.long p2), .second, .val (.long p3), .second, .val (.long (p3 &&& (9223372036854775807 : Int64))), .second, .unset, .unset, .unset, .unset, .unset, .unset] [(.long (p3 &&& (9223372036854775807 : Int64))), (.long ((p1 &&& (9223372036854775807 : Int64)) / (p3 &&& (9223372036854775807 : Int64))))])) _
        refine XS.lmul X0.here hx rfl (hb hby at_28) rfl ?_
        show Steps p.tables e below (s₁.setTop (mkF m 29 #[.val (.long p1), .second, .val (.long p2), .second, .val (.long p3), .second, .val (.long (p3 &&& (9223372036854775807 : Int64))), .second, .unset, .unset, .unset, .unset, .unset, .unset] [(.long (((p1 &&& (9223372036854775807 : Int64)) / (p3 &&& (9223372036854775807 : Int64))) * (p3 &&& (9223372036854775807 : Int64))))])) _
        refine XS.lstore X0.here hx rfl (hb hby at_29) rfl (l' := #[.val (.long p1), .second, .val (.long p2), .second, .val (.long p3), .second, .val (.long (p3 &&& (9223372036854775807 : Int64))), .second, .val (.long (((p1 &&& (9223372036854775807 : Int64)) / (p3 &&& (9223372036854775807 : Int64))) * (p3 &&& (9223372036854775807 : Int64)))), .second, .unset, .unset, .unset, .unset]) rfl ?_
        show Steps p.tables e below (s₁.setTop (mkF m 31 #[.val (.long p1), .second, .val (.long p2), .second, .val (.long p3), .second, .val (.long (p3 &&& (9223372036854775807 : Int64))), .second, .val (.long (((p1 &&& (9223372036854775807 : Int64)) / (p3 &&& (9223372036854775807 : Int64))) * (p3 &&& (9223372036854775807 : Int64)))), .second, .unset, .unset, .unset, .unset] [])) _
        refine XS.lloadN X0.here hx rfl (hb hby at_31) rfl ?_
        show Steps p.tables e below (s₁.setTop (mkF m 32 #[.val (.long p1), .second, .val (.long p2), .second, .val (.long p3), .second, .val (.long (p3 &&& (9223372036854775807 : Int64))), .second, .val (.long (((p1 &&& (9223372036854775807 : Int64)) / (p3 &&& (9223372036854775807 : Int64))) * (p3 &&& (9223372036854775807 : Int64)))), .second, .unset, .unset, .unset, .unset] [(.long p2)])) _
        refine X0.ldc2Long hx hown (mvT hZ (hw _ (List.mem_of_getElem? (i := 0) rfl))) (g := (mkF m 32 #[.val (.long p1), .second, .val (.long p2), .second, .val (.long p3), .second, .val (.long (p3 &&& (9223372036854775807 : Int64))), .second, .val (.long (((p1 &&& (9223372036854775807 : Int64)) / (p3 &&& (9223372036854775807 : Int64))) * (p3 &&& (9223372036854775807 : Int64)))), .second, .unset, .unset, .unset, .unset] [(.long p2)])) rfl (hb hby at_32) _ ?_
        show Steps p.tables e below (s₁.setTop (mkF m 35 #[.val (.long p1), .second, .val (.long p2), .second, .val (.long p3), .second, .val (.long (p3 &&& (9223372036854775807 : Int64))), .second, .val (.long (((p1 &&& (9223372036854775807 : Int64)) / (p3 &&& (9223372036854775807 : Int64))) * (p3 &&& (9223372036854775807 : Int64)))), .second, .unset, .unset, .unset, .unset] [(.long (9223372036854775807 : Int64)), (.long p2)])) _
        refine XS.land X0.here hx rfl (hb hby at_35) rfl ?_
        show Steps p.tables e below (s₁.setTop (mkF m 36 #[.val (.long p1), .second, .val (.long p2), .second, .val (.long p3), .second, .val (.long (p3 &&& (9223372036854775807 : Int64))), .second, .val (.long (((p1 &&& (9223372036854775807 : Int64)) / (p3 &&& (9223372036854775807 : Int64))) * (p3 &&& (9223372036854775807 : Int64)))), .second, .unset, .unset, .unset, .unset] [(.long (p2 &&& (9223372036854775807 : Int64)))])) _
        refine XS.lload X0.here hx rfl (hb hby at_36) rfl ?_
        show Steps p.tables e below (s₁.setTop (mkF m 38 #[.val (.long p1), .second, .val (.long p2), .second, .val (.long p3), .second, .val (.long (p3 &&& (9223372036854775807 : Int64))), .second, .val (.long (((p1 &&& (9223372036854775807 : Int64)) / (p3 &&& (9223372036854775807 : Int64))) * (p3 &&& (9223372036854775807 : Int64)))), .second, .unset, .unset, .unset, .unset] [(.long (p3 &&& (9223372036854775807 : Int64))), (.long (p2 &&& (9223372036854775807 : Int64)))])) _
        refine XS.ldiv X0.here hx rfl (hb hby at_38) rfl hc1 ?_
        show Steps p.tables e below (s₁.setTop (mkF m 39 #[.val (.long p1), .second, .val (.long p2), .second, .val (.long p3), .second, .val (.long (p3 &&& (9223372036854775807 : Int64))), .second, .val (.long (((p1 &&& (9223372036854775807 : Int64)) / (p3 &&& (9223372036854775807 : Int64))) * (p3 &&& (9223372036854775807 : Int64)))), .second, .unset, .unset, .unset, .unset] [(.long ((p2 &&& (9223372036854775807 : Int64)) / (p3 &&& (9223372036854775807 : Int64))))])) _
        refine XS.lload X0.here hx rfl (hb hby at_39) rfl ?_
        show Steps p.tables e below (s₁.setTop (mkF m 41 #[.val (.long p1), .second, .val (.long p2), .second, .val (.long p3), .second, .val (.long (p3 &&& (9223372036854775807 : Int64))), .second, .val (.long (((p1 &&& (9223372036854775807 : Int64)) / (p3 &&& (9223372036854775807 : Int64))) * (p3 &&& (9223372036854775807 : Int64)))), .second, .unset, .unset, .unset, .unset] [(.long (p3 &&& (9223372036854775807 : Int64))), (.long ((p2 &&& (9223372036854775807 : Int64)) / (p3 &&& (9223372036854775807 : Int64))))])) _
        refine XS.lmul X0.here hx rfl (hb hby at_41) rfl ?_
        show Steps p.tables e below (s₁.setTop (mkF m 42 #[.val (.long p1), .second, .val (.long p2), .second, .val (.long p3), .second, .val (.long (p3 &&& (9223372036854775807 : Int64))), .second, .val (.long (((p1 &&& (9223372036854775807 : Int64)) / (p3 &&& (9223372036854775807 : Int64))) * (p3 &&& (9223372036854775807 : Int64)))), .second, .unset, .unset, .unset, .unset] [(.long (((p2 &&& (9223372036854775807 : Int64)) / (p3 &&& (9223372036854775807 : Int64))) * (p3 &&& (9223372036854775807 : Int64))))])) _
        refine XS.lstore X0.here hx rfl (hb hby at_42) rfl (l' := #[.val (.long p1), .second, .val (.long p2), .second, .val (.long p3), .second, .val (.long (p3 &&& (9223372036854775807 : Int64))), .second, .val (.long (((p1 &&& (9223372036854775807 : Int64)) / (p3 &&& (9223372036854775807 : Int64))) * (p3 &&& (9223372036854775807 : Int64)))), .second, .val (.long (((p2 &&& (9223372036854775807 : Int64)) / (p3 &&& (9223372036854775807 : Int64))) * (p3 &&& (9223372036854775807 : Int64)))), .second, .unset, .unset]) rfl ?_
        show Steps p.tables e below (s₁.setTop (mkF m 44 #[.val (.long p1), .second, .val (.long p2), .second, .val (.long p3), .second, .val (.long (p3 &&& (9223372036854775807 : Int64))), .second, .val (.long (((p1 &&& (9223372036854775807 : Int64)) / (p3 &&& (9223372036854775807 : Int64))) * (p3 &&& (9223372036854775807 : Int64)))), .second, .val (.long (((p2 &&& (9223372036854775807 : Int64)) / (p3 &&& (9223372036854775807 : Int64))) * (p3 &&& (9223372036854775807 : Int64)))), .second, .unset, .unset] [])) _
        refine XS.lload X0.here hx rfl (hb hby at_44) rfl ?_
        show Steps p.tables e below (s₁.setTop (mkF m 46 #[.val (.long p1), .second, .val (.long p2), .second, .val (.long p3), .second, .val (.long (p3 &&& (9223372036854775807 : Int64))), .second, .val (.long (((p1 &&& (9223372036854775807 : Int64)) / (p3 &&& (9223372036854775807 : Int64))) * (p3 &&& (9223372036854775807 : Int64)))), .second, .val (.long (((p2 &&& (9223372036854775807 : Int64)) / (p3 &&& (9223372036854775807 : Int64))) * (p3 &&& (9223372036854775807 : Int64)))), .second, .unset, .unset] [(.long (((p1 &&& (9223372036854775807 : Int64)) / (p3 &&& (9223372036854775807 : Int64))) * (p3 &&& (9223372036854775807 : Int64))))])) _
        refine XS.lconst X0.here hx rfl (hb hby at_46) ?_
        show Steps p.tables e below (s₁.setTop (mkF m 47 #[.val (.long p1), .second, .val (.long p2), .second, .val (.long p3), .second, .val (.long (p3 &&& (9223372036854775807 : Int64))), .second, .val (.long (((p1 &&& (9223372036854775807 : Int64)) / (p3 &&& (9223372036854775807 : Int64))) * (p3 &&& (9223372036854775807 : Int64)))), .second, .val (.long (((p2 &&& (9223372036854775807 : Int64)) / (p3 &&& (9223372036854775807 : Int64))) * (p3 &&& (9223372036854775807 : Int64)))), .second, .unset, .unset] [(.long (0 : Int64)), (.long (((p1 &&& (9223372036854775807 : Int64)) / (p3 &&& (9223372036854775807 : Int64))) * (p3 &&& (9223372036854775807 : Int64))))])) _
        refine XS.lcmp X0.here hx rfl (hb hby at_47) rfl ?_
        show Steps p.tables e below (s₁.setTop (mkF m 48 #[.val (.long p1), .second, .val (.long p2), .second, .val (.long p3), .second, .val (.long (p3 &&& (9223372036854775807 : Int64))), .second, .val (.long (((p1 &&& (9223372036854775807 : Int64)) / (p3 &&& (9223372036854775807 : Int64))) * (p3 &&& (9223372036854775807 : Int64)))), .second, .val (.long (((p2 &&& (9223372036854775807 : Int64)) / (p3 &&& (9223372036854775807 : Int64))) * (p3 &&& (9223372036854775807 : Int64)))), .second, .unset, .unset] [(.int (lcmpW (((p1 &&& (9223372036854775807 : Int64)) / (p3 &&& (9223372036854775807 : Int64))) * (p3 &&& (9223372036854775807 : Int64))) (0 : Int64)))])) _
        refine XS.ifYes X0.here hx rfl (pc0 := 48) (pc' := 60) rfl (hb hby at_48) rfl ((if0 _ _).trans (feq (fun q_ => hc4 ((lw_eq _ _).mp q_))).2) (by decide) (by decide) ?_
        show Steps p.tables e below (s₁.setTop (mkF m 60 #[.val (.long p1), .second, .val (.long p2), .second, .val (.long p3), .second, .val (.long (p3 &&& (9223372036854775807 : Int64))), .second, .val (.long (((p1 &&& (9223372036854775807 : Int64)) / (p3 &&& (9223372036854775807 : Int64))) * (p3 &&& (9223372036854775807 : Int64)))), .second, .val (.long (((p2 &&& (9223372036854775807 : Int64)) / (p3 &&& (9223372036854775807 : Int64))) * (p3 &&& (9223372036854775807 : Int64)))), .second, .unset, .unset] [])) _
        refine XS.lload X0.here hx rfl (hb hby at_60) rfl ?_
        show Steps p.tables e below (s₁.setTop (mkF m 62 #[.val (.long p1), .second, .val (.long p2), .second, .val (.long p3), .second, .val (.long (p3 &&& (9223372036854775807 : Int64))), .second, .val (.long (((p1 &&& (9223372036854775807 : Int64)) / (p3 &&& (9223372036854775807 : Int64))) * (p3 &&& (9223372036854775807 : Int64)))), .second, .val (.long (((p2 &&& (9223372036854775807 : Int64)) / (p3 &&& (9223372036854775807 : Int64))) * (p3 &&& (9223372036854775807 : Int64)))), .second, .unset, .unset] [(.long (((p1 &&& (9223372036854775807 : Int64)) / (p3 &&& (9223372036854775807 : Int64))) * (p3 &&& (9223372036854775807 : Int64))))])) _
        refine XS.lload X0.here hx rfl (hb hby at_62) rfl ?_
        show Steps p.tables e below (s₁.setTop (mkF m 64 #[.val (.long p1), .second, .val (.long p2), .second, .val (.long p3), .second, .val (.long (p3 &&& (9223372036854775807 : Int64))), .second, .val (.long (((p1 &&& (9223372036854775807 : Int64)) / (p3 &&& (9223372036854775807 : Int64))) * (p3 &&& (9223372036854775807 : Int64)))), .second, .val (.long (((p2 &&& (9223372036854775807 : Int64)) / (p3 &&& (9223372036854775807 : Int64))) * (p3 &&& (9223372036854775807 : Int64)))), .second, .unset, .unset] [(.long (((p2 &&& (9223372036854775807 : Int64)) / (p3 &&& (9223372036854775807 : Int64))) * (p3 &&& (9223372036854775807 : Int64)))), (.long (((p1 &&& (9223372036854775807 : Int64)) / (p3 &&& (9223372036854775807 : Int64))) * (p3 &&& (9223372036854775807 : Int64))))])) _
        refine st4 _ ?_
        show Steps p.tables e below (T4.setTop (mkF m 67 #[.val (.long p1), .second, .val (.long p2), .second, .val (.long p3), .second, .val (.long (p3 &&& (9223372036854775807 : Int64))), .second, .val (.long (((p1 &&& (9223372036854775807 : Int64)) / (p3 &&& (9223372036854775807 : Int64))) * (p3 &&& (9223372036854775807 : Int64)))), .second, .val (.long (((p2 &&& (9223372036854775807 : Int64)) / (p3 &&& (9223372036854775807 : Int64))) * (p3 &&& (9223372036854775807 : Int64)))), .second, .unset, .unset] [(.long g_4)])) _
        refine XS.lstore X4.here hx rfl (hb hby at_67) rfl (l' := #[.val (.long p1), .second, .val (.long p2), .second, .val (.long p3), .second, .val (.long (p3 &&& (9223372036854775807 : Int64))), .second, .val (.long (((p1 &&& (9223372036854775807 : Int64)) / (p3 &&& (9223372036854775807 : Int64))) * (p3 &&& (9223372036854775807 : Int64)))), .second, .val (.long (((p2 &&& (9223372036854775807 : Int64)) / (p3 &&& (9223372036854775807 : Int64))) * (p3 &&& (9223372036854775807 : Int64)))), .second, .val (.long g_4), .second]) rfl ?_
        show Steps p.tables e below (T4.setTop (mkF m 69 #[.val (.long p1), .second, .val (.long p2), .second, .val (.long p3), .second, .val (.long (p3 &&& (9223372036854775807 : Int64))), .second, .val (.long (((p1 &&& (9223372036854775807 : Int64)) / (p3 &&& (9223372036854775807 : Int64))) * (p3 &&& (9223372036854775807 : Int64)))), .second, .val (.long (((p2 &&& (9223372036854775807 : Int64)) / (p3 &&& (9223372036854775807 : Int64))) * (p3 &&& (9223372036854775807 : Int64)))), .second, .val (.long g_4), .second] [])) _
        refine XS.lload X4.here hx rfl (hb hby at_69) rfl ?_
        show Steps p.tables e below (T4.setTop (mkF m 71 #[.val (.long p1), .second, .val (.long p2), .second, .val (.long p3), .second, .val (.long (p3 &&& (9223372036854775807 : Int64))), .second, .val (.long (((p1 &&& (9223372036854775807 : Int64)) / (p3 &&& (9223372036854775807 : Int64))) * (p3 &&& (9223372036854775807 : Int64)))), .second, .val (.long (((p2 &&& (9223372036854775807 : Int64)) / (p3 &&& (9223372036854775807 : Int64))) * (p3 &&& (9223372036854775807 : Int64)))), .second, .val (.long g_4), .second] [(.long g_4)])) _
        refine XS.lconst X4.here hx rfl (hb hby at_71) ?_
        show Steps p.tables e below (T4.setTop (mkF m 72 #[.val (.long p1), .second, .val (.long p2), .second, .val (.long p3), .second, .val (.long (p3 &&& (9223372036854775807 : Int64))), .second, .val (.long (((p1 &&& (9223372036854775807 : Int64)) / (p3 &&& (9223372036854775807 : Int64))) * (p3 &&& (9223372036854775807 : Int64)))), .second, .val (.long (((p2 &&& (9223372036854775807 : Int64)) / (p3 &&& (9223372036854775807 : Int64))) * (p3 &&& (9223372036854775807 : Int64)))), .second, .val (.long g_4), .second] [(.long (0 : Int64)), (.long g_4)])) _
        refine XS.lcmp X4.here hx rfl (hb hby at_72) rfl ?_
        show Steps p.tables e below (T4.setTop (mkF m 73 #[.val (.long p1), .second, .val (.long p2), .second, .val (.long p3), .second, .val (.long (p3 &&& (9223372036854775807 : Int64))), .second, .val (.long (((p1 &&& (9223372036854775807 : Int64)) / (p3 &&& (9223372036854775807 : Int64))) * (p3 &&& (9223372036854775807 : Int64)))), .second, .val (.long (((p2 &&& (9223372036854775807 : Int64)) / (p3 &&& (9223372036854775807 : Int64))) * (p3 &&& (9223372036854775807 : Int64)))), .second, .val (.long g_4), .second] [(.int (lcmpW g_4 (0 : Int64)))])) _
        refine XS.ifNo X4.here hx rfl (hb hby at_73) rfl ((if0 _ _).trans (tlt ((lw_gt _ _).mpr (own_g1 (own_mul p1 (own_cpos hc1)) (own_mul p2 (own_cpos hc1)) (own_cpos hc1) p4_0 (Or.inl hc4)))).2.2.2) ?_
        show Steps p.tables e below (T4.setTop (mkF m 76 #[.val (.long p1), .second, .val (.long p2), .second, .val (.long p3), .second, .val (.long (p3 &&& (9223372036854775807 : Int64))), .second, .val (.long (((p1 &&& (9223372036854775807 : Int64)) / (p3 &&& (9223372036854775807 : Int64))) * (p3 &&& (9223372036854775807 : Int64)))), .second, .val (.long (((p2 &&& (9223372036854775807 : Int64)) / (p3 &&& (9223372036854775807 : Int64))) * (p3 &&& (9223372036854775807 : Int64)))), .second, .val (.long g_4), .second] [])) _
        refine XS.lload X4.here hx rfl (hb hby at_76) rfl ?_
        show Steps p.tables e below (T4.setTop (mkF m 78 #[.val (.long p1), .second, .val (.long p2), .second, .val (.long p3), .second, .val (.long (p3 &&& (9223372036854775807 : Int64))), .second, .val (.long (((p1 &&& (9223372036854775807 : Int64)) / (p3 &&& (9223372036854775807 : Int64))) * (p3 &&& (9223372036854775807 : Int64)))), .second, .val (.long (((p2 &&& (9223372036854775807 : Int64)) / (p3 &&& (9223372036854775807 : Int64))) * (p3 &&& (9223372036854775807 : Int64)))), .second, .val (.long g_4), .second] [(.long (((p1 &&& (9223372036854775807 : Int64)) / (p3 &&& (9223372036854775807 : Int64))) * (p3 &&& (9223372036854775807 : Int64))))])) _
        refine XS.lload X4.here hx rfl (hb hby at_78) rfl ?_
        show Steps p.tables e below (T4.setTop (mkF m 80 #[.val (.long p1), .second, .val (.long p2), .second, .val (.long p3), .second, .val (.long (p3 &&& (9223372036854775807 : Int64))), .second, .val (.long (((p1 &&& (9223372036854775807 : Int64)) / (p3 &&& (9223372036854775807 : Int64))) * (p3 &&& (9223372036854775807 : Int64)))), .second, .val (.long (((p2 &&& (9223372036854775807 : Int64)) / (p3 &&& (9223372036854775807 : Int64))) * (p3 &&& (9223372036854775807 : Int64)))), .second, .val (.long g_4), .second] [(.long g_4), (.long (((p1 &&& (9223372036854775807 : Int64)) / (p3 &&& (9223372036854775807 : Int64))) * (p3 &&& (9223372036854775807 : Int64))))])) _
        refine XS.lrem X4.here hx rfl (hb hby at_80) rfl (own_g0 (own_mul p1 (own_cpos hc1)) (own_mul p2 (own_cpos hc1)) (own_cpos hc1) p4_0 (Or.inl hc4)) ?_
        show Steps p.tables e below (T4.setTop (mkF m 81 #[.val (.long p1), .second, .val (.long p2), .second, .val (.long p3), .second, .val (.long (p3 &&& (9223372036854775807 : Int64))), .second, .val (.long (((p1 &&& (9223372036854775807 : Int64)) / (p3 &&& (9223372036854775807 : Int64))) * (p3 &&& (9223372036854775807 : Int64)))), .second, .val (.long (((p2 &&& (9223372036854775807 : Int64)) / (p3 &&& (9223372036854775807 : Int64))) * (p3 &&& (9223372036854775807 : Int64)))), .second, .val (.long g_4), .second] [(.long ((((p1 &&& (9223372036854775807 : Int64)) / (p3 &&& (9223372036854775807 : Int64))) * (p3 &&& (9223372036854775807 : Int64))) - ((((p1 &&& (9223372036854775807 : Int64)) / (p3 &&& (9223372036854775807 : Int64))) * (p3 &&& (9223372036854775807 : Int64))) / g_4) * g_4))])) _
        refine XS.lconst X4.here hx rfl (hb hby at_81) ?_
        show Steps p.tables e below (T4.setTop (mkF m 82 #[.val (.long p1), .second, .val (.long p2), .second, .val (.long p3), .second, .val (.long (p3 &&& (9223372036854775807 : Int64))), .second, .val (.long (((p1 &&& (9223372036854775807 : Int64)) / (p3 &&& (9223372036854775807 : Int64))) * (p3 &&& (9223372036854775807 : Int64)))), .second, .val (.long (((p2 &&& (9223372036854775807 : Int64)) / (p3 &&& (9223372036854775807 : Int64))) * (p3 &&& (9223372036854775807 : Int64)))), .second, .val (.long g_4), .second] [(.long (0 : Int64)), (.long ((((p1 &&& (9223372036854775807 : Int64)) / (p3 &&& (9223372036854775807 : Int64))) * (p3 &&& (9223372036854775807 : Int64))) - ((((p1 &&& (9223372036854775807 : Int64)) / (p3 &&& (9223372036854775807 : Int64))) * (p3 &&& (9223372036854775807 : Int64))) / g_4) * g_4))])) _
        refine XS.lcmp X4.here hx rfl (hb hby at_82) rfl ?_
        show Steps p.tables e below (T4.setTop (mkF m 83 #[.val (.long p1), .second, .val (.long p2), .second, .val (.long p3), .second, .val (.long (p3 &&& (9223372036854775807 : Int64))), .second, .val (.long (((p1 &&& (9223372036854775807 : Int64)) / (p3 &&& (9223372036854775807 : Int64))) * (p3 &&& (9223372036854775807 : Int64)))), .second, .val (.long (((p2 &&& (9223372036854775807 : Int64)) / (p3 &&& (9223372036854775807 : Int64))) * (p3 &&& (9223372036854775807 : Int64)))), .second, .val (.long g_4), .second] [(.int (lcmpW ((((p1 &&& (9223372036854775807 : Int64)) / (p3 &&& (9223372036854775807 : Int64))) * (p3 &&& (9223372036854775807 : Int64))) - ((((p1 &&& (9223372036854775807 : Int64)) / (p3 &&& (9223372036854775807 : Int64))) * (p3 &&& (9223372036854775807 : Int64))) / g_4) * g_4) (0 : Int64)))])) _
        refine XS.ifNo X4.here hx rfl (hb hby at_83) rfl ((if0 _ _).trans (teq ((lw_eq _ _).mpr (own_g2 (own_mul p1 (own_cpos hc1)) (own_mul p2 (own_cpos hc1)) (own_cpos hc1) p4_0 (Or.inl hc4)))).2) ?_
        show Steps p.tables e below (T4.setTop (mkF m 86 #[.val (.long p1), .second, .val (.long p2), .second, .val (.long p3), .second, .val (.long (p3 &&& (9223372036854775807 : Int64))), .second, .val (.long (((p1 &&& (9223372036854775807 : Int64)) / (p3 &&& (9223372036854775807 : Int64))) * (p3 &&& (9223372036854775807 : Int64)))), .second, .val (.long (((p2 &&& (9223372036854775807 : Int64)) / (p3 &&& (9223372036854775807 : Int64))) * (p3 &&& (9223372036854775807 : Int64)))), .second, .val (.long g_4), .second] [])) _
        refine XS.lload X4.here hx rfl (hb hby at_86) rfl ?_
        show Steps p.tables e below (T4.setTop (mkF m 88 #[.val (.long p1), .second, .val (.long p2), .second, .val (.long p3), .second, .val (.long (p3 &&& (9223372036854775807 : Int64))), .second, .val (.long (((p1 &&& (9223372036854775807 : Int64)) / (p3 &&& (9223372036854775807 : Int64))) * (p3 &&& (9223372036854775807 : Int64)))), .second, .val (.long (((p2 &&& (9223372036854775807 : Int64)) / (p3 &&& (9223372036854775807 : Int64))) * (p3 &&& (9223372036854775807 : Int64)))), .second, .val (.long g_4), .second] [(.long (((p2 &&& (9223372036854775807 : Int64)) / (p3 &&& (9223372036854775807 : Int64))) * (p3 &&& (9223372036854775807 : Int64))))])) _
        refine XS.lload X4.here hx rfl (hb hby at_88) rfl ?_
        show Steps p.tables e below (T4.setTop (mkF m 90 #[.val (.long p1), .second, .val (.long p2), .second, .val (.long p3), .second, .val (.long (p3 &&& (9223372036854775807 : Int64))), .second, .val (.long (((p1 &&& (9223372036854775807 : Int64)) / (p3 &&& (9223372036854775807 : Int64))) * (p3 &&& (9223372036854775807 : Int64)))), .second, .val (.long (((p2 &&& (9223372036854775807 : Int64)) / (p3 &&& (9223372036854775807 : Int64))) * (p3 &&& (9223372036854775807 : Int64)))), .second, .val (.long g_4), .second] [(.long g_4), (.long (((p2 &&& (9223372036854775807 : Int64)) / (p3 &&& (9223372036854775807 : Int64))) * (p3 &&& (9223372036854775807 : Int64))))])) _
        refine XS.lrem X4.here hx rfl (hb hby at_90) rfl (own_g0 (own_mul p1 (own_cpos hc1)) (own_mul p2 (own_cpos hc1)) (own_cpos hc1) p4_0 (Or.inl hc4)) ?_
        show Steps p.tables e below (T4.setTop (mkF m 91 #[.val (.long p1), .second, .val (.long p2), .second, .val (.long p3), .second, .val (.long (p3 &&& (9223372036854775807 : Int64))), .second, .val (.long (((p1 &&& (9223372036854775807 : Int64)) / (p3 &&& (9223372036854775807 : Int64))) * (p3 &&& (9223372036854775807 : Int64)))), .second, .val (.long (((p2 &&& (9223372036854775807 : Int64)) / (p3 &&& (9223372036854775807 : Int64))) * (p3 &&& (9223372036854775807 : Int64)))), .second, .val (.long g_4), .second] [(.long ((((p2 &&& (9223372036854775807 : Int64)) / (p3 &&& (9223372036854775807 : Int64))) * (p3 &&& (9223372036854775807 : Int64))) - ((((p2 &&& (9223372036854775807 : Int64)) / (p3 &&& (9223372036854775807 : Int64))) * (p3 &&& (9223372036854775807 : Int64))) / g_4) * g_4))])) _
        refine XS.lconst X4.here hx rfl (hb hby at_91) ?_
        show Steps p.tables e below (T4.setTop (mkF m 92 #[.val (.long p1), .second, .val (.long p2), .second, .val (.long p3), .second, .val (.long (p3 &&& (9223372036854775807 : Int64))), .second, .val (.long (((p1 &&& (9223372036854775807 : Int64)) / (p3 &&& (9223372036854775807 : Int64))) * (p3 &&& (9223372036854775807 : Int64)))), .second, .val (.long (((p2 &&& (9223372036854775807 : Int64)) / (p3 &&& (9223372036854775807 : Int64))) * (p3 &&& (9223372036854775807 : Int64)))), .second, .val (.long g_4), .second] [(.long (0 : Int64)), (.long ((((p2 &&& (9223372036854775807 : Int64)) / (p3 &&& (9223372036854775807 : Int64))) * (p3 &&& (9223372036854775807 : Int64))) - ((((p2 &&& (9223372036854775807 : Int64)) / (p3 &&& (9223372036854775807 : Int64))) * (p3 &&& (9223372036854775807 : Int64))) / g_4) * g_4))])) _
        refine XS.lcmp X4.here hx rfl (hb hby at_92) rfl ?_
        show Steps p.tables e below (T4.setTop (mkF m 93 #[.val (.long p1), .second, .val (.long p2), .second, .val (.long p3), .second, .val (.long (p3 &&& (9223372036854775807 : Int64))), .second, .val (.long (((p1 &&& (9223372036854775807 : Int64)) / (p3 &&& (9223372036854775807 : Int64))) * (p3 &&& (9223372036854775807 : Int64)))), .second, .val (.long (((p2 &&& (9223372036854775807 : Int64)) / (p3 &&& (9223372036854775807 : Int64))) * (p3 &&& (9223372036854775807 : Int64)))), .second, .val (.long g_4), .second] [(.int (lcmpW ((((p2 &&& (9223372036854775807 : Int64)) / (p3 &&& (9223372036854775807 : Int64))) * (p3 &&& (9223372036854775807 : Int64))) - ((((p2 &&& (9223372036854775807 : Int64)) / (p3 &&& (9223372036854775807 : Int64))) * (p3 &&& (9223372036854775807 : Int64))) / g_4) * g_4) (0 : Int64)))])) _
        refine XS.ifNo X4.here hx rfl (hb hby at_93) rfl ((if0 _ _).trans (teq ((lw_eq _ _).mpr (own_g3 (own_mul p1 (own_cpos hc1)) (own_mul p2 (own_cpos hc1)) (own_cpos hc1) p4_0 (Or.inl hc4)))).2) ?_
        show Steps p.tables e below (T4.setTop (mkF m 96 #[.val (.long p1), .second, .val (.long p2), .second, .val (.long p3), .second, .val (.long (p3 &&& (9223372036854775807 : Int64))), .second, .val (.long (((p1 &&& (9223372036854775807 : Int64)) / (p3 &&& (9223372036854775807 : Int64))) * (p3 &&& (9223372036854775807 : Int64)))), .second, .val (.long (((p2 &&& (9223372036854775807 : Int64)) / (p3 &&& (9223372036854775807 : Int64))) * (p3 &&& (9223372036854775807 : Int64)))), .second, .val (.long g_4), .second] [])) _
        refine XS.lload X4.here hx rfl (hb hby at_96) rfl ?_
        show Steps p.tables e below (T4.setTop (mkF m 98 #[.val (.long p1), .second, .val (.long p2), .second, .val (.long p3), .second, .val (.long (p3 &&& (9223372036854775807 : Int64))), .second, .val (.long (((p1 &&& (9223372036854775807 : Int64)) / (p3 &&& (9223372036854775807 : Int64))) * (p3 &&& (9223372036854775807 : Int64)))), .second, .val (.long (((p2 &&& (9223372036854775807 : Int64)) / (p3 &&& (9223372036854775807 : Int64))) * (p3 &&& (9223372036854775807 : Int64)))), .second, .val (.long g_4), .second] [(.long g_4)])) _
        refine XS.lload X4.here hx rfl (hb hby at_98) rfl ?_
        show Steps p.tables e below (T4.setTop (mkF m 100 #[.val (.long p1), .second, .val (.long p2), .second, .val (.long p3), .second, .val (.long (p3 &&& (9223372036854775807 : Int64))), .second, .val (.long (((p1 &&& (9223372036854775807 : Int64)) / (p3 &&& (9223372036854775807 : Int64))) * (p3 &&& (9223372036854775807 : Int64)))), .second, .val (.long (((p2 &&& (9223372036854775807 : Int64)) / (p3 &&& (9223372036854775807 : Int64))) * (p3 &&& (9223372036854775807 : Int64)))), .second, .val (.long g_4), .second] [(.long (p3 &&& (9223372036854775807 : Int64))), (.long g_4)])) _
        refine XS.lrem X4.here hx rfl (hb hby at_100) rfl hc1 ?_
        show Steps p.tables e below (T4.setTop (mkF m 101 #[.val (.long p1), .second, .val (.long p2), .second, .val (.long p3), .second, .val (.long (p3 &&& (9223372036854775807 : Int64))), .second, .val (.long (((p1 &&& (9223372036854775807 : Int64)) / (p3 &&& (9223372036854775807 : Int64))) * (p3 &&& (9223372036854775807 : Int64)))), .second, .val (.long (((p2 &&& (9223372036854775807 : Int64)) / (p3 &&& (9223372036854775807 : Int64))) * (p3 &&& (9223372036854775807 : Int64)))), .second, .val (.long g_4), .second] [(.long (g_4 - (g_4 / (p3 &&& (9223372036854775807 : Int64))) * (p3 &&& (9223372036854775807 : Int64))))])) _
        refine XS.lconst X4.here hx rfl (hb hby at_101) ?_
        show Steps p.tables e below (T4.setTop (mkF m 102 #[.val (.long p1), .second, .val (.long p2), .second, .val (.long p3), .second, .val (.long (p3 &&& (9223372036854775807 : Int64))), .second, .val (.long (((p1 &&& (9223372036854775807 : Int64)) / (p3 &&& (9223372036854775807 : Int64))) * (p3 &&& (9223372036854775807 : Int64)))), .second, .val (.long (((p2 &&& (9223372036854775807 : Int64)) / (p3 &&& (9223372036854775807 : Int64))) * (p3 &&& (9223372036854775807 : Int64)))), .second, .val (.long g_4), .second] [(.long (0 : Int64)), (.long (g_4 - (g_4 / (p3 &&& (9223372036854775807 : Int64))) * (p3 &&& (9223372036854775807 : Int64))))])) _
        refine XS.lcmp X4.here hx rfl (hb hby at_102) rfl ?_
        show Steps p.tables e below (T4.setTop (mkF m 103 #[.val (.long p1), .second, .val (.long p2), .second, .val (.long p3), .second, .val (.long (p3 &&& (9223372036854775807 : Int64))), .second, .val (.long (((p1 &&& (9223372036854775807 : Int64)) / (p3 &&& (9223372036854775807 : Int64))) * (p3 &&& (9223372036854775807 : Int64)))), .second, .val (.long (((p2 &&& (9223372036854775807 : Int64)) / (p3 &&& (9223372036854775807 : Int64))) * (p3 &&& (9223372036854775807 : Int64)))), .second, .val (.long g_4), .second] [(.int (lcmpW (g_4 - (g_4 / (p3 &&& (9223372036854775807 : Int64))) * (p3 &&& (9223372036854775807 : Int64))) (0 : Int64)))])) _
        refine XS.ifNo X4.here hx rfl (hb hby at_103) rfl ((if0 _ _).trans (teq ((lw_eq _ _).mpr (own_g4 (own_mul p1 (own_cpos hc1)) (own_mul p2 (own_cpos hc1)) (own_cpos hc1) p4_0 (Or.inl hc4)))).2) ?_
        show Steps p.tables e below (T4.setTop (mkF m 106 #[.val (.long p1), .second, .val (.long p2), .second, .val (.long p3), .second, .val (.long (p3 &&& (9223372036854775807 : Int64))), .second, .val (.long (((p1 &&& (9223372036854775807 : Int64)) / (p3 &&& (9223372036854775807 : Int64))) * (p3 &&& (9223372036854775807 : Int64)))), .second, .val (.long (((p2 &&& (9223372036854775807 : Int64)) / (p3 &&& (9223372036854775807 : Int64))) * (p3 &&& (9223372036854775807 : Int64)))), .second, .val (.long g_4), .second] [])) _
        refine XS.iconst X4.here hx rfl (hb hby at_106) ?_
        show Steps p.tables e below (T4.setTop (mkF m 107 #[.val (.long p1), .second, .val (.long p2), .second, .val (.long p3), .second, .val (.long (p3 &&& (9223372036854775807 : Int64))), .second, .val (.long (((p1 &&& (9223372036854775807 : Int64)) / (p3 &&& (9223372036854775807 : Int64))) * (p3 &&& (9223372036854775807 : Int64)))), .second, .val (.long (((p2 &&& (9223372036854775807 : Int64)) / (p3 &&& (9223372036854775807 : Int64))) * (p3 &&& (9223372036854775807 : Int64)))), .second, .val (.long g_4), .second] [(.int (1 : Int32))])) _
        refine XS.goto X4.here hx rfl (pc0 := 107) (pc' := 111) rfl (hb hby at_107) (by decide) (by decide) ?_
        show Steps p.tables e below (T4.setTop (mkF m 111 #[.val (.long p1), .second, .val (.long p2), .second, .val (.long p3), .second, .val (.long (p3 &&& (9223372036854775807 : Int64))), .second, .val (.long (((p1 &&& (9223372036854775807 : Int64)) / (p3 &&& (9223372036854775807 : Int64))) * (p3 &&& (9223372036854775807 : Int64)))), .second, .val (.long (((p2 &&& (9223372036854775807 : Int64)) / (p3 &&& (9223372036854775807 : Int64))) * (p3 &&& (9223372036854775807 : Int64)))), .second, .val (.long g_4), .second] [(.int (1 : Int32))])) _
        exact retN X4 hx (t := .boolean) Bd.returns (by simp) (hb hby at_111) hr
      · show Q_rm0 Z p1 p2 p3 h0 n0 _ T4.heap _
        exact ⟨rfl, N4⟩
set_option maxRecDepth 65536 in
set_option maxHeartbeats 40000000 in
theorem comes_1 {Post : Tables → Env → Array Value → State → Outcome → State → Prop} (hpost : ∀ tb e args s v u, (limb_1_1.after args s (.returned v) u = true ∧ limb_1_2.after args s (.returned v) u = true ∧ True) → FrameEnd s (.returned v) u (Jvm.fieldLocs frame_1_writes args s ++ Jvm.arrayLocs frame_1_arrays args s ++ Jvm.staticLocs frame_1_statics s) 0 0 → Post tb e args s (.returned v) u) :
    ArmFor flags0 classFile x code maxLocals ret World_1 tables_1 room_1 Calls_1 rest_1 Pre_1 Post := by
  intro l hfl _ _ p e ha hc hk s m args below hf hA hF happ hP
  obtain ⟨hcalls, hrest, hpre⟩ := hP
  obtain ⟨-, -, -, hnamed, -, -, -, hat⟩ := (Spec.applies_iff hf).mp happ
  obtain ⟨hg, hn⟩ := and_e (Cond.before_iff.mp (show (Jvm.Cond.and given_1 narrow_1).before args s = true from hpre))
  obtain ⟨gg1, gg2⟩ := and_e hg
  obtain ⟨gg3, gg4⟩ := and_e gg2
  obtain ⟨gg5, gg6⟩ := and_e gg4
  obtain ⟨w0, w1, w2, rfl⟩ : ∃ w0 w1 w2 : Value, args = #[w0, w1, w2] := by
    have hs : args.size = 3 := by simpa [Cond.value, given_1] using gg1
    obtain ⟨L⟩ := args
    match L, hs with
    | [w0, w1, w2], _ => exact ⟨w0, w1, w2, rfl⟩
  have hw := fun d (hd : d ∈ tables_1) => atoms_spec (ws := Jvm.Cond.code x code maxLocals ret :: tables_1) hat d (List.mem_cons_of_mem _ hd)
  have hfit : Fit s := fun {y c} hc i hi => by
    obtain ⟨ha, rfl⟩ := Array.getElem?_eq_some_iff.mp hc
    have q := List.all_eq_true.mp ((Array.all_eq_true_iff_forall_mem.mp hF) _ (Array.getElem_mem ha)) i (List.mem_range.mpr hi)
    simpa [Array.getElem?_eq_getElem hi] using q
  obtain ⟨i0, ei0⟩ := isL_v gg3
  obtain rfl : w0 = (.long i0) := Option.some.inj ei0
  obtain ⟨i1, ei1⟩ := isL_v gg5
  obtain rfl : w1 = (.long i1) := Option.some.inj ei1
  obtain ⟨i2, ei2⟩ := isL_v gg6
  obtain rfl : w2 = (.long i2) := Option.some.inj ei2
  obtain ⟨n, o, h1, h2, h3, _, L, rfl, ⟨rfl, N⟩, hq⟩ := rm0 l s _ hw tables_1 i0 i1 i2 s.heap s.heap.size (Nat.le_refl _) p e ha hc hk s m _ below hf ((Spec.applies_iff_loose hf).mp happ).1 ⟨rfl, State.Warmed39.refl s, rfl⟩ trivial
  refine ⟨n, _, h1, h2, h3, hpost _ _ _ _ _ _ ⟨Cond.after_iff.mpr rfl, Cond.after_iff.mpr (eq_i res_at (Term.int_eval (1)) rfl), trivial⟩ ⟨hq.1, hq.2.1, (hq.2.2.sift fun y hy => Or.inr (N y hy)).mono (by decide) (by decide)⟩⟩
theorem main_1_1 : Claimed_1_1 := comes_1 fun _ _ _ _ _ _ h hF => ⟨h.1, hF⟩
theorem main_1_2 : Claimed_1_2 := comes_1 fun _ _ _ _ _ _ h hF => ⟨h.2.1, hF⟩
end Jvm.Pilot.@@N@@
namespace Jvm.Pilot.@@N@@
open Jvm Jvm.ClassFile Sem Op Lib Jvm.Free Jvm.Stand Jvm.Pilot.@@N@@.Jvm.D
/-! MADE BY PROGRAM (witnessworld.py) out of the Statement's table words and the real class files: 10 classes; the members and pool entries that the words name. The judged class is class 1, her method 1. -/
namespace start1
open Jvm.ClassFile
def u (s : String) : CpInfo := .utf8 (stringToUtf16 s)
/-- a pool by its gaps: so many unusable entries, then the entry; so many at the end -/
def gap : Nat → List CpInfo → List CpInfo
  | 0, r => r
  | n + 1, r => .unusable :: gap n r
def poolList (es : List (Nat × CpInfo)) (last : Nat) : List CpInfo := es.foldr (fun e r => gap e.1 (e.2 :: r)) (gap last [])
def pool (es : List (Nat × CpInfo)) (last : Nat) : Array CpInfo := ⟨poolList es last⟩
def fileOf (pool : Array CpInfo) (this : Nat) (attrs : Array Attribute := #[]) (ms : Array MethodInfo := #[]) (fl : Nat := 33) (sup : Nat := 0) (ifs : Array Nat := #[]) (fds : Array FieldInfo := #[]) : ClassFile where
  minorVersion := 0
  majorVersion := 65
  constantPool := pool
  accessFlags := fl
  thisClass := this
  superClass := sup
  interfaces := ifs
  fields := fds
  methods := ms
  attributes := attrs
def plain (name : String) (sup : Option ClassId) : Class where
  name := name
  kind := .ordinary
  loader := none
  accessFlags := 33
  super := sup
  interfaces := #[]
  cf := none
  fields := #[]
  methods := #[]
  instanceTypes := #[]
  staticTypes := #[]
  resolved := #[]
  callSites := []
  init := .initialized
  statics := none
  mirror := none

def pool0 : Array CpInfo := pool [(5, u "<init>"), (0, u "()V"), (1, .class_ 10), (1, u "java/lang/Object")] 113

def k0m0 : Method := { name := "<init>", desc := "()V", sig := { parameters := [], returnType := none }, accessFlags := 1, code := none }
/-- java/lang/Object -/
def k0 : Class := { plain "java/lang/Object" none with
  accessFlags := 33
  interfaces := #[]
  cf := some (fileOf pool0 8 #[] #[{ accessFlags := 1, nameIndex := 5, descriptorIndex := 6, attributes := #[] }] 33 0 #[] #[])
  fields := #[]
  methods := #[k0m0]
  instanceTypes := #[]
  staticTypes := #[]
  resolved := Array.replicate 124 none
  statics := none }

def pool1 : Array CpInfo := pool [(2, .class_ 4), (1, u "java/lang/Object"), (0, u "<init>"), (0, u "()V"), (2, .long 9223372036854775807), (1, .methodref 12 13), (0, .class_ 14), (0, .nameAndType 15 16), (0, u "com/example/entropic_join/entropicjoin/Fraction"), (0, u "gcd"), (0, u "(JJ)J"), (0, .class_ 18), (0, u "com/example/entropic_join/entropicjoin/FractionGcdPinLaw"), (2, u "law"), (0, u "(JJJ)Z")] 3

def k1m0 : Method := { name := "<init>", desc := "()V", sig := { parameters := [], returnType := none }, accessFlags := 1, code := none }
def k1c1 : Code := { maxStack := 4, maxLocals := 14, code := code, exceptionTable := #[], attributes := #[] }
def k1m1 : Method := { name := "law", desc := "(JJJ)Z", sig := { parameters := [.long, .long, .long], returnType := some .boolean }, accessFlags := 9, code := some k1c1 }
/-- com/example/entropic_join/entropicjoin/FractionGcdPinLaw -/
def k1 : Class := { plain "com/example/entropic_join/entropicjoin/FractionGcdPinLaw" (some 0) with
  accessFlags := 49
  interfaces := #[]
  cf := some (fileOf pool1 17 #[] #[{ accessFlags := 1, nameIndex := 5, descriptorIndex := 6, attributes := #[] }, { accessFlags := 9, nameIndex := 21, descriptorIndex := 22, attributes := #[] }] 49 2 #[] #[])
  fields := #[]
  methods := #[k1m0, k1m1]
  instanceTypes := #[]
  staticTypes := #[]
  resolved := Array.replicate 26 none
  statics := none }

def pool2 : Array CpInfo := pool [(1, .class_ 2), (0, u "java/lang/Comparable"), (0, .class_ 4), (0, u "java/lang/Object")] 7

/-- java/lang/Comparable -/
def k2 : Class := { plain "java/lang/Comparable" (some 0) with
  accessFlags := 1537
  interfaces := #[]
  cf := some (fileOf pool2 1 #[] #[] 1537 3 #[] #[])
  fields := #[]
  methods := #[]
  instanceTypes := #[]
  staticTypes := #[]
  resolved := Array.replicate 12 none
  statics := none }

def pool3 : Array CpInfo := pool [(2, .class_ 4), (1, u "java/lang/Object"), (3, .class_ 10), (1, u "com/example/entropic_join/entropicjoin/Fraction"), (0, u "numerator"), (0, u "J"), (2, u "denominator"), (2, u "big"), (0, u "[Ljava/math/BigInteger;"), (29, u "gcd"), (0, u "(JJ)J"), (36, u "NON_NEGATIVE"), (0, u "Ljava/util/regex/Pattern;"), (111, u "ONE"), (12, u "ZERO"), (0, u "Lcom/example/entropic_join/entropicjoin/Fraction;"), (8, .class_ 224), (0, u "java/lang/Comparable")] 34

def k3c0 : Code := { maxStack := 4, maxLocals := 6, code := prog_21_method_6_code, exceptionTable := #[], attributes := #[] }
def k3m0 : Method := { name := "gcd", desc := "(JJ)J", sig := { parameters := [.long, .long], returnType := some .long }, accessFlags := 8, code := some k3c0 }
/-- com/example/entropic_join/entropicjoin/Fraction -/
def k3 : Class := { plain "com/example/entropic_join/entropicjoin/Fraction" (some 0) with
  accessFlags := 49
  interfaces := #[2]
  cf := some (fileOf pool3 8 #[] #[{ accessFlags := 8, nameIndex := 49, descriptorIndex := 50, attributes := #[] }] 49 2 #[223] #[{ accessFlags := 24, nameIndex := 213, descriptorIndex := 214, attributes := #[] }, { accessFlags := 24, nameIndex := 200, descriptorIndex := 214, attributes := #[] }, { accessFlags := 26, nameIndex := 87, descriptorIndex := 88, attributes := #[] }, { accessFlags := 18, nameIndex := 11, descriptorIndex := 12, attributes := #[] }, { accessFlags := 18, nameIndex := 15, descriptorIndex := 12, attributes := #[] }, { accessFlags := 18, nameIndex := 18, descriptorIndex := 19, attributes := #[] }])
  fields := #[{ name := "ZERO", type := (.object "com/example/entropic_join/entropicjoin/Fraction"), accessFlags := 24, slot := 0, constantValue := 0 }, { name := "ONE", type := (.object "com/example/entropic_join/entropicjoin/Fraction"), accessFlags := 24, slot := 1, constantValue := 0 }, { name := "NON_NEGATIVE", type := (.object "java/util/regex/Pattern"), accessFlags := 26, slot := 2, constantValue := 0 }, { name := "numerator", type := .long, accessFlags := 18, slot := 0, constantValue := 0 }, { name := "denominator", type := .long, accessFlags := 18, slot := 1, constantValue := 0 }, { name := "big", type := (.array (.object "java/math/BigInteger")), accessFlags := 18, slot := 2, constantValue := 0 }]
  methods := #[k3m0]
  instanceTypes := #[.long, .long, (.array (.object "java/math/BigInteger"))]
  staticTypes := #[(.object "com/example/entropic_join/entropicjoin/Fraction"), (.object "com/example/entropic_join/entropicjoin/Fraction"), (.object "java/util/regex/Pattern")]
  resolved := Array.replicate 259 none
  statics := none }

def pool4 : Array CpInfo := pool [(1, u "java/lang/Cloneable"), (0, .class_ 1), (0, u "java/lang/Object"), (0, .class_ 3)] 3

/-- java/lang/Cloneable -/
def k4 : Class := { plain "java/lang/Cloneable" (some 0) with
  accessFlags := 1537
  interfaces := #[]
  cf := some (fileOf pool4 2 #[] #[] 1537 4 #[] #[])
  fields := #[]
  methods := #[]
  instanceTypes := #[]
  staticTypes := #[]
  resolved := Array.replicate 8 none
  statics := none }

def pool5 : Array CpInfo := pool [(1, u "java/io/Serializable"), (0, .class_ 1), (0, u "java/lang/Object"), (0, .class_ 3)] 3

/-- java/io/Serializable -/
def k5 : Class := { plain "java/io/Serializable" (some 0) with
  accessFlags := 1537
  interfaces := #[]
  cf := some (fileOf pool5 2 #[] #[] 1537 4 #[] #[])
  fields := #[]
  methods := #[]
  instanceTypes := #[]
  staticTypes := #[]
  resolved := Array.replicate 8 none
  statics := none }

/-- the primitive byte -/
def k6 : Class := { plain "byte" none with kind := .primitive 'B', accessFlags := 0x411 }
/-- [B -/
def k7 : Class := { plain "[B" (some 0) with kind := .array 6 .byte, interfaces := #[4, 5], accessFlags := 1041 }

/-- the primitive int -/
def k8 : Class := { plain "int" none with kind := .primitive 'I', accessFlags := 0x411 }
/-- [I -/
def k9 : Class := { plain "[I" (some 0) with kind := .array 8 .int, interfaces := #[4, 5], accessFlags := 1041 }

def heap : Heap := #[]
def classes : Array Class := #[k0, k1, k2, k3, k4, k5, k6, k7, k8, k9]
def interned : List (Array UInt16 × Addr) := []
def slotsUsed : Nat := 0
def theMethod : MethodId := ⟨1, 1⟩
def args0 : Array Value := #[.long 12, .long 18, .long 3]
def aboutOver (below : List Frame) : State where
  vm := { classes := classes, interned := interned.toArray }
  heap := heap
  slotsUsed := slotsUsed
  threads := #[{ frames := .invoking theMethod args0 :: below }]
def below0 : List Frame := [.native { method := ⟨0, 0⟩, args := #[] }]
def about1 : State := aboutOver below0
def p0 : Program := .bare "" "" ""
def e0 : Env := launch0.env 0 0 0
theorem w_frames : about1.frames = Frame.invoking theMethod args0 :: below0 := rfl
set_option maxRecDepth 65536 in
theorem w_args : argsFit about1.vm theMethod args0 = true := by decide +kernel
set_option maxRecDepth 65536 in
theorem w_heap : heapFits about1 = true := by decide +kernel
set_option maxRecDepth 65536 in
theorem w_runnable : about1.curStatus? = some .runnable := by decide +kernel
set_option maxRecDepth 65536 in
theorem w_alone : about1.alone = true := by decide +kernel
set_option maxRecDepth 65536 in
theorem w_named : about1.methodNamed? x = some theMethod := by decide +kernel
set_option maxRecDepth 65536 in
theorem w_hears : about1.hears theMethod below0 = true := by decide +kernel
set_option maxRecDepth 65536 in
theorem w_ripe : about1.ripe theMethod args0 below0 = true := by decide +kernel
theorem w_running : about1.status = .running := rfl
set_option maxRecDepth 65536 in
theorem w_room : about1.hasRoom e0.platform room_1 = true :=
  launch0.hasRoom_least _ room_1 (by decide +kernel) (by decide +kernel) (by decide +kernel) (by decide +kernel) (by decide +kernel) (by decide +kernel)
theorem allAtoms_all (ts : List Jvm.Cond) (a : Array Jvm.Value) (st : Jvm.State) : (allAtoms ts).before a st = ts.all (fun c => c.before a st) := by
  induction ts with
  | nil => rfl
  | cons c t ih =>
    show (Jvm.Cond.and c (allAtoms t)).before a st = _
    rw [Jvm.Cond.before_and, ih, List.all_cons]
def words1 : List Jvm.Cond := Jvm.Cond.code x code maxLocals ret :: tables_1
/-- a 'code' word, met by the world's own term for the bytes: nothing is compared byte by byte -/
theorem code_word {y : MethodName} {bytes : ByteArray} {mx : Nat} {rt : Option FieldType} {a : Array Value} {s : State} {m : MethodId} {meth : Method} {c : Code} (h1 : s.methodNamed? y = some m) (h2 : s.vm.method? m = some meth) (h3 : meth.code = some c) (h4 : c.code = bytes)
    (h5 : (c.maxLocals == mx && c.exceptionTable.isEmpty && decide (c.maxStack ≤ mostOperands) && decide (meth.sig.returnType = rt) && !meth.locks && decide (parseMethodDescriptor y.desc = some meth.sig)) = true) : (Jvm.Cond.code y bytes mx rt).before a s = true := by
  simp only [Bool.and_eq_true, beq_iff_eq, Bool.not_eq_true', decide_eq_true_eq] at h5
  obtain ⟨⟨⟨⟨⟨g1, g2⟩, g3⟩, g4⟩, g5⟩, g6⟩ := h5
  simp [Cond.before, Cond.holds, Cond.value, h1, h2, h3, h4, g1, g2, g3, g4, g5, g6]
def isCode : Jvm.Cond → Bool
  | .code _ _ _ _ => true
  | _ => false
theorem all_split {L : List Jvm.Cond} {P : Jvm.Cond → Bool} (h1 : L.all (fun c => isCode c || P c) = true) (h2 : ∀ c ∈ L.filter isCode, P c = true) : L.all P = true := by
  refine List.all_eq_true.mpr fun c hc => ?_
  have h := List.all_eq_true.mp h1 c hc
  rcases Bool.eq_false_or_eq_true (isCode c) with hi | hi
  · exact h2 c (List.mem_filter.mpr ⟨hc, hi⟩)
  · simpa [hi] using h
set_option maxRecDepth 65536 in
theorem w_c0 : (Jvm.Cond.code x code maxLocals ret).before args0 about1 = true := code_word (m := ⟨1, 1⟩) (meth := k1m1) (c := k1c1) (by decide +kernel) rfl rfl rfl (by decide +kernel)
set_option maxRecDepth 65536 in
theorem w_c1 : (Jvm.Cond.code ({ cls := "com/example/entropic_join/entropicjoin/Fraction", name := "gcd", desc := "(JJ)J" } : Jvm.MethodName) prog_21_method_6_code (6 : Nat) (Option.some Jvm.ClassFile.FieldType.long)).before args0 about1 = true := code_word (m := ⟨3, 0⟩) (meth := k3m0) (c := k3c0) (by decide +kernel) rfl rfl rfl (by decide +kernel)
def codes1 : List Jvm.Cond := [Jvm.Cond.code x code maxLocals ret, Jvm.Cond.code ({ cls := "com/example/entropic_join/entropicjoin/Fraction", name := "gcd", desc := "(JJ)J" } : Jvm.MethodName) prog_21_method_6_code (6 : Nat) (Option.some Jvm.ClassFile.FieldType.long)]
set_option maxRecDepth 65536 in
theorem codes_eq : words1.filter isCode = codes1 := rfl
theorem w_codes : ∀ c ∈ words1.filter isCode, c.before args0 about1 = true := by
  rw [codes_eq]
  intro c hc
  simp only [codes1, List.mem_cons, List.not_mem_nil, or_false] at hc
  rcases hc with rfl | rfl
  · exact w_c0
  · exact w_c1
set_option maxRecDepth 65536 in
theorem w_t1 : words1.all (fun c => isCode c || c.before args0 about1) = true := by decide +kernel
theorem w_tables : (allAtoms (Jvm.Cond.code x code maxLocals ret :: tables_1)).before args0 about1 = true := by
  rw [allAtoms_all]
  show words1.all (fun c => c.before args0 about1) = true
  refine all_split ?_ w_codes
  rw [w_t1]
set_option maxRecDepth 65536 in
theorem w_case : (Jvm.Cond.and given_1 narrow_1).before args0 about1 = true := by decide +kernel
theorem w_applies : (headSpec (Jvm.Cond.code x code maxLocals ret :: tables_1) room_1).applies x e0.platform about1 = true :=
  (Spec.applies_iff w_frames).mpr ⟨w_running, w_runnable, w_alone, w_named, w_hears, w_ripe, w_room, w_tables⟩
theorem atStart : AtStart classFile x code maxLocals ret World_1 tables_1 room_1 Calls_1 rest_1 Pre_1 launch0 p0 e0 about1 theMethod args0 below0 :=
  ⟨lists_1, trivial, launch0.admits_env _ _ _, launch0.least_env, fairChoices_fair.cas, fairChoices_fair.clock, w_frames, w_args, w_heap, w_applies, trivial, trivial, w_case⟩
end start1
theorem witness_1 : WitnessClaimed_1 := ⟨start1.p0, start1.e0, start1.about1, start1.theMethod, start1.args0, start1.below0, start1.atStart⟩
end Jvm.Pilot.@@N@@
