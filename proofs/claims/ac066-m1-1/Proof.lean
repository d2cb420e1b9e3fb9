import JvmDerived
import JvmDerived.Pilot.@@N@@Statement
import JvmDerived.Pilot.@@N@@Code
set_option linter.unusedVariables false
set_option linter.unusedSimpArgs false
namespace Jvm.RoadKit
open Sem ClassFile Op Lib Jvm.Stand Jvm.Free Jvm.LawKit
section New
variable {p : Program} {l : Launch} {e : Env} {R : Room} {s : State} {m : MethodId} {args : Array Value} {below : List Frame} {meth : Method} {c : Code} {T : State} {locs : List Loc} {cells slots : Nat}
theorem retI (X : Stand p l e R s m args below meth c T locs cells slots) (hx : p.tables.exec = Jvm.exec) {pc : Nat} {Ls : Array Slot} {z : Int32} {rest : List Value} (hret : meth.sig.returnType = some .int) (hd : decode c.code pc = .ok (.ireturn, 1)) {fs : List Frame}
    (hl : ∀ (f : JFrame) (acts : List Action), f.method = m → f.locked = none → f.entered = [] → (doReturn e (T.setTop f) acts (some (.int z))).1 = T.setFrames fs) : Steps p.tables e below (T.setTop (mkF m pc Ls (.int z :: rest))) (T.setFrames fs) := by
  have hm' : T.vm.method? m = some meth := X.method'
  have hn : narrow .int (.int z) = .int z := rfl
  show Steps p.tables e below (T.setTop { method := m, pc := pc, locals := Ls, stack := _ :: rest, locked := none }) _
  jvm_step X.here [X.here.top, hx, hd, hm', hret, hn]
  first | (intro acts; rw [hl _ acts rfl rfl rfl]) | rw [hl _ _ rfl rfl rfl]
  exact Steps.refl _
end New
end Jvm.RoadKit
namespace Jvm.Pilot.@@N@@
open Jvm Jvm.ClassFile Sem Op Lib Jvm.Free Jvm.Stand Jvm.LawKit Jvm.RoadKit Bundle Jvm.Pilot.@@N@@.Jvm.D
theorem own_lmod (x y : Int64) (hx : 0 ≤ x.toInt) : (x % y).toInt = x.toInt % y.toInt := by
  rw [Int64.toInt_mod]; exact Int.tmod_eq_emod_of_nonneg hx
theorem own_imod (x y : Int32) (hx : 0 ≤ x.toInt) : (x % y).toInt = x.toInt % y.toInt := by
  rw [Int32.toInt_mod]; exact Int.tmod_eq_emod_of_nonneg hx
theorem own_lmod_rng (x y : Int64) (hx : 0 ≤ x.toInt) (hy : 0 < y.toInt) : 0 ≤ (x % y).toInt ∧ (x % y).toInt < y.toInt := by
  rw [own_lmod x y hx]; exact ⟨Int.emod_nonneg _ (by omega), Int.emod_lt_of_pos _ hy⟩
theorem own_imod_rng (x y : Int32) (hx : 0 ≤ x.toInt) (hy : 0 < y.toInt) : 0 ≤ (x % y).toInt ∧ (x % y).toInt < y.toInt := by
  rw [own_imod x y hx]; exact ⟨Int.emod_nonneg _ (by omega), Int.emod_lt_of_pos _ hy⟩
theorem own_mI (x : Int32) : 0 ≤ (x &&& (2147483647 : Int32)).toInt ∧ (x &&& (2147483647 : Int32)).toInt ≤ 2147483647 := by
  have h := c_and x 2147483647 (by decide)
  have e : (2147483647 : Int32).toInt = 2147483647 := by decide
  omega
theorem own_mL (x : Int64) : 0 ≤ (x &&& (9223372036854775807 : Int64)).toInt ∧ (x &&& (9223372036854775807 : Int64)).toInt ≤ 9223372036854775807 := by
  have h := (c_andSL x 9223372036854775807).2.2 (by decide)
  have := rng64 (x &&& (9223372036854775807 : Int64))
  omega
theorem own_nz32 {x : Int32} (h : 0 < x.toInt) : ¬ (x = (0 : Int32)) := fun e => by subst e; revert h; decide
theorem own_nz64 {x : Int64} (h : 0 < x.toInt) : ¬ (x = (0 : Int64)) := fun e => by subst e; revert h; decide
theorem own_lt32 {x y : Int32} : x < y ↔ x.toInt < y.toInt := Int32.lt_iff_toInt_lt
theorem own_lt64 {x y : Int64} : x < y ↔ x.toInt < y.toInt := Int64.lt_iff_toInt_lt
theorem own_eq32 {x y : Int32} (h : x.toInt = y.toInt) : x = y := Int32.toInt_inj.mp h
theorem own_eq64 {x y : Int64} (h : x.toInt = y.toInt) : x = y := Int64.toInt_inj.mp h
theorem d1_0 : decode jdk_29_method_70_code 0 = .ok (.lload_n 0, 1) := by decide +kernel
theorem d1_1 : decode jdk_29_method_70_code 1 = .ok (.lload_n 2, 1) := by decide +kernel
theorem d1_2 : decode jdk_29_method_70_code 2 = .ok (.lcmp, 1) := by decide +kernel
theorem d1_3 : decode jdk_29_method_70_code 3 = .ok (.ifCond .gt 7, 3) := by decide +kernel
theorem d1_10 : decode jdk_29_method_70_code 10 = .ok (.lload_n 2, 1) := by decide +kernel
theorem d1_11 : decode jdk_29_method_70_code 11 = .ok (.lreturn, 1) := by decide +kernel
theorem d1_6 : decode jdk_29_method_70_code 6 = .ok (.lload_n 0, 1) := by decide +kernel
theorem d1_7 : decode jdk_29_method_70_code 7 = .ok (.goto 4, 3) := by decide +kernel
theorem ef_1_JJ (m : MethodId) (x0 : Int64) (x1 : Int64) : entryFrame m #[(.long x0), (.long x1)] 4 = mkF m 0 #[.val (.long x0), .second, .val (.long x1), .second] [] := by first | (simp [entryFrame, mkF, argsToLocals, Value.category]; done) | rfl
def f_min (q1 : Int64) (q2 : Int64) : Int64 := (if q2 < q1 then q2 else q1)
def Q_min (Z : State) (q1 : Int64) (q2 : Int64) (h0 : Heap) (n0 : Nat) (v : Option Value) (h : Heap) (L : List Loc) : Prop := v = some (.long (f_min q1 q2)) ∧ Fr n0 L ∧ h = h0
set_option maxRecDepth 65536 in
set_option maxHeartbeats 40000000 in
theorem rm_min_t (l : Launch) (Z : State) (a0 : Array Value) (hw : ∀ d ∈ tables_1, d.before a0 Z = true) (ws : List Jvm.Cond) (q1 : Int64) (q2 : Int64) (h0 : Heap) (n0 : Nat) (Z0 : n0 ≤ h0.size) (hc0 : q2 < q1) (hret : (f_min q1 q2) = q2) :
    MetFree l (⟨"java/lang/Math", "min", "(JJ)J"⟩ : MethodName) (head1 (Jvm.Cond.code (⟨"java/lang/Math", "min", "(JJ)J"⟩ : MethodName) jdk_29_method_70_code 4 (some .long) :: ws) ({ frames := 0, cells := 0, slots := 0, locals := 0 } : Room)) (fun a U => a = #[(.long q1), (.long q2)] ∧ Z.Warmed39 U.vm ∧ U.heap = h0) (fun _ _ _ _ _ => True) (fun _ U o U' => ∃ v L, o = .returned v ∧ Q_min Z q1 q2 h0 n0 v U'.heap L ∧ FrameEnd U o U' L ({ frames := 0, cells := 0, slots := 0, locals := 0 } : Room).cells ({ frames := 0, cells := 0, slots := 0, locals := 0 } : Room).slots) := by
  refine MetFree.of_bodySF (Jvm.Free.JP.mathPlain rfl (by decide +kernel)) hisR ?_
  intro p e s m args below meth c s₁ Bd hml0 hP hK
  obtain ⟨rfl, hZ, hh⟩ := hP
  have hx := Bd.exec
  have hby := Bd.bytes
  have hml : c.maxLocals = 4 := hml0
  have hown : s.vm.findClass "java/lang/Math" = some m.cls := findClass_of_methodNamed Bd.named
  have hnm := (name_of_methodNamed Bd.named Bd.method).1
  have X0 : Stand p l e ({ frames := 0, cells := 0, slots := 0, locals := 0 } : Room) s m #[(.long q1), (.long q2)] below meth c s₁ [] 0 0 := Stand.of_body Bd
  have e0 : s₁.heap = h0 := by rw [← hh, Bd.state]; rfl
  have N0 := Fr.nil n0
  have pre0 : ∀ t, Steps p.tables e below (s₁.setTop (mkF m 0 #[.val (.long q1), .second, .val (.long q2), .second] [])) t → Steps p.tables e below (s₁.setTop (entryFrame m #[(.long q1), (.long q2)] 4)) t := fun t k => castTop (ef_1_JJ m q1 q2) k
  obtain ⟨fs, hr, hrun, hended, hW, hsame⟩ := X0.leave (v := some (.long q2)) (fun h => by rw [Bd.returns] at h; cases h) Bd.notSynchronized
  refine ⟨_, _, pre0 _ ?_, hrun, hended, _, _, rfl, ?_, ⟨_, rfl⟩, hW, hsame.mono (by decide) (by decide)⟩
  · show Steps p.tables e below (s₁.setTop (mkF m 0 #[.val (.long q1), .second, .val (.long q2), .second] [])) _
    refine XS.lloadN X0.here hx rfl (hb hby d1_0) rfl ?_
    show Steps p.tables e below (s₁.setTop (mkF m 1 #[.val (.long q1), .second, .val (.long q2), .second] [(.long q1)])) _
    refine XS.lloadN X0.here hx rfl (hb hby d1_1) rfl ?_
    show Steps p.tables e below (s₁.setTop (mkF m 2 #[.val (.long q1), .second, .val (.long q2), .second] [(.long q2), (.long q1)])) _
    refine XS.lcmp X0.here hx rfl (hb hby d1_2) rfl ?_
    show Steps p.tables e below (s₁.setTop (mkF m 3 #[.val (.long q1), .second, .val (.long q2), .second] [(.int (lcmpW q1 q2))])) _
    refine XS.ifYes X0.here hx rfl (pc0 := 3) (pc' := 10) rfl (hb hby d1_3) rfl ((if0 _ _).trans (tlt ((lw_gt _ _).mpr (hc0 : q2 < q1))).2.2.1) (by decide) (by decide) ?_
    show Steps p.tables e below (s₁.setTop (mkF m 10 #[.val (.long q1), .second, .val (.long q2), .second] [])) _
    refine XS.lloadN X0.here hx rfl (hb hby d1_10) rfl ?_
    show Steps p.tables e below (s₁.setTop (mkF m 11 #[.val (.long q1), .second, .val (.long q2), .second] [(.long q2)])) _
    exact retOut X0 hx (t := .long) (i := .lreturn) Bd.returns rfl (Or.inr (Or.inl ⟨rfl, rfl, _, rfl⟩)) (hb hby d1_11) hr
  · show Q_min Z q1 q2 h0 n0 _ s₁.heap _
    rw [e0]
    exact ⟨by rw [hret], N0, rfl⟩
set_option maxRecDepth 65536 in
set_option maxHeartbeats 40000000 in
theorem rm_min_f (l : Launch) (Z : State) (a0 : Array Value) (hw : ∀ d ∈ tables_1, d.before a0 Z = true) (ws : List Jvm.Cond) (q1 : Int64) (q2 : Int64) (h0 : Heap) (n0 : Nat) (Z0 : n0 ≤ h0.size) (hc0 : ¬ (q2 < q1)) (hret : (f_min q1 q2) = q1) :
    MetFree l (⟨"java/lang/Math", "min", "(JJ)J"⟩ : MethodName) (head1 (Jvm.Cond.code (⟨"java/lang/Math", "min", "(JJ)J"⟩ : MethodName) jdk_29_method_70_code 4 (some .long) :: ws) ({ frames := 0, cells := 0, slots := 0, locals := 0 } : Room)) (fun a U => a = #[(.long q1), (.long q2)] ∧ Z.Warmed39 U.vm ∧ U.heap = h0) (fun _ _ _ _ _ => True) (fun _ U o U' => ∃ v L, o = .returned v ∧ Q_min Z q1 q2 h0 n0 v U'.heap L ∧ FrameEnd U o U' L ({ frames := 0, cells := 0, slots := 0, locals := 0 } : Room).cells ({ frames := 0, cells := 0, slots := 0, locals := 0 } : Room).slots) := by
  refine MetFree.of_bodySF (Jvm.Free.JP.mathPlain rfl (by decide +kernel)) hisR ?_
  intro p e s m args below meth c s₁ Bd hml0 hP hK
  obtain ⟨rfl, hZ, hh⟩ := hP
  have hx := Bd.exec
  have hby := Bd.bytes
  have hml : c.maxLocals = 4 := hml0
  have hown : s.vm.findClass "java/lang/Math" = some m.cls := findClass_of_methodNamed Bd.named
  have hnm := (name_of_methodNamed Bd.named Bd.method).1
  have X0 : Stand p l e ({ frames := 0, cells := 0, slots := 0, locals := 0 } : Room) s m #[(.long q1), (.long q2)] below meth c s₁ [] 0 0 := Stand.of_body Bd
  have e0 : s₁.heap = h0 := by rw [← hh, Bd.state]; rfl
  have N0 := Fr.nil n0
  have pre0 : ∀ t, Steps p.tables e below (s₁.setTop (mkF m 0 #[.val (.long q1), .second, .val (.long q2), .second] [])) t → Steps p.tables e below (s₁.setTop (entryFrame m #[(.long q1), (.long q2)] 4)) t := fun t k => castTop (ef_1_JJ m q1 q2) k
  obtain ⟨fs, hr, hrun, hended, hW, hsame⟩ := X0.leave (v := some (.long q1)) (fun h => by rw [Bd.returns] at h; cases h) Bd.notSynchronized
  refine ⟨_, _, pre0 _ ?_, hrun, hended, _, _, rfl, ?_, ⟨_, rfl⟩, hW, hsame.mono (by decide) (by decide)⟩
  · show Steps p.tables e below (s₁.setTop (mkF m 0 #[.val (.long q1), .second, .val (.long q2), .second] [])) _
    refine XS.lloadN X0.here hx rfl (hb hby d1_0) rfl ?_
    show Steps p.tables e below (s₁.setTop (mkF m 1 #[.val (.long q1), .second, .val (.long q2), .second] [(.long q1)])) _
    refine XS.lloadN X0.here hx rfl (hb hby d1_1) rfl ?_
    show Steps p.tables e below (s₁.setTop (mkF m 2 #[.val (.long q1), .second, .val (.long q2), .second] [(.long q2), (.long q1)])) _
    refine XS.lcmp X0.here hx rfl (hb hby d1_2) rfl ?_
    show Steps p.tables e below (s₁.setTop (mkF m 3 #[.val (.long q1), .second, .val (.long q2), .second] [(.int (lcmpW q1 q2))])) _
    refine XS.ifNo X0.here hx rfl (hb hby d1_3) rfl ((if0 _ _).trans (flt (fun q => (hc0 : ¬ (q2 < q1)) ((lw_gt _ _).mp q))).2.2.1) ?_
    show Steps p.tables e below (s₁.setTop (mkF m 6 #[.val (.long q1), .second, .val (.long q2), .second] [])) _
    refine XS.lloadN X0.here hx rfl (hb hby d1_6) rfl ?_
    show Steps p.tables e below (s₁.setTop (mkF m 7 #[.val (.long q1), .second, .val (.long q2), .second] [(.long q1)])) _
    refine XS.goto X0.here hx rfl (pc0 := 7) (pc' := 11) rfl (hb hby d1_7) (by decide) (by decide) ?_
    show Steps p.tables e below (s₁.setTop (mkF m 11 #[.val (.long q1), .second, .val (.long q2), .second] [(.long q1)])) _
    exact retOut X0 hx (t := .long) (i := .lreturn) Bd.returns rfl (Or.inr (Or.inl ⟨rfl, rfl, _, rfl⟩)) (hb hby d1_11) hr
  · show Q_min Z q1 q2 h0 n0 _ s₁.heap _
    rw [e0]
    exact ⟨by rw [hret], N0, rfl⟩
set_option maxRecDepth 65536 in
set_option maxHeartbeats 40000000 in
theorem rm_min (l : Launch) (Z : State) (a0 : Array Value) (hw : ∀ d ∈ tables_1, d.before a0 Z = true) (ws : List Jvm.Cond) (q1 : Int64) (q2 : Int64) (h0 : Heap) (n0 : Nat) (Z0 : n0 ≤ h0.size) :
    MetFree l (⟨"java/lang/Math", "min", "(JJ)J"⟩ : MethodName) (head1 (Jvm.Cond.code (⟨"java/lang/Math", "min", "(JJ)J"⟩ : MethodName) jdk_29_method_70_code 4 (some .long) :: ws) ({ frames := 0, cells := 0, slots := 0, locals := 0 } : Room)) (fun a U => a = #[(.long q1), (.long q2)] ∧ Z.Warmed39 U.vm ∧ U.heap = h0) (fun _ _ _ _ _ => True) (fun _ U o U' => ∃ v L, o = .returned v ∧ Q_min Z q1 q2 h0 n0 v U'.heap L ∧ FrameEnd U o U' L ({ frames := 0, cells := 0, slots := 0, locals := 0 } : Room).cells ({ frames := 0, cells := 0, slots := 0, locals := 0 } : Room).slots) := by
  by_cases c0 : q2 < q1
  · skip
    exact rm_min_t l Z a0 hw ws q1 q2 h0 n0 Z0  c0 (by unfold f_min; rw [if_pos c0])
  · skip
    exact rm_min_f l Z a0 hw ws q1 q2 h0 n0 Z0  c0 (by unfold f_min; rw [if_neg c0])
theorem d5_0 : decode jdk_33_method_47_code 0 = .ok (.iload_n 0, 1) := by decide +kernel
theorem d5_1 : decode jdk_33_method_47_code 1 = .ok (.ifCond .gt 14, 3) := by decide +kernel
theorem d5_4 : decode jdk_33_method_47_code 4 = .ok (.iload_n 0, 1) := by decide +kernel
theorem d5_5 : decode jdk_33_method_47_code 5 = .ok (.ifCond .ne 8, 3) := by decide +kernel
theorem d5_8 : decode jdk_33_method_47_code 8 = .ok (.bipush 32, 2) := by decide +kernel
theorem d5_10 : decode jdk_33_method_47_code 10 = .ok (.goto 4, 3) := by decide +kernel
theorem d5_14 : decode jdk_33_method_47_code 14 = .ok (.ireturn, 1) := by decide +kernel
theorem d5_13 : decode jdk_33_method_47_code 13 = .ok (.iconst 0, 1) := by decide +kernel
theorem d5_15 : decode jdk_33_method_47_code 15 = .ok (.bipush 31, 2) := by decide +kernel
theorem d5_17 : decode jdk_33_method_47_code 17 = .ok (.istore_n 1, 1) := by decide +kernel
theorem d5_18 : decode jdk_33_method_47_code 18 = .ok (.iload_n 0, 1) := by decide +kernel
theorem d5_19 : decode jdk_33_method_47_code 19 = .ok (.ldc_w 264, 3) := by decide +kernel
theorem d5_22 : decode jdk_33_method_47_code 22 = .ok (.if_icmp .lt 11, 3) := by decide +kernel
theorem d5_33 : decode jdk_33_method_47_code 33 = .ok (.iload_n 0, 1) := by decide +kernel
theorem d5_34 : decode jdk_33_method_47_code 34 = .ok (.sipush 256, 3) := by decide +kernel
theorem d5_37 : decode jdk_33_method_47_code 37 = .ok (.if_icmp .lt 11, 3) := by decide +kernel
theorem d5_48 : decode jdk_33_method_47_code 48 = .ok (.iload_n 0, 1) := by decide +kernel
theorem d5_49 : decode jdk_33_method_47_code 49 = .ok (.bipush 16, 2) := by decide +kernel
theorem d5_51 : decode jdk_33_method_47_code 51 = .ok (.if_icmp .lt 10, 3) := by decide +kernel
theorem d5_61 : decode jdk_33_method_47_code 61 = .ok (.iload_n 0, 1) := by decide +kernel
theorem d5_62 : decode jdk_33_method_47_code 62 = .ok (.iconst 4, 1) := by decide +kernel
theorem d5_63 : decode jdk_33_method_47_code 63 = .ok (.if_icmp .lt 10, 3) := by decide +kernel
theorem d5_73 : decode jdk_33_method_47_code 73 = .ok (.iload_n 1, 1) := by decide +kernel
theorem d5_74 : decode jdk_33_method_47_code 74 = .ok (.iload_n 0, 1) := by decide +kernel
theorem d5_75 : decode jdk_33_method_47_code 75 = .ok (.iconst 1, 1) := by decide +kernel
theorem d5_76 : decode jdk_33_method_47_code 76 = .ok (.iushr, 1) := by decide +kernel
theorem d5_77 : decode jdk_33_method_47_code 77 = .ok (.isub, 1) := by decide +kernel
theorem d5_78 : decode jdk_33_method_47_code 78 = .ok (.ireturn, 1) := by decide +kernel
theorem d5_66 : decode jdk_33_method_47_code 66 = .ok (.iinc 1 (-2), 3) := by decide +kernel
theorem d5_69 : decode jdk_33_method_47_code 69 = .ok (.iload_n 0, 1) := by decide +kernel
theorem d5_70 : decode jdk_33_method_47_code 70 = .ok (.iconst 2, 1) := by decide +kernel
theorem d5_71 : decode jdk_33_method_47_code 71 = .ok (.iushr, 1) := by decide +kernel
theorem d5_72 : decode jdk_33_method_47_code 72 = .ok (.istore_n 0, 1) := by decide +kernel
theorem d5_54 : decode jdk_33_method_47_code 54 = .ok (.iinc 1 (-4), 3) := by decide +kernel
theorem d5_57 : decode jdk_33_method_47_code 57 = .ok (.iload_n 0, 1) := by decide +kernel
theorem d5_58 : decode jdk_33_method_47_code 58 = .ok (.iconst 4, 1) := by decide +kernel
theorem d5_59 : decode jdk_33_method_47_code 59 = .ok (.iushr, 1) := by decide +kernel
theorem d5_60 : decode jdk_33_method_47_code 60 = .ok (.istore_n 0, 1) := by decide +kernel
theorem d5_40 : decode jdk_33_method_47_code 40 = .ok (.iinc 1 (-8), 3) := by decide +kernel
theorem d5_43 : decode jdk_33_method_47_code 43 = .ok (.iload_n 0, 1) := by decide +kernel
theorem d5_44 : decode jdk_33_method_47_code 44 = .ok (.bipush 8, 2) := by decide +kernel
theorem d5_46 : decode jdk_33_method_47_code 46 = .ok (.iushr, 1) := by decide +kernel
theorem d5_47 : decode jdk_33_method_47_code 47 = .ok (.istore_n 0, 1) := by decide +kernel
theorem d5_25 : decode jdk_33_method_47_code 25 = .ok (.iinc 1 (-16), 3) := by decide +kernel
theorem d5_28 : decode jdk_33_method_47_code 28 = .ok (.iload_n 0, 1) := by decide +kernel
theorem d5_29 : decode jdk_33_method_47_code 29 = .ok (.bipush 16, 2) := by decide +kernel
theorem d5_31 : decode jdk_33_method_47_code 31 = .ok (.iushr, 1) := by decide +kernel
theorem d5_32 : decode jdk_33_method_47_code 32 = .ok (.istore_n 0, 1) := by decide +kernel
theorem pn_java_lang_Integer : plainName "java/lang/Integer" = true := by first | (simp [plainName, overriddenIn]; done) | decide +kernel
theorem ef_5_I (m : MethodId) (x0 : Int32) : entryFrame m #[(.int x0)] 2 = mkF m 0 #[.val (.int x0), .unset] [] := by first | (simp [entryFrame, mkF, argsToLocals, Value.category]; done) | rfl
def f_inlz (p1 : Int32) : Int32 := (if (0 : Int32) < p1 then (if p1 < (65536 : Int32) then (if p1 < (256 : Int32) then (if p1 < (16 : Int32) then (if p1 < (4 : Int32) then ((31 : Int32) - ((p1.toUInt32 >>> ((1 : Int32) &&& 31).toUInt32).toInt32)) else ((29 : Int32) - ((((p1.toUInt32 >>> ((2 : Int32) &&& 31).toUInt32).toInt32).toUInt32 >>> ((1 : Int32) &&& 31).toUInt32).toInt32))) else (if ((p1.toUInt32 >>> ((4 : Int32) &&& 31).toUInt32).toInt32) < (4 : Int32) then ((27 : Int32) - ((((p1.toUInt32 >>> ((4 : Int32) &&& 31).toUInt32).toInt32).toUInt32 >>> ((1 : Int32) &&& 31).toUInt32).toInt32)) else ((25 : Int32) - ((((((p1.toUInt32 >>> ((4 : Int32) &&& 31).toUInt32).toInt32).toUInt32 >>> ((2 : Int32) &&& 31).toUInt32).toInt32).toUInt32 >>> ((1 : Int32) &&& 31).toUInt32).toInt32)))) else (if ((p1.toUInt32 >>> ((8 : Int32) &&& 31).toUInt32).toInt32) < (16 : Int32) then (if ((p1.toUInt32 >>> ((8 : Int32) &&& 31).toUInt32).toInt32) < (4 : Int32) then ((23 : Int32) - ((((p1.toUInt32 >>> ((8 : Int32) &&& 31).toUInt32).toInt32).toUInt32 >>> ((1 : Int32) &&& 31).toUInt32).toInt32)) else ((21 : Int32) - ((((((p1.toUInt32 >>> ((8 : Int32) &&& 31).toUInt32).toInt32).toUInt32 >>> ((2 : Int32) &&& 31).toUInt32).toInt32).toUInt32 >>> ((1 : Int32) &&& 31).toUInt32).toInt32))) else (if ((((p1.toUInt32 >>> ((8 : Int32) &&& 31).toUInt32).toInt32).toUInt32 >>> ((4 : Int32) &&& 31).toUInt32).toInt32) < (4 : Int32) then ((19 : Int32) - ((((((p1.toUInt32 >>> ((8 : Int32) &&& 31).toUInt32).toInt32).toUInt32 >>> ((4 : Int32) &&& 31).toUInt32).toInt32).toUInt32 >>> ((1 : Int32) &&& 31).toUInt32).toInt32)) else ((17 : Int32) - ((((((((p1.toUInt32 >>> ((8 : Int32) &&& 31).toUInt32).toInt32).toUInt32 >>> ((4 : Int32) &&& 31).toUInt32).toInt32).toUInt32 >>> ((2 : Int32) &&& 31).toUInt32).toInt32).toUInt32 >>> ((1 : Int32) &&& 31).toUInt32).toInt32))))) else (if ((p1.toUInt32 >>> ((16 : Int32) &&& 31).toUInt32).toInt32) < (256 : Int32) then (if ((p1.toUInt32 >>> ((16 : Int32) &&& 31).toUInt32).toInt32) < (16 : Int32) then (if ((p1.toUInt32 >>> ((16 : Int32) &&& 31).toUInt32).toInt32) < (4 : Int32) then ((15 : Int32) - ((((p1.toUInt32 >>> ((16 : Int32) &&& 31).toUInt32).toInt32).toUInt32 >>> ((1 : Int32) &&& 31).toUInt32).toInt32)) else ((13 : Int32) - ((((((p1.toUInt32 >>> ((16 : Int32) &&& 31).toUInt32).toInt32).toUInt32 >>> ((2 : Int32) &&& 31).toUInt32).toInt32).toUInt32 >>> ((1 : Int32) &&& 31).toUInt32).toInt32))) else (if ((((p1.toUInt32 >>> ((16 : Int32) &&& 31).toUInt32).toInt32).toUInt32 >>> ((4 : Int32) &&& 31).toUInt32).toInt32) < (4 : Int32) then ((11 : Int32) - ((((((p1.toUInt32 >>> ((16 : Int32) &&& 31).toUInt32).toInt32).toUInt32 >>> ((4 : Int32) &&& 31).toUInt32).toInt32).toUInt32 >>> ((1 : Int32) &&& 31).toUInt32).toInt32)) else ((9 : Int32) - ((((((((p1.toUInt32 >>> ((16 : Int32) &&& 31).toUInt32).toInt32).toUInt32 >>> ((4 : Int32) &&& 31).toUInt32).toInt32).toUInt32 >>> ((2 : Int32) &&& 31).toUInt32).toInt32).toUInt32 >>> ((1 : Int32) &&& 31).toUInt32).toInt32)))) else (if ((((p1.toUInt32 >>> ((16 : Int32) &&& 31).toUInt32).toInt32).toUInt32 >>> ((8 : Int32) &&& 31).toUInt32).toInt32) < (16 : Int32) then (if ((((p1.toUInt32 >>> ((16 : Int32) &&& 31).toUInt32).toInt32).toUInt32 >>> ((8 : Int32) &&& 31).toUInt32).toInt32) < (4 : Int32) then ((7 : Int32) - ((((((p1.toUInt32 >>> ((16 : Int32) &&& 31).toUInt32).toInt32).toUInt32 >>> ((8 : Int32) &&& 31).toUInt32).toInt32).toUInt32 >>> ((1 : Int32) &&& 31).toUInt32).toInt32)) else ((5 : Int32) - ((((((((p1.toUInt32 >>> ((16 : Int32) &&& 31).toUInt32).toInt32).toUInt32 >>> ((8 : Int32) &&& 31).toUInt32).toInt32).toUInt32 >>> ((2 : Int32) &&& 31).toUInt32).toInt32).toUInt32 >>> ((1 : Int32) &&& 31).toUInt32).toInt32))) else (if ((((((p1.toUInt32 >>> ((16 : Int32) &&& 31).toUInt32).toInt32).toUInt32 >>> ((8 : Int32) &&& 31).toUInt32).toInt32).toUInt32 >>> ((4 : Int32) &&& 31).toUInt32).toInt32) < (4 : Int32) then ((3 : Int32) - ((((((((p1.toUInt32 >>> ((16 : Int32) &&& 31).toUInt32).toInt32).toUInt32 >>> ((8 : Int32) &&& 31).toUInt32).toInt32).toUInt32 >>> ((4 : Int32) &&& 31).toUInt32).toInt32).toUInt32 >>> ((1 : Int32) &&& 31).toUInt32).toInt32)) else ((1 : Int32) - ((((((((((p1.toUInt32 >>> ((16 : Int32) &&& 31).toUInt32).toInt32).toUInt32 >>> ((8 : Int32) &&& 31).toUInt32).toInt32).toUInt32 >>> ((4 : Int32) &&& 31).toUInt32).toInt32).toUInt32 >>> ((2 : Int32) &&& 31).toUInt32).toInt32).toUInt32 >>> ((1 : Int32) &&& 31).toUInt32).toInt32)))))) else (if p1 = (0 : Int32) then (32 : Int32) else (0 : Int32)))
def Q_inlz (Z : State) (p1 : Int32) (h0 : Heap) (n0 : Nat) (v : Option Value) (h : Heap) (L : List Loc) : Prop := v = some (.int (f_inlz p1)) ∧ Fr n0 L ∧ h = h0
set_option maxRecDepth 65536 in
set_option maxHeartbeats 40000000 in
theorem rm_inlz_ff (l : Launch) (Z : State) (a0 : Array Value) (hw : ∀ d ∈ tables_1, d.before a0 Z = true) (ws : List Jvm.Cond) (p1 : Int32) (h0 : Heap) (n0 : Nat) (Z0 : n0 ≤ h0.size) (hc0 : ¬ ((0 : Int32) < p1)) (hc1 : p1 = (0 : Int32)) (hret : (f_inlz p1) = (32 : Int32)) :
    MetFree l (⟨"java/lang/Integer", "numberOfLeadingZeros", "(I)I"⟩ : MethodName) (head1 (Jvm.Cond.code (⟨"java/lang/Integer", "numberOfLeadingZeros", "(I)I"⟩ : MethodName) jdk_33_method_47_code 2 (some .int) :: ws) ({ frames := 0, cells := 0, slots := 0, locals := 0 } : Room)) (fun a U => a = #[(.int p1)] ∧ Z.Warmed39 U.vm ∧ U.heap = h0) (fun _ _ _ _ _ => True) (fun _ U o U' => ∃ v L, o = .returned v ∧ Q_inlz Z p1 h0 n0 v U'.heap L ∧ FrameEnd U o U' L ({ frames := 0, cells := 0, slots := 0, locals := 0 } : Room).cells ({ frames := 0, cells := 0, slots := 0, locals := 0 } : Room).slots) := by
  refine MetFree.of_bodySF (plainFor_of_name pn_java_lang_Integer) hisR ?_
  intro p e s m args below meth c s₁ Bd hml0 hP hK
  obtain ⟨rfl, hZ, hh⟩ := hP
  have hx := Bd.exec
  have hby := Bd.bytes
  have hml : c.maxLocals = 2 := hml0
  have hown : s.vm.findClass "java/lang/Integer" = some m.cls := findClass_of_methodNamed Bd.named
  have hnm := (name_of_methodNamed Bd.named Bd.method).1
  have X0 : Stand p l e ({ frames := 0, cells := 0, slots := 0, locals := 0 } : Room) s m #[(.int p1)] below meth c s₁ [] 0 0 := Stand.of_body Bd
  have e0 : s₁.heap = h0 := by rw [← hh, Bd.state]; rfl
  have N0 := Fr.nil n0
  have pre0 : ∀ t, Steps p.tables e below (s₁.setTop (mkF m 0 #[.val (.int p1), .unset] [])) t → Steps p.tables e below (s₁.setTop (entryFrame m #[(.int p1)] 2)) t := fun t k => castTop (ef_5_I m p1) k
  obtain ⟨fs, hr, hrun, hended, hW, hsame⟩ := X0.leave (v := some (.int (32 : Int32))) (fun h => by rw [Bd.returns] at h; cases h) Bd.notSynchronized
  refine ⟨_, _, pre0 _ ?_, hrun, hended, _, _, rfl, ?_, ⟨_, rfl⟩, hW, hsame.mono (by decide) (by decide)⟩
  · show Steps p.tables e below (s₁.setTop (mkF m 0 #[.val (.int p1), .unset] [])) _
    refine XS.iloadN X0.here hx rfl (hb hby d5_0) rfl ?_
    show Steps p.tables e below (s₁.setTop (mkF m 1 #[.val (.int p1), .unset] [(.int p1)])) _
    refine XS.ifNo X0.here hx rfl (hb hby d5_1) rfl ((if0 _ _).trans (flt hc0).2.2.1) ?_
    show Steps p.tables e below (s₁.setTop (mkF m 4 #[.val (.int p1), .unset] [])) _
    refine XS.iloadN X0.here hx rfl (hb hby d5_4) rfl ?_
    show Steps p.tables e below (s₁.setTop (mkF m 5 #[.val (.int p1), .unset] [(.int p1)])) _
    refine XS.ifNo X0.here hx rfl (hb hby d5_5) rfl ((if0 _ _).trans (teq hc1).2) ?_
    show Steps p.tables e below (s₁.setTop (mkF m 8 #[.val (.int p1), .unset] [])) _
    refine XS.bipush X0.here hx rfl (hb hby d5_8) ?_
    show Steps p.tables e below (s₁.setTop (mkF m 10 #[.val (.int p1), .unset] [(.int (32 : Int32))])) _
    refine XS.goto X0.here hx rfl (pc0 := 10) (pc' := 14) rfl (hb hby d5_10) (by decide) (by decide) ?_
    show Steps p.tables e below (s₁.setTop (mkF m 14 #[.val (.int p1), .unset] [(.int (32 : Int32))])) _
    exact retI X0 hx Bd.returns (hb hby d5_14) hr
  · show Q_inlz Z p1 h0 n0 _ s₁.heap _
    rw [e0]
    exact ⟨by rw [hret], N0, rfl⟩
set_option maxRecDepth 65536 in
set_option maxHeartbeats 40000000 in
theorem rm_inlz_ft (l : Launch) (Z : State) (a0 : Array Value) (hw : ∀ d ∈ tables_1, d.before a0 Z = true) (ws : List Jvm.Cond) (p1 : Int32) (h0 : Heap) (n0 : Nat) (Z0 : n0 ≤ h0.size) (hc0 : ¬ ((0 : Int32) < p1)) (hc1 : ¬ (p1 = (0 : Int32))) (hret : (f_inlz p1) = (0 : Int32)) :
    MetFree l (⟨"java/lang/Integer", "numberOfLeadingZeros", "(I)I"⟩ : MethodName) (head1 (Jvm.Cond.code (⟨"java/lang/Integer", "numberOfLeadingZeros", "(I)I"⟩ : MethodName) jdk_33_method_47_code 2 (some .int) :: ws) ({ frames := 0, cells := 0, slots := 0, locals := 0 } : Room)) (fun a U => a = #[(.int p1)] ∧ Z.Warmed39 U.vm ∧ U.heap = h0) (fun _ _ _ _ _ => True) (fun _ U o U' => ∃ v L, o = .returned v ∧ Q_inlz Z p1 h0 n0 v U'.heap L ∧ FrameEnd U o U' L ({ frames := 0, cells := 0, slots := 0, locals := 0 } : Room).cells ({ frames := 0, cells := 0, slots := 0, locals := 0 } : Room).slots) := by
  refine MetFree.of_bodySF (plainFor_of_name pn_java_lang_Integer) hisR ?_
  intro p e s m args below meth c s₁ Bd hml0 hP hK
  obtain ⟨rfl, hZ, hh⟩ := hP
  have hx := Bd.exec
  have hby := Bd.bytes
  have hml : c.maxLocals = 2 := hml0
  have hown : s.vm.findClass "java/lang/Integer" = some m.cls := findClass_of_methodNamed Bd.named
  have hnm := (name_of_methodNamed Bd.named Bd.method).1
  have X0 : Stand p l e ({ frames := 0, cells := 0, slots := 0, locals := 0 } : Room) s m #[(.int p1)] below meth c s₁ [] 0 0 := Stand.of_body Bd
  have e0 : s₁.heap = h0 := by rw [← hh, Bd.state]; rfl
  have N0 := Fr.nil n0
  have pre0 : ∀ t, Steps p.tables e below (s₁.setTop (mkF m 0 #[.val (.int p1), .unset] [])) t → Steps p.tables e below (s₁.setTop (entryFrame m #[(.int p1)] 2)) t := fun t k => castTop (ef_5_I m p1) k
  obtain ⟨fs, hr, hrun, hended, hW, hsame⟩ := X0.leave (v := some (.int (0 : Int32))) (fun h => by rw [Bd.returns] at h; cases h) Bd.notSynchronized
  refine ⟨_, _, pre0 _ ?_, hrun, hended, _, _, rfl, ?_, ⟨_, rfl⟩, hW, hsame.mono (by decide) (by decide)⟩
  · show Steps p.tables e below (s₁.setTop (mkF m 0 #[.val (.int p1), .unset] [])) _
    refine XS.iloadN X0.here hx rfl (hb hby d5_0) rfl ?_
    show Steps p.tables e below (s₁.setTop (mkF m 1 #[.val (.int p1), .unset] [(.int p1)])) _
    refine XS.ifNo X0.here hx rfl (hb hby d5_1) rfl ((if0 _ _).trans (flt hc0).2.2.1) ?_
    show Steps p.tables e below (s₁.setTop (mkF m 4 #[.val (.int p1), .unset] [])) _
    refine XS.iloadN X0.here hx rfl (hb hby d5_4) rfl ?_
    show Steps p.tables e below (s₁.setTop (mkF m 5 #[.val (.int p1), .unset] [(.int p1)])) _
    refine XS.ifYes X0.here hx rfl (pc0 := 5) (pc' := 13) rfl (hb hby d5_5) rfl ((if0 _ _).trans (feq hc1).2) (by decide) (by decide) ?_
    show Steps p.tables e below (s₁.setTop (mkF m 13 #[.val (.int p1), .unset] [])) _
    refine XS.iconst X0.here hx rfl (hb hby d5_13) ?_
    show Steps p.tables e below (s₁.setTop (mkF m 14 #[.val (.int p1), .unset] [(.int (0 : Int32))])) _
    exact retI X0 hx Bd.returns (hb hby d5_14) hr
  · show Q_inlz Z p1 h0 n0 _ s₁.heap _
    rw [e0]
    exact ⟨by rw [hret], N0, rfl⟩
set_option maxRecDepth 65536 in
set_option maxHeartbeats 40000000 in
theorem rm_inlz_ttttt (l : Launch) (Z : State) (a0 : Array Value) (hw : ∀ d ∈ tables_1, d.before a0 Z = true) (ws : List Jvm.Cond) (p1 : Int32) (h0 : Heap) (n0 : Nat) (Z0 : n0 ≤ h0.size) (hc0 : (0 : Int32) < p1) (hc1 : p1 < (65536 : Int32)) (hc2 : p1 < (256 : Int32)) (hc3 : p1 < (16 : Int32)) (hc4 : p1 < (4 : Int32)) (hret : (f_inlz p1) = ((31 : Int32) - ((p1.toUInt32 >>> ((1 : Int32) &&& 31).toUInt32).toInt32))) :
    MetFree l (⟨"java/lang/Integer", "numberOfLeadingZeros", "(I)I"⟩ : MethodName) (head1 (Jvm.Cond.code (⟨"java/lang/Integer", "numberOfLeadingZeros", "(I)I"⟩ : MethodName) jdk_33_method_47_code 2 (some .int) :: ws) ({ frames := 0, cells := 0, slots := 0, locals := 0 } : Room)) (fun a U => a = #[(.int p1)] ∧ Z.Warmed39 U.vm ∧ U.heap = h0) (fun _ _ _ _ _ => True) (fun _ U o U' => ∃ v L, o = .returned v ∧ Q_inlz Z p1 h0 n0 v U'.heap L ∧ FrameEnd U o U' L ({ frames := 0, cells := 0, slots := 0, locals := 0 } : Room).cells ({ frames := 0, cells := 0, slots := 0, locals := 0 } : Room).slots) := by
  refine MetFree.of_bodySF (plainFor_of_name pn_java_lang_Integer) hisR ?_
  intro p e s m args below meth c s₁ Bd hml0 hP hK
  obtain ⟨rfl, hZ, hh⟩ := hP
  have hx := Bd.exec
  have hby := Bd.bytes
  have hml : c.maxLocals = 2 := hml0
  have hown : s.vm.findClass "java/lang/Integer" = some m.cls := findClass_of_methodNamed Bd.named
  have hnm := (name_of_methodNamed Bd.named Bd.method).1
  have X0 : Stand p l e ({ frames := 0, cells := 0, slots := 0, locals := 0 } : Room) s m #[(.int p1)] below meth c s₁ [] 0 0 := Stand.of_body Bd
  have e0 : s₁.heap = h0 := by rw [← hh, Bd.state]; rfl
  have N0 := Fr.nil n0
  have pre0 : ∀ t, Steps p.tables e below (s₁.setTop (mkF m 0 #[.val (.int p1), .unset] [])) t → Steps p.tables e below (s₁.setTop (entryFrame m #[(.int p1)] 2)) t := fun t k => castTop (ef_5_I m p1) k
  obtain ⟨fs, hr, hrun, hended, hW, hsame⟩ := X0.leave (v := some (.int ((31 : Int32) - ((p1.toUInt32 >>> ((1 : Int32) &&& 31).toUInt32).toInt32)))) (fun h => by rw [Bd.returns] at h; cases h) Bd.notSynchronized
  refine ⟨_, _, pre0 _ ?_, hrun, hended, _, _, rfl, ?_, ⟨_, rfl⟩, hW, hsame.mono (by decide) (by decide)⟩
  · show Steps p.tables e below (s₁.setTop (mkF m 0 #[.val (.int p1), .unset] [])) _
    refine XS.iloadN X0.here hx rfl (hb hby d5_0) rfl ?_
    show Steps p.tables e below (s₁.setTop (mkF m 1 #[.val (.int p1), .unset] [(.int p1)])) _
    refine XS.ifYes X0.here hx rfl (pc0 := 1) (pc' := 15) rfl (hb hby d5_1) rfl ((if0 _ _).trans (tlt hc0).2.2.1) (by decide) (by decide) ?_
    show Steps p.tables e below (s₁.setTop (mkF m 15 #[.val (.int p1), .unset] [])) _
    refine XS.bipush X0.here hx rfl (hb hby d5_15) ?_
    show Steps p.tables e below (s₁.setTop (mkF m 17 #[.val (.int p1), .unset] [(.int (31 : Int32))])) _
    refine XS.istoreN X0.here hx rfl (hb hby d5_17) rfl (l' := #[.val (.int p1), .val (.int (31 : Int32))]) rfl ?_
    show Steps p.tables e below (s₁.setTop (mkF m 18 #[.val (.int p1), .val (.int (31 : Int32))] [])) _
    refine XS.iloadN X0.here hx rfl (hb hby d5_18) rfl ?_
    show Steps p.tables e below (s₁.setTop (mkF m 19 #[.val (.int p1), .val (.int (31 : Int32))] [(.int p1)])) _
    refine X0.ldcwInt hx hown (mvT hZ (hw _ (List.mem_of_getElem? (i := 26) rfl))) (g := (mkF m 19 #[.val (.int p1), .val (.int (31 : Int32))] [(.int p1)])) rfl (hb hby d5_19) _ ?_
    show Steps p.tables e below (s₁.setTop (mkF m 22 #[.val (.int p1), .val (.int (31 : Int32))] [(.int (65536 : Int32)), (.int p1)])) _
    refine XS.icmpYes X0.here hx rfl (pc0 := 22) (pc' := 33) rfl (hb hby d5_22) rfl (tlt hc1).1 (by decide) (by decide) ?_
    show Steps p.tables e below (s₁.setTop (mkF m 33 #[.val (.int p1), .val (.int (31 : Int32))] [])) _
    refine XS.iloadN X0.here hx rfl (hb hby d5_33) rfl ?_
    show Steps p.tables e below (s₁.setTop (mkF m 34 #[.val (.int p1), .val (.int (31 : Int32))] [(.int p1)])) _
    refine XS.sipush X0.here hx rfl (hb hby d5_34) ?_
    show Steps p.tables e below (s₁.setTop (mkF m 37 #[.val (.int p1), .val (.int (31 : Int32))] [(.int (256 : Int32)), (.int p1)])) _
    refine XS.icmpYes X0.here hx rfl (pc0 := 37) (pc' := 48) rfl (hb hby d5_37) rfl (tlt hc2).1 (by decide) (by decide) ?_
    show Steps p.tables e below (s₁.setTop (mkF m 48 #[.val (.int p1), .val (.int (31 : Int32))] [])) _
    refine XS.iloadN X0.here hx rfl (hb hby d5_48) rfl ?_
    show Steps p.tables e below (s₁.setTop (mkF m 49 #[.val (.int p1), .val (.int (31 : Int32))] [(.int p1)])) _
    refine XS.bipush X0.here hx rfl (hb hby d5_49) ?_
    show Steps p.tables e below (s₁.setTop (mkF m 51 #[.val (.int p1), .val (.int (31 : Int32))] [(.int (16 : Int32)), (.int p1)])) _
    refine XS.icmpYes X0.here hx rfl (pc0 := 51) (pc' := 61) rfl (hb hby d5_51) rfl (tlt hc3).1 (by decide) (by decide) ?_
    show Steps p.tables e below (s₁.setTop (mkF m 61 #[.val (.int p1), .val (.int (31 : Int32))] [])) _
    refine XS.iloadN X0.here hx rfl (hb hby d5_61) rfl ?_
    show Steps p.tables e below (s₁.setTop (mkF m 62 #[.val (.int p1), .val (.int (31 : Int32))] [(.int p1)])) _
    refine XS.iconst X0.here hx rfl (hb hby d5_62) ?_
    show Steps p.tables e below (s₁.setTop (mkF m 63 #[.val (.int p1), .val (.int (31 : Int32))] [(.int (4 : Int32)), (.int p1)])) _
    refine XS.icmpYes X0.here hx rfl (pc0 := 63) (pc' := 73) rfl (hb hby d5_63) rfl (tlt hc4).1 (by decide) (by decide) ?_
    show Steps p.tables e below (s₁.setTop (mkF m 73 #[.val (.int p1), .val (.int (31 : Int32))] [])) _
    refine XS.iloadN X0.here hx rfl (hb hby d5_73) rfl ?_
    show Steps p.tables e below (s₁.setTop (mkF m 74 #[.val (.int p1), .val (.int (31 : Int32))] [(.int (31 : Int32))])) _
    refine XS.iloadN X0.here hx rfl (hb hby d5_74) rfl ?_
    show Steps p.tables e below (s₁.setTop (mkF m 75 #[.val (.int p1), .val (.int (31 : Int32))] [(.int p1), (.int (31 : Int32))])) _
    refine XS.iconst X0.here hx rfl (hb hby d5_75) ?_
    show Steps p.tables e below (s₁.setTop (mkF m 76 #[.val (.int p1), .val (.int (31 : Int32))] [(.int (1 : Int32)), (.int p1), (.int (31 : Int32))])) _
    refine XS.iushr X0.here hx rfl (hb hby d5_76) rfl ?_
    show Steps p.tables e below (s₁.setTop (mkF m 77 #[.val (.int p1), .val (.int (31 : Int32))] [(.int ((p1.toUInt32 >>> ((1 : Int32) &&& 31).toUInt32).toInt32)), (.int (31 : Int32))])) _
    refine XS.isub X0.here hx rfl (hb hby d5_77) rfl ?_
    show Steps p.tables e below (s₁.setTop (mkF m 78 #[.val (.int p1), .val (.int (31 : Int32))] [(.int ((31 : Int32) - ((p1.toUInt32 >>> ((1 : Int32) &&& 31).toUInt32).toInt32)))])) _
    exact retI X0 hx Bd.returns (hb hby d5_78) hr
  · show Q_inlz Z p1 h0 n0 _ s₁.heap _
    rw [e0]
    exact ⟨by rw [hret], N0, rfl⟩
set_option maxRecDepth 65536 in
set_option maxHeartbeats 40000000 in
theorem rm_inlz_ttttf (l : Launch) (Z : State) (a0 : Array Value) (hw : ∀ d ∈ tables_1, d.before a0 Z = true) (ws : List Jvm.Cond) (p1 : Int32) (h0 : Heap) (n0 : Nat) (Z0 : n0 ≤ h0.size) (hc0 : (0 : Int32) < p1) (hc1 : p1 < (65536 : Int32)) (hc2 : p1 < (256 : Int32)) (hc3 : p1 < (16 : Int32)) (hc4 : ¬ (p1 < (4 : Int32))) (hret : (f_inlz p1) = ((29 : Int32) - ((((p1.toUInt32 >>> ((2 : Int32) &&& 31).toUInt32).toInt32).toUInt32 >>> ((1 : Int32) &&& 31).toUInt32).toInt32))) :
    MetFree l (⟨"java/lang/Integer", "numberOfLeadingZeros", "(I)I"⟩ : MethodName) (head1 (Jvm.Cond.code (⟨"java/lang/Integer", "numberOfLeadingZeros", "(I)I"⟩ : MethodName) jdk_33_method_47_code 2 (some .int) :: ws) ({ frames := 0, cells := 0, slots := 0, locals := 0 } : Room)) (fun a U => a = #[(.int p1)] ∧ Z.Warmed39 U.vm ∧ U.heap = h0) (fun _ _ _ _ _ => True) (fun _ U o U' => ∃ v L, o = .returned v ∧ Q_inlz Z p1 h0 n0 v U'.heap L ∧ FrameEnd U o U' L ({ frames := 0, cells := 0, slots := 0, locals := 0 } : Room).cells ({ frames := 0, cells := 0, slots := 0, locals := 0 } : Room).slots) := by
  refine MetFree.of_bodySF (plainFor_of_name pn_java_lang_Integer) hisR ?_
  intro p e s m args below meth c s₁ Bd hml0 hP hK
  obtain ⟨rfl, hZ, hh⟩ := hP
  have hx := Bd.exec
  have hby := Bd.bytes
  have hml : c.maxLocals = 2 := hml0
  have hown : s.vm.findClass "java/lang/Integer" = some m.cls := findClass_of_methodNamed Bd.named
  have hnm := (name_of_methodNamed Bd.named Bd.method).1
  have X0 : Stand p l e ({ frames := 0, cells := 0, slots := 0, locals := 0 } : Room) s m #[(.int p1)] below meth c s₁ [] 0 0 := Stand.of_body Bd
  have e0 : s₁.heap = h0 := by rw [← hh, Bd.state]; rfl
  have N0 := Fr.nil n0
  have pre0 : ∀ t, Steps p.tables e below (s₁.setTop (mkF m 0 #[.val (.int p1), .unset] [])) t → Steps p.tables e below (s₁.setTop (entryFrame m #[(.int p1)] 2)) t := fun t k => castTop (ef_5_I m p1) k
  obtain ⟨fs, hr, hrun, hended, hW, hsame⟩ := X0.leave (v := some (.int ((29 : Int32) - ((((p1.toUInt32 >>> ((2 : Int32) &&& 31).toUInt32).toInt32).toUInt32 >>> ((1 : Int32) &&& 31).toUInt32).toInt32)))) (fun h => by rw [Bd.returns] at h; cases h) Bd.notSynchronized
  refine ⟨_, _, pre0 _ ?_, hrun, hended, _, _, rfl, ?_, ⟨_, rfl⟩, hW, hsame.mono (by decide) (by decide)⟩
  · show Steps p.tables e below (s₁.setTop (mkF m 0 #[.val (.int p1), .unset] [])) _
    refine XS.iloadN X0.here hx rfl (hb hby d5_0) rfl ?_
    show Steps p.tables e below (s₁.setTop (mkF m 1 #[.val (.int p1), .unset] [(.int p1)])) _
    refine XS.ifYes X0.here hx rfl (pc0 := 1) (pc' := 15) rfl (hb hby d5_1) rfl ((if0 _ _).trans (tlt hc0).2.2.1) (by decide) (by decide) ?_
    show Steps p.tables e below (s₁.setTop (mkF m 15 #[.val (.int p1), .unset] [])) _
    refine XS.bipush X0.here hx rfl (hb hby d5_15) ?_
    show Steps p.tables e below (s₁.setTop (mkF m 17 #[.val (.int p1), .unset] [(.int (31 : Int32))])) _
    refine XS.istoreN X0.here hx rfl (hb hby d5_17) rfl (l' := #[.val (.int p1), .val (.int (31 : Int32))]) rfl ?_
    show Steps p.tables e below (s₁.setTop (mkF m 18 #[.val (.int p1), .val (.int (31 : Int32))] [])) _
    refine XS.iloadN X0.here hx rfl (hb hby d5_18) rfl ?_
    show Steps p.tables e below (s₁.setTop (mkF m 19 #[.val (.int p1), .val (.int (31 : Int32))] [(.int p1)])) _
    refine X0.ldcwInt hx hown (mvT hZ (hw _ (List.mem_of_getElem? (i := 26) rfl))) (g := (mkF m 19 #[.val (.int p1), .val (.int (31 : Int32))] [(.int p1)])) rfl (hb hby d5_19) _ ?_
    show Steps p.tables e below (s₁.setTop (mkF m 22 #[.val (.int p1), .val (.int (31 : Int32))] [(.int (65536 : Int32)), (.int p1)])) _
    refine XS.icmpYes X0.here hx rfl (pc0 := 22) (pc' := 33) rfl (hb hby d5_22) rfl (tlt hc1).1 (by decide) (by decide) ?_
    show Steps p.tables e below (s₁.setTop (mkF m 33 #[.val (.int p1), .val (.int (31 : Int32))] [])) _
    refine XS.iloadN X0.here hx rfl (hb hby d5_33) rfl ?_
    show Steps p.tables e below (s₁.setTop (mkF m 34 #[.val (.int p1), .val (.int (31 : Int32))] [(.int p1)])) _
    refine XS.sipush X0.here hx rfl (hb hby d5_34) ?_
    show Steps p.tables e below (s₁.setTop (mkF m 37 #[.val (.int p1), .val (.int (31 : Int32))] [(.int (256 : Int32)), (.int p1)])) _
    refine XS.icmpYes X0.here hx rfl (pc0 := 37) (pc' := 48) rfl (hb hby d5_37) rfl (tlt hc2).1 (by decide) (by decide) ?_
    show Steps p.tables e below (s₁.setTop (mkF m 48 #[.val (.int p1), .val (.int (31 : Int32))] [])) _
    refine XS.iloadN X0.here hx rfl (hb hby d5_48) rfl ?_
    show Steps p.tables e below (s₁.setTop (mkF m 49 #[.val (.int p1), .val (.int (31 : Int32))] [(.int p1)])) _
    refine XS.bipush X0.here hx rfl (hb hby d5_49) ?_
    show Steps p.tables e below (s₁.setTop (mkF m 51 #[.val (.int p1), .val (.int (31 : Int32))] [(.int (16 : Int32)), (.int p1)])) _
    refine XS.icmpYes X0.here hx rfl (pc0 := 51) (pc' := 61) rfl (hb hby d5_51) rfl (tlt hc3).1 (by decide) (by decide) ?_
    show Steps p.tables e below (s₁.setTop (mkF m 61 #[.val (.int p1), .val (.int (31 : Int32))] [])) _
    refine XS.iloadN X0.here hx rfl (hb hby d5_61) rfl ?_
    show Steps p.tables e below (s₁.setTop (mkF m 62 #[.val (.int p1), .val (.int (31 : Int32))] [(.int p1)])) _
    refine XS.iconst X0.here hx rfl (hb hby d5_62) ?_
    show Steps p.tables e below (s₁.setTop (mkF m 63 #[.val (.int p1), .val (.int (31 : Int32))] [(.int (4 : Int32)), (.int p1)])) _
    refine XS.icmpNo X0.here hx rfl (hb hby d5_63) rfl (flt hc4).1 ?_
    show Steps p.tables e below (s₁.setTop (mkF m 66 #[.val (.int p1), .val (.int (31 : Int32))] [])) _
    refine XS.iinc X0.here hx rfl (hb hby d5_66) rfl (l' := #[.val (.int p1), .val (.int (29 : Int32))]) rfl ?_
    show Steps p.tables e below (s₁.setTop (mkF m 69 #[.val (.int p1), .val (.int (29 : Int32))] [])) _
    refine XS.iloadN X0.here hx rfl (hb hby d5_69) rfl ?_
    show Steps p.tables e below (s₁.setTop (mkF m 70 #[.val (.int p1), .val (.int (29 : Int32))] [(.int p1)])) _
    refine XS.iconst X0.here hx rfl (hb hby d5_70) ?_
    show Steps p.tables e below (s₁.setTop (mkF m 71 #[.val (.int p1), .val (.int (29 : Int32))] [(.int (2 : Int32)), (.int p1)])) _
    refine XS.iushr X0.here hx rfl (hb hby d5_71) rfl ?_
    show Steps p.tables e below (s₁.setTop (mkF m 72 #[.val (.int p1), .val (.int (29 : Int32))] [(.int ((p1.toUInt32 >>> ((2 : Int32) &&& 31).toUInt32).toInt32))])) _
    refine XS.istoreN X0.here hx rfl (hb hby d5_72) rfl (l' := #[.val (.int ((p1.toUInt32 >>> ((2 : Int32) &&& 31).toUInt32).toInt32)), .val (.int (29 : Int32))]) rfl ?_
    show Steps p.tables e below (s₁.setTop (mkF m 73 #[.val (.int ((p1.toUInt32 >>> ((2 : Int32) &&& 31).toUInt32).toInt32)), .val (.int (29 : Int32))] [])) _
    refine XS.iloadN X0.here hx rfl (hb hby d5_73) rfl ?_
    show Steps p.tables e below (s₁.setTop (mkF m 74 #[.val (.int ((p1.toUInt32 >>> ((2 : Int32) &&& 31).toUInt32).toInt32)), .val (.int (29 : Int32))] [(.int (29 : Int32))])) _
    refine XS.iloadN X0.here hx rfl (hb hby d5_74) rfl ?_
    show Steps p.tables e below (s₁.setTop (mkF m 75 #[.val (.int ((p1.toUInt32 >>> ((2 : Int32) &&& 31).toUInt32).toInt32)), .val (.int (29 : Int32))] [(.int ((p1.toUInt32 >>> ((2 : Int32) &&& 31).toUInt32).toInt32)), (.int (29 : Int32))])) _
    refine XS.iconst X0.here hx rfl (hb hby d5_75) ?_
    show Steps p.tables e below (s₁.setTop (mkF m 76 #[.val (.int ((p1.toUInt32 >>> ((2 : Int32) &&& 31).toUInt32).toInt32)), .val (.int (29 : Int32))] [(.int (1 : Int32)), (.int ((p1.toUInt32 >>> ((2 : Int32) &&& 31).toUInt32).toInt32)), (.int (29 : Int32))])) _
    refine XS.iushr X0.here hx rfl (hb hby d5_76) rfl ?_
    show Steps p.tables e below (s₁.setTop (mkF m 77 #[.val (.int ((p1.toUInt32 >>> ((2 : Int32) &&& 31).toUInt32).toInt32)), .val (.int (29 : Int32))] [(.int ((((p1.toUInt32 >>> ((2 : Int32) &&& 31).toUInt32).toInt32).toUInt32 >>> ((1 : Int32) &&& 31).toUInt32).toInt32)), (.int (29 : Int32))])) _
    refine XS.isub X0.here hx rfl (hb hby d5_77) rfl ?_
    show Steps p.tables e below (s₁.setTop (mkF m 78 #[.val (.int ((p1.toUInt32 >>> ((2 : Int32) &&& 31).toUInt32).toInt32)), .val (.int (29 : Int32))] [(.int ((29 : Int32) - ((((p1.toUInt32 >>> ((2 : Int32) &&& 31).toUInt32).toInt32).toUInt32 >>> ((1 : Int32) &&& 31).toUInt32).toInt32)))])) _
    exact retI X0 hx Bd.returns (hb hby d5_78) hr
  · show Q_inlz Z p1 h0 n0 _ s₁.heap _
    rw [e0]
    exact ⟨by rw [hret], N0, rfl⟩
set_option maxRecDepth 65536 in
set_option maxHeartbeats 40000000 in
theorem rm_inlz_tttft (l : Launch) (Z : State) (a0 : Array Value) (hw : ∀ d ∈ tables_1, d.before a0 Z = true) (ws : List Jvm.Cond) (p1 : Int32) (h0 : Heap) (n0 : Nat) (Z0 : n0 ≤ h0.size) (hc0 : (0 : Int32) < p1) (hc1 : p1 < (65536 : Int32)) (hc2 : p1 < (256 : Int32)) (hc3 : ¬ (p1 < (16 : Int32))) (hc4 : ((p1.toUInt32 >>> ((4 : Int32) &&& 31).toUInt32).toInt32) < (4 : Int32)) (hret : (f_inlz p1) = ((27 : Int32) - ((((p1.toUInt32 >>> ((4 : Int32) &&& 31).toUInt32).toInt32).toUInt32 >>> ((1 : Int32) &&& 31).toUInt32).toInt32))) :
    MetFree l (⟨"java/lang/Integer", "numberOfLeadingZeros", "(I)I"⟩ : MethodName) (head1 (Jvm.Cond.code (⟨"java/lang/Integer", "numberOfLeadingZeros", "(I)I"⟩ : MethodName) jdk_33_method_47_code 2 (some .int) :: ws) ({ frames := 0, cells := 0, slots := 0, locals := 0 } : Room)) (fun a U => a = #[(.int p1)] ∧ Z.Warmed39 U.vm ∧ U.heap = h0) (fun _ _ _ _ _ => True) (fun _ U o U' => ∃ v L, o = .returned v ∧ Q_inlz Z p1 h0 n0 v U'.heap L ∧ FrameEnd U o U' L ({ frames := 0, cells := 0, slots := 0, locals := 0 } : Room).cells ({ frames := 0, cells := 0, slots := 0, locals := 0 } : Room).slots) := by
  refine MetFree.of_bodySF (plainFor_of_name pn_java_lang_Integer) hisR ?_
  intro p e s m args below meth c s₁ Bd hml0 hP hK
  obtain ⟨rfl, hZ, hh⟩ := hP
  have hx := Bd.exec
  have hby := Bd.bytes
  have hml : c.maxLocals = 2 := hml0
  have hown : s.vm.findClass "java/lang/Integer" = some m.cls := findClass_of_methodNamed Bd.named
  have hnm := (name_of_methodNamed Bd.named Bd.method).1
  have X0 : Stand p l e ({ frames := 0, cells := 0, slots := 0, locals := 0 } : Room) s m #[(.int p1)] below meth c s₁ [] 0 0 := Stand.of_body Bd
  have e0 : s₁.heap = h0 := by rw [← hh, Bd.state]; rfl
  have N0 := Fr.nil n0
  have pre0 : ∀ t, Steps p.tables e below (s₁.setTop (mkF m 0 #[.val (.int p1), .unset] [])) t → Steps p.tables e below (s₁.setTop (entryFrame m #[(.int p1)] 2)) t := fun t k => castTop (ef_5_I m p1) k
  obtain ⟨fs, hr, hrun, hended, hW, hsame⟩ := X0.leave (v := some (.int ((27 : Int32) - ((((p1.toUInt32 >>> ((4 : Int32) &&& 31).toUInt32).toInt32).toUInt32 >>> ((1 : Int32) &&& 31).toUInt32).toInt32)))) (fun h => by rw [Bd.returns] at h; cases h) Bd.notSynchronized
  refine ⟨_, _, pre0 _ ?_, hrun, hended, _, _, rfl, ?_, ⟨_, rfl⟩, hW, hsame.mono (by decide) (by decide)⟩
  · show Steps p.tables e below (s₁.setTop (mkF m 0 #[.val (.int p1), .unset] [])) _
    refine XS.iloadN X0.here hx rfl (hb hby d5_0) rfl ?_
    show Steps p.tables e below (s₁.setTop (mkF m 1 #[.val (.int p1), .unset] [(.int p1)])) _
    refine XS.ifYes X0.here hx rfl (pc0 := 1) (pc' := 15) rfl (hb hby d5_1) rfl ((if0 _ _).trans (tlt hc0).2.2.1) (by decide) (by decide) ?_
    show Steps p.tables e below (s₁.setTop (mkF m 15 #[.val (.int p1), .unset] [])) _
    refine XS.bipush X0.here hx rfl (hb hby d5_15) ?_
    show Steps p.tables e below (s₁.setTop (mkF m 17 #[.val (.int p1), .unset] [(.int (31 : Int32))])) _
    refine XS.istoreN X0.here hx rfl (hb hby d5_17) rfl (l' := #[.val (.int p1), .val (.int (31 : Int32))]) rfl ?_
    show Steps p.tables e below (s₁.setTop (mkF m 18 #[.val (.int p1), .val (.int (31 : Int32))] [])) _
    refine XS.iloadN X0.here hx rfl (hb hby d5_18) rfl ?_
    show Steps p.tables e below (s₁.setTop (mkF m 19 #[.val (.int p1), .val (.int (31 : Int32))] [(.int p1)])) _
    refine X0.ldcwInt hx hown (mvT hZ (hw _ (List.mem_of_getElem? (i := 26) rfl))) (g := (mkF m 19 #[.val (.int p1), .val (.int (31 : Int32))] [(.int p1)])) rfl (hb hby d5_19) _ ?_
    show Steps p.tables e below (s₁.setTop (mkF m 22 #[.val (.int p1), .val (.int (31 : Int32))] [(.int (65536 : Int32)), (.int p1)])) _
    refine XS.icmpYes X0.here hx rfl (pc0 := 22) (pc' := 33) rfl (hb hby d5_22) rfl (tlt hc1).1 (by decide) (by decide) ?_
    show Steps p.tables e below (s₁.setTop (mkF m 33 #[.val (.int p1), .val (.int (31 : Int32))] [])) _
    refine XS.iloadN X0.here hx rfl (hb hby d5_33) rfl ?_
    show Steps p.tables e below (s₁.setTop (mkF m 34 #[.val (.int p1), .val (.int (31 : Int32))] [(.int p1)])) _
    refine XS.sipush X0.here hx rfl (hb hby d5_34) ?_
    show Steps p.tables e below (s₁.setTop (mkF m 37 #[.val (.int p1), .val (.int (31 : Int32))] [(.int (256 : Int32)), (.int p1)])) _
    refine XS.icmpYes X0.here hx rfl (pc0 := 37) (pc' := 48) rfl (hb hby d5_37) rfl (tlt hc2).1 (by decide) (by decide) ?_
    show Steps p.tables e below (s₁.setTop (mkF m 48 #[.val (.int p1), .val (.int (31 : Int32))] [])) _
    refine XS.iloadN X0.here hx rfl (hb hby d5_48) rfl ?_
    show Steps p.tables e below (s₁.setTop (mkF m 49 #[.val (.int p1), .val (.int (31 : Int32))] [(.int p1)])) _
    refine XS.bipush X0.here hx rfl (hb hby d5_49) ?_
    show Steps p.tables e below (s₁.setTop (mkF m 51 #[.val (.int p1), .val (.int (31 : Int32))] [(.int (16 : Int32)), (.int p1)])) _
    refine XS.icmpNo X0.here hx rfl (hb hby d5_51) rfl (flt hc3).1 ?_
    show Steps p.tables e below (s₁.setTop (mkF m 54 #[.val (.int p1), .val (.int (31 : Int32))] [])) _
    refine XS.iinc X0.here hx rfl (hb hby d5_54) rfl (l' := #[.val (.int p1), .val (.int (27 : Int32))]) rfl ?_
    show Steps p.tables e below (s₁.setTop (mkF m 57 #[.val (.int p1), .val (.int (27 : Int32))] [])) _
    refine XS.iloadN X0.here hx rfl (hb hby d5_57) rfl ?_
    show Steps p.tables e below (s₁.setTop (mkF m 58 #[.val (.int p1), .val (.int (27 : Int32))] [(.int p1)])) _
    refine XS.iconst X0.here hx rfl (hb hby d5_58) ?_
    show Steps p.tables e below (s₁.setTop (mkF m 59 #[.val (.int p1), .val (.int (27 : Int32))] [(.int (4 : Int32)), (.int p1)])) _
    refine XS.iushr X0.here hx rfl (hb hby d5_59) rfl ?_
    show Steps p.tables e below (s₁.setTop (mkF m 60 #[.val (.int p1), .val (.int (27 : Int32))] [(.int ((p1.toUInt32 >>> ((4 : Int32) &&& 31).toUInt32).toInt32))])) _
    refine XS.istoreN X0.here hx rfl (hb hby d5_60) rfl (l' := #[.val (.int ((p1.toUInt32 >>> ((4 : Int32) &&& 31).toUInt32).toInt32)), .val (.int (27 : Int32))]) rfl ?_
    show Steps p.tables e below (s₁.setTop (mkF m 61 #[.val (.int ((p1.toUInt32 >>> ((4 : Int32) &&& 31).toUInt32).toInt32)), .val (.int (27 : Int32))] [])) _
    refine XS.iloadN X0.here hx rfl (hb hby d5_61) rfl ?_
    show Steps p.tables e below (s₁.setTop (mkF m 62 #[.val (.int ((p1.toUInt32 >>> ((4 : Int32) &&& 31).toUInt32).toInt32)), .val (.int (27 : Int32))] [(.int ((p1.toUInt32 >>> ((4 : Int32) &&& 31).toUInt32).toInt32))])) _
    refine XS.iconst X0.here hx rfl (hb hby d5_62) ?_
    show Steps p.tables e below (s₁.setTop (mkF m 63 #[.val (.int ((p1.toUInt32 >>> ((4 : Int32) &&& 31).toUInt32).toInt32)), .val (.int (27 : Int32))] [(.int (4 : Int32)), (.int ((p1.toUInt32 >>> ((4 : Int32) &&& 31).toUInt32).toInt32))])) _
    refine XS.icmpYes X0.here hx rfl (pc0 := 63) (pc' := 73) rfl (hb hby d5_63) rfl (tlt hc4).1 (by decide) (by decide) ?_
    show Steps p.tables e below (s₁.setTop (mkF m 73 #[.val (.int ((p1.toUInt32 >>> ((4 : Int32) &&& 31).toUInt32).toInt32)), .val (.int (27 : Int32))] [])) _
    refine XS.iloadN X0.here hx rfl (hb hby d5_73) rfl ?_
    show Steps p.tables e below (s₁.setTop (mkF m 74 #[.val (.int ((p1.toUInt32 >>> ((4 : Int32) &&& 31).toUInt32).toInt32)), .val (.int (27 : Int32))] [(.int (27 : Int32))])) _
    refine XS.iloadN X0.here hx rfl (hb hby d5_74) rfl ?_
    show Steps p.tables e below (s₁.setTop (mkF m 75 #[.val (.int ((p1.toUInt32 >>> ((4 : Int32) &&& 31).toUInt32).toInt32)), .val (.int (27 : Int32))] [(.int ((p1.toUInt32 >>> ((4 : Int32) &&& 31).toUInt32).toInt32)), (.int (27 : Int32))])) _
    refine XS.iconst X0.here hx rfl (hb hby d5_75) ?_
    show Steps p.tables e below (s₁.setTop (mkF m 76 #[.val (.int ((p1.toUInt32 >>> ((4 : Int32) &&& 31).toUInt32).toInt32)), .val (.int (27 : Int32))] [(.int (1 : Int32)), (.int ((p1.toUInt32 >>> ((4 : Int32) &&& 31).toUInt32).toInt32)), (.int (27 : Int32))])) _
    refine XS.iushr X0.here hx rfl (hb hby d5_76) rfl ?_
    show Steps p.tables e below (s₁.setTop (mkF m 77 #[.val (.int ((p1.toUInt32 >>> ((4 : Int32) &&& 31).toUInt32).toInt32)), .val (.int (27 : Int32))] [(.int ((((p1.toUInt32 >>> ((4 : Int32) &&& 31).toUInt32).toInt32).toUInt32 >>> ((1 : Int32) &&& 31).toUInt32).toInt32)), (.int (27 : Int32))])) _
    refine XS.isub X0.here hx rfl (hb hby d5_77) rfl ?_
    show Steps p.tables e below (s₁.setTop (mkF m 78 #[.val (.int ((p1.toUInt32 >>> ((4 : Int32) &&& 31).toUInt32).toInt32)), .val (.int (27 : Int32))] [(.int ((27 : Int32) - ((((p1.toUInt32 >>> ((4 : Int32) &&& 31).toUInt32).toInt32).toUInt32 >>> ((1 : Int32) &&& 31).toUInt32).toInt32)))])) _
    exact retI X0 hx Bd.returns (hb hby d5_78) hr
  · show Q_inlz Z p1 h0 n0 _ s₁.heap _
    rw [e0]
    exact ⟨by rw [hret], N0, rfl⟩
set_option maxRecDepth 65536 in
set_option maxHeartbeats 40000000 in
theorem rm_inlz_tttff (l : Launch) (Z : State) (a0 : Array Value) (hw : ∀ d ∈ tables_1, d.before a0 Z = true) (ws : List Jvm.Cond) (p1 : Int32) (h0 : Heap) (n0 : Nat) (Z0 : n0 ≤ h0.size) (hc0 : (0 : Int32) < p1) (hc1 : p1 < (65536 : Int32)) (hc2 : p1 < (256 : Int32)) (hc3 : ¬ (p1 < (16 : Int32))) (hc4 : ¬ (((p1.toUInt32 >>> ((4 : Int32) &&& 31).toUInt32).toInt32) < (4 : Int32))) (hret : (f_inlz p1) = ((25 : Int32) - ((((((p1.toUInt32 >>> ((4 : Int32) &&& 31).toUInt32).toInt32).toUInt32 >>> ((2 : Int32) &&& 31).toUInt32).toInt32).toUInt32 >>> ((1 : Int32) &&& 31).toUInt32).toInt32))) :
    MetFree l (⟨"java/lang/Integer", "numberOfLeadingZeros", "(I)I"⟩ : MethodName) (head1 (Jvm.Cond.code (⟨"java/lang/Integer", "numberOfLeadingZeros", "(I)I"⟩ : MethodName) jdk_33_method_47_code 2 (some .int) :: ws) ({ frames := 0, cells := 0, slots := 0, locals := 0 } : Room)) (fun a U => a = #[(.int p1)] ∧ Z.Warmed39 U.vm ∧ U.heap = h0) (fun _ _ _ _ _ => True) (fun _ U o U' => ∃ v L, o = .returned v ∧ Q_inlz Z p1 h0 n0 v U'.heap L ∧ FrameEnd U o U' L ({ frames := 0, cells := 0, slots := 0, locals := 0 } : Room).cells ({ frames := 0, cells := 0, slots := 0, locals := 0 } : Room).slots) := by
  refine MetFree.of_bodySF (plainFor_of_name pn_java_lang_Integer) hisR ?_
  intro p e s m args below meth c s₁ Bd hml0 hP hK
  obtain ⟨rfl, hZ, hh⟩ := hP
  have hx := Bd.exec
  have hby := Bd.bytes
  have hml : c.maxLocals = 2 := hml0
  have hown : s.vm.findClass "java/lang/Integer" = some m.cls := findClass_of_methodNamed Bd.named
  have hnm := (name_of_methodNamed Bd.named Bd.method).1
  have X0 : Stand p l e ({ frames := 0, cells := 0, slots := 0, locals := 0 } : Room) s m #[(.int p1)] below meth c s₁ [] 0 0 := Stand.of_body Bd
  have e0 : s₁.heap = h0 := by rw [← hh, Bd.state]; rfl
  have N0 := Fr.nil n0
  have pre0 : ∀ t, Steps p.tables e below (s₁.setTop (mkF m 0 #[.val (.int p1), .unset] [])) t → Steps p.tables e below (s₁.setTop (entryFrame m #[(.int p1)] 2)) t := fun t k => castTop (ef_5_I m p1) k
  obtain ⟨fs, hr, hrun, hended, hW, hsame⟩ := X0.leave (v := some (.int ((25 : Int32) - ((((((p1.toUInt32 >>> ((4 : Int32) &&& 31).toUInt32).toInt32).toUInt32 >>> ((2 : Int32) &&& 31).toUInt32).toInt32).toUInt32 >>> ((1 : Int32) &&& 31).toUInt32).toInt32)))) (fun h => by rw [Bd.returns] at h; cases h) Bd.notSynchronized
  refine ⟨_, _, pre0 _ ?_, hrun, hended, _, _, rfl, ?_, ⟨_, rfl⟩, hW, hsame.mono (by decide) (by decide)⟩
  · show Steps p.tables e below (s₁.setTop (mkF m 0 #[.val (.int p1), .unset] [])) _
    refine XS.iloadN X0.here hx rfl (hb hby d5_0) rfl ?_
    show Steps p.tables e below (s₁.setTop (mkF m 1 #[.val (.int p1), .unset] [(.int p1)])) _
    refine XS.ifYes X0.here hx rfl (pc0 := 1) (pc' := 15) rfl (hb hby d5_1) rfl ((if0 _ _).trans (tlt hc0).2.2.1) (by decide) (by decide) ?_
    show Steps p.tables e below (s₁.setTop (mkF m 15 #[.val (.int p1), .unset] [])) _
    refine XS.bipush X0.here hx rfl (hb hby d5_15) ?_
    show Steps p.tables e below (s₁.setTop (mkF m 17 #[.val (.int p1), .unset] [(.int (31 : Int32))])) _
    refine XS.istoreN X0.here hx rfl (hb hby d5_17) rfl (l' := #[.val (.int p1), .val (.int (31 : Int32))]) rfl ?_
    show Steps p.tables e below (s₁.setTop (mkF m 18 #[.val (.int p1), .val (.int (31 : Int32))] [])) _
    refine XS.iloadN X0.here hx rfl (hb hby d5_18) rfl ?_
    show Steps p.tables e below (s₁.setTop (mkF m 19 #[.val (.int p1), .val (.int (31 : Int32))] [(.int p1)])) _
    refine X0.ldcwInt hx hown (mvT hZ (hw _ (List.mem_of_getElem? (i := 26) rfl))) (g := (mkF m 19 #[.val (.int p1), .val (.int (31 : Int32))] [(.int p1)])) rfl (hb hby d5_19) _ ?_
    show Steps p.tables e below (s₁.setTop (mkF m 22 #[.val (.int p1), .val (.int (31 : Int32))] [(.int (65536 : Int32)), (.int p1)])) _
    refine XS.icmpYes X0.here hx rfl (pc0 := 22) (pc' := 33) rfl (hb hby d5_22) rfl (tlt hc1).1 (by decide) (by decide) ?_
    show Steps p.tables e below (s₁.setTop (mkF m 33 #[.val (.int p1), .val (.int (31 : Int32))] [])) _
    refine XS.iloadN X0.here hx rfl (hb hby d5_33) rfl ?_
    show Steps p.tables e below (s₁.setTop (mkF m 34 #[.val (.int p1), .val (.int (31 : Int32))] [(.int p1)])) _
    refine XS.sipush X0.here hx rfl (hb hby d5_34) ?_
    show Steps p.tables e below (s₁.setTop (mkF m 37 #[.val (.int p1), .val (.int (31 : Int32))] [(.int (256 : Int32)), (.int p1)])) _
    refine XS.icmpYes X0.here hx rfl (pc0 := 37) (pc' := 48) rfl (hb hby d5_37) rfl (tlt hc2).1 (by decide) (by decide) ?_
    show Steps p.tables e below (s₁.setTop (mkF m 48 #[.val (.int p1), .val (.int (31 : Int32))] [])) _
    refine XS.iloadN X0.here hx rfl (hb hby d5_48) rfl ?_
    show Steps p.tables e below (s₁.setTop (mkF m 49 #[.val (.int p1), .val (.int (31 : Int32))] [(.int p1)])) _
    refine XS.bipush X0.here hx rfl (hb hby d5_49) ?_
    show Steps p.tables e below (s₁.setTop (mkF m 51 #[.val (.int p1), .val (.int (31 : Int32))] [(.int (16 : Int32)), (.int p1)])) _
    refine XS.icmpNo X0.here hx rfl (hb hby d5_51) rfl (flt hc3).1 ?_
    show Steps p.tables e below (s₁.setTop (mkF m 54 #[.val (.int p1), .val (.int (31 : Int32))] [])) _
    refine XS.iinc X0.here hx rfl (hb hby d5_54) rfl (l' := #[.val (.int p1), .val (.int (27 : Int32))]) rfl ?_
    show Steps p.tables e below (s₁.setTop (mkF m 57 #[.val (.int p1), .val (.int (27 : Int32))] [])) _
    refine XS.iloadN X0.here hx rfl (hb hby d5_57) rfl ?_
    show Steps p.tables e below (s₁.setTop (mkF m 58 #[.val (.int p1), .val (.int (27 : Int32))] [(.int p1)])) _
    refine XS.iconst X0.here hx rfl (hb hby d5_58) ?_
    show Steps p.tables e below (s₁.setTop (mkF m 59 #[.val (.int p1), .val (.int (27 : Int32))] [(.int (4 : Int32)), (.int p1)])) _
    refine XS.iushr X0.here hx rfl (hb hby d5_59) rfl ?_
    show Steps p.tables e below (s₁.setTop (mkF m 60 #[.val (.int p1), .val (.int (27 : Int32))] [(.int ((p1.toUInt32 >>> ((4 : Int32) &&& 31).toUInt32).toInt32))])) _
    refine XS.istoreN X0.here hx rfl (hb hby d5_60) rfl (l' := #[.val (.int ((p1.toUInt32 >>> ((4 : Int32) &&& 31).toUInt32).toInt32)), .val (.int (27 : Int32))]) rfl ?_
    show Steps p.tables e below (s₁.setTop (mkF m 61 #[.val (.int ((p1.toUInt32 >>> ((4 : Int32) &&& 31).toUInt32).toInt32)), .val (.int (27 : Int32))] [])) _
    refine XS.iloadN X0.here hx rfl (hb hby d5_61) rfl ?_
    show Steps p.tables e below (s₁.setTop (mkF m 62 #[.val (.int ((p1.toUInt32 >>> ((4 : Int32) &&& 31).toUInt32).toInt32)), .val (.int (27 : Int32))] [(.int ((p1.toUInt32 >>> ((4 : Int32) &&& 31).toUInt32).toInt32))])) _
    refine XS.iconst X0.here hx rfl (hb hby d5_62) ?_
    show Steps p.tables e below (s₁.setTop (mkF m 63 #[.val (.int ((p1.toUInt32 >>> ((4 : Int32) &&& 31).toUInt32).toInt32)), .val (.int (27 : Int32))] [(.int (4 : Int32)), (.int ((p1.toUInt32 >>> ((4 : Int32) &&& 31).toUInt32).toInt32))])) _
    refine XS.icmpNo X0.here hx rfl (hb hby d5_63) rfl (flt hc4).1 ?_
    show Steps p.tables e below (s₁.setTop (mkF m 66 #[.val (.int ((p1.toUInt32 >>> ((4 : Int32) &&& 31).toUInt32).toInt32)), .val (.int (27 : Int32))] [])) _
    refine XS.iinc X0.here hx rfl (hb hby d5_66) rfl (l' := #[.val (.int ((p1.toUInt32 >>> ((4 : Int32) &&& 31).toUInt32).toInt32)), .val (.int (25 : Int32))]) rfl ?_
    show Steps p.tables e below (s₁.setTop (mkF m 69 #[.val (.int ((p1.toUInt32 >>> ((4 : Int32) &&& 31).toUInt32).toInt32)), .val (.int (25 : Int32))] [])) _
    refine XS.iloadN X0.here hx rfl (hb hby d5_69) rfl ?_
    show Steps p.tables e below (s₁.setTop (mkF m 70 #[.val (.int ((p1.toUInt32 >>> ((4 : Int32) &&& 31).toUInt32).toInt32)), .val (.int (25 : Int32))] [(.int ((p1.toUInt32 >>> ((4 : Int32) &&& 31).toUInt32).toInt32))])) _
    refine XS.iconst X0.here hx rfl (hb hby d5_70) ?_
    show Steps p.tables e below (s₁.setTop (mkF m 71 #[.val (.int ((p1.toUInt32 >>> ((4 : Int32) &&& 31).toUInt32).toInt32)), .val (.int (25 : Int32))] [(.int (2 : Int32)), (.int ((p1.toUInt32 >>> ((4 : Int32) &&& 31).toUInt32).toInt32))])) _
    refine XS.iushr X0.here hx rfl (hb hby d5_71) rfl ?_
    show Steps p.tables e below (s₁.setTop (mkF m 72 #[.val (.int ((p1.toUInt32 >>> ((4 : Int32) &&& 31).toUInt32).toInt32)), .val (.int (25 : Int32))] [(.int ((((p1.toUInt32 >>> ((4 : Int32) &&& 31).toUInt32).toInt32).toUInt32 >>> ((2 : Int32) &&& 31).toUInt32).toInt32))])) _
    refine XS.istoreN X0.here hx rfl (hb hby d5_72) rfl (l' := #[.val (.int ((((p1.toUInt32 >>> ((4 : Int32) &&& 31).toUInt32).toInt32).toUInt32 >>> ((2 : Int32) &&& 31).toUInt32).toInt32)), .val (.int (25 : Int32))]) rfl ?_
    show Steps p.tables e below (s₁.setTop (mkF m 73 #[.val (.int ((((p1.toUInt32 >>> ((4 : Int32) &&& 31).toUInt32).toInt32).toUInt32 >>> ((2 : Int32) &&& 31).toUInt32).toInt32)), .val (.int (25 : Int32))] [])) _
    refine XS.iloadN X0.here hx rfl (hb hby d5_73) rfl ?_
    show Steps p.tables e below (s₁.setTop (mkF m 74 #[.val (.int ((((p1.toUInt32 >>> ((4 : Int32) &&& 31).toUInt32).toInt32).toUInt32 >>> ((2 : Int32) &&& 31).toUInt32).toInt32)), .val (.int (25 : Int32))] [(.int (25 : Int32))])) _
    refine XS.iloadN X0.here hx rfl (hb hby d5_74) rfl ?_
    show Steps p.tables e below (s₁.setTop (mkF m 75 #[.val (.int ((((p1.toUInt32 >>> ((4 : Int32) &&& 31).toUInt32).toInt32).toUInt32 >>> ((2 : Int32) &&& 31).toUInt32).toInt32)), .val (.int (25 : Int32))] [(.int ((((p1.toUInt32 >>> ((4 : Int32) &&& 31).toUInt32).toInt32).toUInt32 >>> ((2 : Int32) &&& 31).toUInt32).toInt32)), (.int (25 : Int32))])) _
    refine XS.iconst X0.here hx rfl (hb hby d5_75) ?_
    show Steps p.tables e below (s₁.setTop (mkF m 76 #[.val (.int ((((p1.toUInt32 >>> ((4 : Int32) &&& 31).toUInt32).toInt32).toUInt32 >>> ((2 : Int32) &&& 31).toUInt32).toInt32)), .val (.int (25 : Int32))] [(.int (1 : Int32)), (.int ((((p1.toUInt32 >>> ((4 : Int32) &&& 31).toUInt32).toInt32).toUInt32 >>> ((2 : Int32) &&& 31).toUInt32).toInt32)), (.int (25 : Int32))])) _
    refine XS.iushr X0.here hx rfl (hb hby d5_76) rfl ?_
    show Steps p.tables e below (s₁.setTop (mkF m 77 #[.val (.int ((((p1.toUInt32 >>> ((4 : Int32) &&& 31).toUInt32).toInt32).toUInt32 >>> ((2 : Int32) &&& 31).toUInt32).toInt32)), .val (.int (25 : Int32))] [(.int ((((((p1.toUInt32 >>> ((4 : Int32) &&& 31).toUInt32).toInt32).toUInt32 >>> ((2 : Int32) &&& 31).toUInt32).toInt32).toUInt32 >>> ((1 : Int32) &&& 31).toUInt32).toInt32)), (.int (25 : Int32))])) _
    refine XS.isub X0.here hx rfl (hb hby d5_77) rfl ?_
    show Steps p.tables e below (s₁.setTop (mkF m 78 #[.val (.int ((((p1.toUInt32 >>> ((4 : Int32) &&& 31).toUInt32).toInt32).toUInt32 >>> ((2 : Int32) &&& 31).toUInt32).toInt32)), .val (.int (25 : Int32))] [(.int ((25 : Int32) - ((((((p1.toUInt32 >>> ((4 : Int32) &&& 31).toUInt32).toInt32).toUInt32 >>> ((2 : Int32) &&& 31).toUInt32).toInt32).toUInt32 >>> ((1 : Int32) &&& 31).toUInt32).toInt32)))])) _
    exact retI X0 hx Bd.returns (hb hby d5_78) hr
  · show Q_inlz Z p1 h0 n0 _ s₁.heap _
    rw [e0]
    exact ⟨by rw [hret], N0, rfl⟩
set_option maxRecDepth 65536 in
set_option maxHeartbeats 40000000 in
theorem rm_inlz_ttftt (l : Launch) (Z : State) (a0 : Array Value) (hw : ∀ d ∈ tables_1, d.before a0 Z = true) (ws : List Jvm.Cond) (p1 : Int32) (h0 : Heap) (n0 : Nat) (Z0 : n0 ≤ h0.size) (hc0 : (0 : Int32) < p1) (hc1 : p1 < (65536 : Int32)) (hc2 : ¬ (p1 < (256 : Int32))) (hc3 : ((p1.toUInt32 >>> ((8 : Int32) &&& 31).toUInt32).toInt32) < (16 : Int32)) (hc4 : ((p1.toUInt32 >>> ((8 : Int32) &&& 31).toUInt32).toInt32) < (4 : Int32)) (hret : (f_inlz p1) = ((23 : Int32) - ((((p1.toUInt32 >>> ((8 : Int32) &&& 31).toUInt32).toInt32).toUInt32 >>> ((1 : Int32) &&& 31).toUInt32).toInt32))) :
    MetFree l (⟨"java/lang/Integer", "numberOfLeadingZeros", "(I)I"⟩ : MethodName) (head1 (Jvm.Cond.code (⟨"java/lang/Integer", "numberOfLeadingZeros", "(I)I"⟩ : MethodName) jdk_33_method_47_code 2 (some .int) :: ws) ({ frames := 0, cells := 0, slots := 0, locals := 0 } : Room)) (fun a U => a = #[(.int p1)] ∧ Z.Warmed39 U.vm ∧ U.heap = h0) (fun _ _ _ _ _ => True) (fun _ U o U' => ∃ v L, o = .returned v ∧ Q_inlz Z p1 h0 n0 v U'.heap L ∧ FrameEnd U o U' L ({ frames := 0, cells := 0, slots := 0, locals := 0 } : Room).cells ({ frames := 0, cells := 0, slots := 0, locals := 0 } : Room).slots) := by
  refine MetFree.of_bodySF (plainFor_of_name pn_java_lang_Integer) hisR ?_
  intro p e s m args below meth c s₁ Bd hml0 hP hK
  obtain ⟨rfl, hZ, hh⟩ := hP
  have hx := Bd.exec
  have hby := Bd.bytes
  have hml : c.maxLocals = 2 := hml0
  have hown : s.vm.findClass "java/lang/Integer" = some m.cls := findClass_of_methodNamed Bd.named
  have hnm := (name_of_methodNamed Bd.named Bd.method).1
  have X0 : Stand p l e ({ frames := 0, cells := 0, slots := 0, locals := 0 } : Room) s m #[(.int p1)] below meth c s₁ [] 0 0 := Stand.of_body Bd
  have e0 : s₁.heap = h0 := by rw [← hh, Bd.state]; rfl
  have N0 := Fr.nil n0
  have pre0 : ∀ t, Steps p.tables e below (s₁.setTop (mkF m 0 #[.val (.int p1), .unset] [])) t → Steps p.tables e below (s₁.setTop (entryFrame m #[(.int p1)] 2)) t := fun t k => castTop (ef_5_I m p1) k
  obtain ⟨fs, hr, hrun, hended, hW, hsame⟩ := X0.leave (v := some (.int ((23 : Int32) - ((((p1.toUInt32 >>> ((8 : Int32) &&& 31).toUInt32).toInt32).toUInt32 >>> ((1 : Int32) &&& 31).toUInt32).toInt32)))) (fun h => by rw [Bd.returns] at h; cases h) Bd.notSynchronized
  refine ⟨_, _, pre0 _ ?_, hrun, hended, _, _, rfl, ?_, ⟨_, rfl⟩, hW, hsame.mono (by decide) (by decide)⟩
  · show Steps p.tables e below (s₁.setTop (mkF m 0 #[.val (.int p1), .unset] [])) _
    refine XS.iloadN X0.here hx rfl (hb hby d5_0) rfl ?_
    show Steps p.tables e below (s₁.setTop (mkF m 1 #[.val (.int p1), .unset] [(.int p1)])) _
    refine XS.ifYes X0.here hx rfl (pc0 := 1) (pc' := 15) rfl (hb hby d5_1) rfl ((if0 _ _).trans (tlt hc0).2.2.1) (by decide) (by decide) ?_
    show Steps p.tables e below (s₁.setTop (mkF m 15 #[.val (.int p1), .unset] [])) _
    refine XS.bipush X0.here hx rfl (hb hby d5_15) ?_
    show Steps p.tables e below (s₁.setTop (mkF m 17 #[.val (.int p1), .unset] [(.int (31 : Int32))])) _
    refine XS.istoreN X0.here hx rfl (hb hby d5_17) rfl (l' := #[.val (.int p1), .val (.int (31 : Int32))]) rfl ?_
    show Steps p.tables e below (s₁.setTop (mkF m 18 #[.val (.int p1), .val (.int (31 : Int32))] [])) _
    refine XS.iloadN X0.here hx rfl (hb hby d5_18) rfl ?_
    show Steps p.tables e below (s₁.setTop (mkF m 19 #[.val (.int p1), .val (.int (31 : Int32))] [(.int p1)])) _
    refine X0.ldcwInt hx hown (mvT hZ (hw _ (List.mem_of_getElem? (i := 26) rfl))) (g := (mkF m 19 #[.val (.int p1), .val (.int (31 : Int32))] [(.int p1)])) rfl (hb hby d5_19) _ ?_
    show Steps p.tables e below (s₁.setTop (mkF m 22 #[.val (.int p1), .val (.int (31 : Int32))] [(.int (65536 : Int32)), (.int p1)])) _
    refine XS.icmpYes X0.here hx rfl (pc0 := 22) (pc' := 33) rfl (hb hby d5_22) rfl (tlt hc1).1 (by decide) (by decide) ?_
    show Steps p.tables e below (s₁.setTop (mkF m 33 #[.val (.int p1), .val (.int (31 : Int32))] [])) _
    refine XS.iloadN X0.here hx rfl (hb hby d5_33) rfl ?_
    show Steps p.tables e below (s₁.setTop (mkF m 34 #[.val (.int p1), .val (.int (31 : Int32))] [(.int p1)])) _
    refine XS.sipush X0.here hx rfl (hb hby d5_34) ?_
    show Steps p.tables e below (s₁.setTop (mkF m 37 #[.val (.int p1), .val (.int (31 : Int32))] [(.int (256 : Int32)), (.int p1)])) _
    refine XS.icmpNo X0.here hx rfl (hb hby d5_37) rfl (flt hc2).1 ?_
    show Steps p.tables e below (s₁.setTop (mkF m 40 #[.val (.int p1), .val (.int (31 : Int32))] [])) _
    refine XS.iinc X0.here hx rfl (hb hby d5_40) rfl (l' := #[.val (.int p1), .val (.int (23 : Int32))]) rfl ?_
    show Steps p.tables e below (s₁.setTop (mkF m 43 #[.val (.int p1), .val (.int (23 : Int32))] [])) _
    refine XS.iloadN X0.here hx rfl (hb hby d5_43) rfl ?_
    show Steps p.tables e below (s₁.setTop (mkF m 44 #[.val (.int p1), .val (.int (23 : Int32))] [(.int p1)])) _
    refine XS.bipush X0.here hx rfl (hb hby d5_44) ?_
    show Steps p.tables e below (s₁.setTop (mkF m 46 #[.val (.int p1), .val (.int (23 : Int32))] [(.int (8 : Int32)), (.int p1)])) _
    refine XS.iushr X0.here hx rfl (hb hby d5_46) rfl ?_
    show Steps p.tables e below (s₁.setTop (mkF m 47 #[.val (.int p1), .val (.int (23 : Int32))] [(.int ((p1.toUInt32 >>> ((8 : Int32) &&& 31).toUInt32).toInt32))])) _
    refine XS.istoreN X0.here hx rfl (hb hby d5_47) rfl (l' := #[.val (.int ((p1.toUInt32 >>> ((8 : Int32) &&& 31).toUInt32).toInt32)), .val (.int (23 : Int32))]) rfl ?_
    show Steps p.tables e below (s₁.setTop (mkF m 48 #[.val (.int ((p1.toUInt32 >>> ((8 : Int32) &&& 31).toUInt32).toInt32)), .val (.int (23 : Int32))] [])) _
    refine XS.iloadN X0.here hx rfl (hb hby d5_48) rfl ?_
    show Steps p.tables e below (s₁.setTop (mkF m 49 #[.val (.int ((p1.toUInt32 >>> ((8 : Int32) &&& 31).toUInt32).toInt32)), .val (.int (23 : Int32))] [(.int ((p1.toUInt32 >>> ((8 : Int32) &&& 31).toUInt32).toInt32))])) _
    refine XS.bipush X0.here hx rfl (hb hby d5_49) ?_
    show Steps p.tables e below (s₁.setTop (mkF m 51 #[.val (.int ((p1.toUInt32 >>> ((8 : Int32) &&& 31).toUInt32).toInt32)), .val (.int (23 : Int32))] [(.int (16 : Int32)), (.int ((p1.toUInt32 >>> ((8 : Int32) &&& 31).toUInt32).toInt32))])) _
    refine XS.icmpYes X0.here hx rfl (pc0 := 51) (pc' := 61) rfl (hb hby d5_51) rfl (tlt hc3).1 (by decide) (by decide) ?_
    show Steps p.tables e below (s₁.setTop (mkF m 61 #[.val (.int ((p1.toUInt32 >>> ((8 : Int32) &&& 31).toUInt32).toInt32)), .val (.int (23 : Int32))] [])) _
    refine XS.iloadN X0.here hx rfl (hb hby d5_61) rfl ?_
    show Steps p.tables e below (s₁.setTop (mkF m 62 #[.val (.int ((p1.toUInt32 >>> ((8 : Int32) &&& 31).toUInt32).toInt32)), .val (.int (23 : Int32))] [(.int ((p1.toUInt32 >>> ((8 : Int32) &&& 31).toUInt32).toInt32))])) _
    refine XS.iconst X0.here hx rfl (hb hby d5_62) ?_
    show Steps p.tables e below (s₁.setTop (mkF m 63 #[.val (.int ((p1.toUInt32 >>> ((8 : Int32) &&& 31).toUInt32).toInt32)), .val (.int (23 : Int32))] [(.int (4 : Int32)), (.int ((p1.toUInt32 >>> ((8 : Int32) &&& 31).toUInt32).toInt32))])) _
    refine XS.icmpYes X0.here hx rfl (pc0 := 63) (pc' := 73) rfl (hb hby d5_63) rfl (tlt hc4).1 (by decide) (by decide) ?_
    show Steps p.tables e below (s₁.setTop (mkF m 73 #[.val (.int ((p1.toUInt32 >>> ((8 : Int32) &&& 31).toUInt32).toInt32)), .val (.int (23 : Int32))] [])) _
    refine XS.iloadN X0.here hx rfl (hb hby d5_73) rfl ?_
    show Steps p.tables e below (s₁.setTop (mkF m 74 #[.val (.int ((p1.toUInt32 >>> ((8 : Int32) &&& 31).toUInt32).toInt32)), .val (.int (23 : Int32))] [(.int (23 : Int32))])) _
    refine XS.iloadN X0.here hx rfl (hb hby d5_74) rfl ?_
    show Steps p.tables e below (s₁.setTop (mkF m 75 #[.val (.int ((p1.toUInt32 >>> ((8 : Int32) &&& 31).toUInt32).toInt32)), .val (.int (23 : Int32))] [(.int ((p1.toUInt32 >>> ((8 : Int32) &&& 31).toUInt32).toInt32)), (.int (23 : Int32))])) _
    refine XS.iconst X0.here hx rfl (hb hby d5_75) ?_
    show Steps p.tables e below (s₁.setTop (mkF m 76 #[.val (.int ((p1.toUInt32 >>> ((8 : Int32) &&& 31).toUInt32).toInt32)), .val (.int (23 : Int32))] [(.int (1 : Int32)), (.int ((p1.toUInt32 >>> ((8 : Int32) &&& 31).toUInt32).toInt32)), (.int (23 : Int32))])) _
    refine XS.iushr X0.here hx rfl (hb hby d5_76) rfl ?_
    show Steps p.tables e below (s₁.setTop (mkF m 77 #[.val (.int ((p1.toUInt32 >>> ((8 : Int32) &&& 31).toUInt32).toInt32)), .val (.int (23 : Int32))] [(.int ((((p1.toUInt32 >>> ((8 : Int32) &&& 31).toUInt32).toInt32).toUInt32 >>> ((1 : Int32) &&& 31).toUInt32).toInt32)), (.int (23 : Int32))])) _
    refine XS.isub X0.here hx rfl (hb hby d5_77) rfl ?_
    show Steps p.tables e below (s₁.setTop (mkF m 78 #[.val (.int ((p1.toUInt32 >>> ((8 : Int32) &&& 31).toUInt32).toInt32)), .val (.int (23 : Int32))] [(.int ((23 : Int32) - ((((p1.toUInt32 >>> ((8 : Int32) &&& 31).toUInt32).toInt32).toUInt32 >>> ((1 : Int32) &&& 31).toUInt32).toInt32)))])) _
    exact retI X0 hx Bd.returns (hb hby d5_78) hr
  · show Q_inlz Z p1 h0 n0 _ s₁.heap _
    rw [e0]
    exact ⟨by rw [hret], N0, rfl⟩
set_option maxRecDepth 65536 in
set_option maxHeartbeats 40000000 in
theorem rm_inlz_ttftf (l : Launch) (Z : State) (a0 : Array Value) (hw : ∀ d ∈ tables_1, d.before a0 Z = true) (ws : List Jvm.Cond) (p1 : Int32) (h0 : Heap) (n0 : Nat) (Z0 : n0 ≤ h0.size) (hc0 : (0 : Int32) < p1) (hc1 : p1 < (65536 : Int32)) (hc2 : ¬ (p1 < (256 : Int32))) (hc3 : ((p1.toUInt32 >>> ((8 : Int32) &&& 31).toUInt32).toInt32) < (16 : Int32)) (hc4 : ¬ (((p1.toUInt32 >>> ((8 : Int32) &&& 31).toUInt32).toInt32) < (4 : Int32))) (hret : (f_inlz p1) = ((21 : Int32) - ((((((p1.toUInt32 >>> ((8 : Int32) &&& 31).toUInt32).toInt32).toUInt32 >>> ((2 : Int32) &&& 31).toUInt32).toInt32).toUInt32 >>> ((1 : Int32) &&& 31).toUInt32).toInt32))) :
    MetFree l (⟨"java/lang/Integer", "numberOfLeadingZeros", "(I)I"⟩ : MethodName) (head1 (Jvm.Cond.code (⟨"java/lang/Integer", "numberOfLeadingZeros", "(I)I"⟩ : MethodName) jdk_33_method_47_code 2 (some .int) :: ws) ({ frames := 0, cells := 0, slots := 0, locals := 0 } : Room)) (fun a U => a = #[(.int p1)] ∧ Z.Warmed39 U.vm ∧ U.heap = h0) (fun _ _ _ _ _ => True) (fun _ U o U' => ∃ v L, o = .returned v ∧ Q_inlz Z p1 h0 n0 v U'.heap L ∧ FrameEnd U o U' L ({ frames := 0, cells := 0, slots := 0, locals := 0 } : Room).cells ({ frames := 0, cells := 0, slots := 0, locals := 0 } : Room).slots) := by
  refine MetFree.of_bodySF (plainFor_of_name pn_java_lang_Integer) hisR ?_
  intro p e s m args below meth c s₁ Bd hml0 hP hK
  obtain ⟨rfl, hZ, hh⟩ := hP
  have hx := Bd.exec
  have hby := Bd.bytes
  have hml : c.maxLocals = 2 := hml0
  have hown : s.vm.findClass "java/lang/Integer" = some m.cls := findClass_of_methodNamed Bd.named
  have hnm := (name_of_methodNamed Bd.named Bd.method).1
  have X0 : Stand p l e ({ frames := 0, cells := 0, slots := 0, locals := 0 } : Room) s m #[(.int p1)] below meth c s₁ [] 0 0 := Stand.of_body Bd
  have e0 : s₁.heap = h0 := by rw [← hh, Bd.state]; rfl
  have N0 := Fr.nil n0
  have pre0 : ∀ t, Steps p.tables e below (s₁.setTop (mkF m 0 #[.val (.int p1), .unset] [])) t → Steps p.tables e below (s₁.setTop (entryFrame m #[(.int p1)] 2)) t := fun t k => castTop (ef_5_I m p1) k
  obtain ⟨fs, hr, hrun, hended, hW, hsame⟩ := X0.leave (v := some (.int ((21 : Int32) - ((((((p1.toUInt32 >>> ((8 : Int32) &&& 31).toUInt32).toInt32).toUInt32 >>> ((2 : Int32) &&& 31).toUInt32).toInt32).toUInt32 >>> ((1 : Int32) &&& 31).toUInt32).toInt32)))) (fun h => by rw [Bd.returns] at h; cases h) Bd.notSynchronized
  refine ⟨_, _, pre0 _ ?_, hrun, hended, _, _, rfl, ?_, ⟨_, rfl⟩, hW, hsame.mono (by decide) (by decide)⟩
  · show Steps p.tables e below (s₁.setTop (mkF m 0 #[.val (.int p1), .unset] [])) _
    refine XS.iloadN X0.here hx rfl (hb hby d5_0) rfl ?_
    show Steps p.tables e below (s₁.setTop (mkF m 1 #[.val (.int p1), .unset] [(.int p1)])) _
    refine XS.ifYes X0.here hx rfl (pc0 := 1) (pc' := 15) rfl (hb hby d5_1) rfl ((if0 _ _).trans (tlt hc0).2.2.1) (by decide) (by decide) ?_
    show Steps p.tables e below (s₁.setTop (mkF m 15 #[.val (.int p1), .unset] [])) _
    refine XS.bipush X0.here hx rfl (hb hby d5_15) ?_
    show Steps p.tables e below (s₁.setTop (mkF m 17 #[.val (.int p1), .unset] [(.int (31 : Int32))])) _
    refine XS.istoreN X0.here hx rfl (hb hby d5_17) rfl (l' := #[.val (.int p1), .val (.int (31 : Int32))]) rfl ?_
    show Steps p.tables e below (s₁.setTop (mkF m 18 #[.val (.int p1), .val (.int (31 : Int32))] [])) _
    refine XS.iloadN X0.here hx rfl (hb hby d5_18) rfl ?_
    show Steps p.tables e below (s₁.setTop (mkF m 19 #[.val (.int p1), .val (.int (31 : Int32))] [(.int p1)])) _
    refine X0.ldcwInt hx hown (mvT hZ (hw _ (List.mem_of_getElem? (i := 26) rfl))) (g := (mkF m 19 #[.val (.int p1), .val (.int (31 : Int32))] [(.int p1)])) rfl (hb hby d5_19) _ ?_
    show Steps p.tables e below (s₁.setTop (mkF m 22 #[.val (.int p1), .val (.int (31 : Int32))] [(.int (65536 : Int32)), (.int p1)])) _
    refine XS.icmpYes X0.here hx rfl (pc0 := 22) (pc' := 33) rfl (hb hby d5_22) rfl (tlt hc1).1 (by decide) (by decide) ?_
    show Steps p.tables e below (s₁.setTop (mkF m 33 #[.val (.int p1), .val (.int (31 : Int32))] [])) _
    refine XS.iloadN X0.here hx rfl (hb hby d5_33) rfl ?_
    show Steps p.tables e below (s₁.setTop (mkF m 34 #[.val (.int p1), .val (.int (31 : Int32))] [(.int p1)])) _
    refine XS.sipush X0.here hx rfl (hb hby d5_34) ?_
    show Steps p.tables e below (s₁.setTop (mkF m 37 #[.val (.int p1), .val (.int (31 : Int32))] [(.int (256 : Int32)), (.int p1)])) _
    refine XS.icmpNo X0.here hx rfl (hb hby d5_37) rfl (flt hc2).1 ?_
    show Steps p.tables e below (s₁.setTop (mkF m 40 #[.val (.int p1), .val (.int (31 : Int32))] [])) _
    refine XS.iinc X0.here hx rfl (hb hby d5_40) rfl (l' := #[.val (.int p1), .val (.int (23 : Int32))]) rfl ?_
    show Steps p.tables e below (s₁.setTop (mkF m 43 #[.val (.int p1), .val (.int (23 : Int32))] [])) _
    refine XS.iloadN X0.here hx rfl (hb hby d5_43) rfl ?_
    show Steps p.tables e below (s₁.setTop (mkF m 44 #[.val (.int p1), .val (.int (23 : Int32))] [(.int p1)])) _
    refine XS.bipush X0.here hx rfl (hb hby d5_44) ?_
    show Steps p.tables e below (s₁.setTop (mkF m 46 #[.val (.int p1), .val (.int (23 : Int32))] [(.int (8 : Int32)), (.int p1)])) _
    refine XS.iushr X0.here hx rfl (hb hby d5_46) rfl ?_
    show Steps p.tables e below (s₁.setTop (mkF m 47 #[.val (.int p1), .val (.int (23 : Int32))] [(.int ((p1.toUInt32 >>> ((8 : Int32) &&& 31).toUInt32).toInt32))])) _
    refine XS.istoreN X0.here hx rfl (hb hby d5_47) rfl (l' := #[.val (.int ((p1.toUInt32 >>> ((8 : Int32) &&& 31).toUInt32).toInt32)), .val (.int (23 : Int32))]) rfl ?_
    show Steps p.tables e below (s₁.setTop (mkF m 48 #[.val (.int ((p1.toUInt32 >>> ((8 : Int32) &&& 31).toUInt32).toInt32)), .val (.int (23 : Int32))] [])) _
    refine XS.iloadN X0.here hx rfl (hb hby d5_48) rfl ?_
    show Steps p.tables e below (s₁.setTop (mkF m 49 #[.val (.int ((p1.toUInt32 >>> ((8 : Int32) &&& 31).toUInt32).toInt32)), .val (.int (23 : Int32))] [(.int ((p1.toUInt32 >>> ((8 : Int32) &&& 31).toUInt32).toInt32))])) _
    refine XS.bipush X0.here hx rfl (hb hby d5_49) ?_
    show Steps p.tables e below (s₁.setTop (mkF m 51 #[.val (.int ((p1.toUInt32 >>> ((8 : Int32) &&& 31).toUInt32).toInt32)), .val (.int (23 : Int32))] [(.int (16 : Int32)), (.int ((p1.toUInt32 >>> ((8 : Int32) &&& 31).toUInt32).toInt32))])) _
    refine XS.icmpYes X0.here hx rfl (pc0 := 51) (pc' := 61) rfl (hb hby d5_51) rfl (tlt hc3).1 (by decide) (by decide) ?_
    show Steps p.tables e below (s₁.setTop (mkF m 61 #[.val (.int ((p1.toUInt32 >>> ((8 : Int32) &&& 31).toUInt32).toInt32)), .val (.int (23 : Int32))] [])) _
    refine XS.iloadN X0.here hx rfl (hb hby d5_61) rfl ?_
    show Steps p.tables e below (s₁.setTop (mkF m 62 #[.val (.int ((p1.toUInt32 >>> ((8 : Int32) &&& 31).toUInt32).toInt32)), .val (.int (23 : Int32))] [(.int ((p1.toUInt32 >>> ((8 : Int32) &&& 31).toUInt32).toInt32))])) _
    refine XS.iconst X0.here hx rfl (hb hby d5_62) ?_
    show Steps p.tables e below (s₁.setTop (mkF m 63 #[.val (.int ((p1.toUInt32 >>> ((8 : Int32) &&& 31).toUInt32).toInt32)), .val (.int (23 : Int32))] [(.int (4 : Int32)), (.int ((p1.toUInt32 >>> ((8 : Int32) &&& 31).toUInt32).toInt32))])) _
    refine XS.icmpNo X0.here hx rfl (hb hby d5_63) rfl (flt hc4).1 ?_
    show Steps p.tables e below (s₁.setTop (mkF m 66 #[.val (.int ((p1.toUInt32 >>> ((8 : Int32) &&& 31).toUInt32).toInt32)), .val (.int (23 : Int32))] [])) _
    refine XS.iinc X0.here hx rfl (hb hby d5_66) rfl (l' := #[.val (.int ((p1.toUInt32 >>> ((8 : Int32) &&& 31).toUInt32).toInt32)), .val (.int (21 : Int32))]) rfl ?_
    show Steps p.tables e below (s₁.setTop (mkF m 69 #[.val (.int ((p1.toUInt32 >>> ((8 : Int32) &&& 31).toUInt32).toInt32)), .val (.int (21 : Int32))] [])) _
    refine XS.iloadN X0.here hx rfl (hb hby d5_69) rfl ?_
    show Steps p.tables e below (s₁.setTop (mkF m 70 #[.val (.int ((p1.toUInt32 >>> ((8 : Int32) &&& 31).toUInt32).toInt32)), .val (.int (21 : Int32))] [(.int ((p1.toUInt32 >>> ((8 : Int32) &&& 31).toUInt32).toInt32))])) _
    refine XS.iconst X0.here hx rfl (hb hby d5_70) ?_
    show Steps p.tables e below (s₁.setTop (mkF m 71 #[.val (.int ((p1.toUInt32 >>> ((8 : Int32) &&& 31).toUInt32).toInt32)), .val (.int (21 : Int32))] [(.int (2 : Int32)), (.int ((p1.toUInt32 >>> ((8 : Int32) &&& 31).toUInt32).toInt32))])) _
    refine XS.iushr X0.here hx rfl (hb hby d5_71) rfl ?_
    show Steps p.tables e below (s₁.setTop (mkF m 72 #[.val (.int ((p1.toUInt32 >>> ((8 : Int32) &&& 31).toUInt32).toInt32)), .val (.int (21 : Int32))] [(.int ((((p1.toUInt32 >>> ((8 : Int32) &&& 31).toUInt32).toInt32).toUInt32 >>> ((2 : Int32) &&& 31).toUInt32).toInt32))])) _
    refine XS.istoreN X0.here hx rfl (hb hby d5_72) rfl (l' := #[.val (.int ((((p1.toUInt32 >>> ((8 : Int32) &&& 31).toUInt32).toInt32).toUInt32 >>> ((2 : Int32) &&& 31).toUInt32).toInt32)), .val (.int (21 : Int32))]) rfl ?_
    show Steps p.tables e below (s₁.setTop (mkF m 73 #[.val (.int ((((p1.toUInt32 >>> ((8 : Int32) &&& 31).toUInt32).toInt32).toUInt32 >>> ((2 : Int32) &&& 31).toUInt32).toInt32)), .val (.int (21 : Int32))] [])) _
    refine XS.iloadN X0.here hx rfl (hb hby d5_73) rfl ?_
    show Steps p.tables e below (s₁.setTop (mkF m 74 #[.val (.int ((((p1.toUInt32 >>> ((8 : Int32) &&& 31).toUInt32).toInt32).toUInt32 >>> ((2 : Int32) &&& 31).toUInt32).toInt32)), .val (.int (21 : Int32))] [(.int (21 : Int32))])) _
    refine XS.iloadN X0.here hx rfl (hb hby d5_74) rfl ?_
    show Steps p.tables e below (s₁.setTop (mkF m 75 #[.val (.int ((((p1.toUInt32 >>> ((8 : Int32) &&& 31).toUInt32).toInt32).toUInt32 >>> ((2 : Int32) &&& 31).toUInt32).toInt32)), .val (.int (21 : Int32))] [(.int ((((p1.toUInt32 >>> ((8 : Int32) &&& 31).toUInt32).toInt32).toUInt32 >>> ((2 : Int32) &&& 31).toUInt32).toInt32)), (.int (21 : Int32))])) _
    refine XS.iconst X0.here hx rfl (hb hby d5_75) ?_
    show Steps p.tables e below (s₁.setTop (mkF m 76 #[.val (.int ((((p1.toUInt32 >>> ((8 : Int32) &&& 31).toUInt32).toInt32).toUInt32 >>> ((2 : Int32) &&& 31).toUInt32).toInt32)), .val (.int (21 : Int32))] [(.int (1 : Int32)), (.int ((((p1.toUInt32 >>> ((8 : Int32) &&& 31).toUInt32).toInt32).toUInt32 >>> ((2 : Int32) &&& 31).toUInt32).toInt32)), (.int (21 : Int32))])) _
    refine XS.iushr X0.here hx rfl (hb hby d5_76) rfl ?_
    show Steps p.tables e below (s₁.setTop (mkF m 77 #[.val (.int ((((p1.toUInt32 >>> ((8 : Int32) &&& 31).toUInt32).toInt32).toUInt32 >>> ((2 : Int32) &&& 31).toUInt32).toInt32)), .val (.int (21 : Int32))] [(.int ((((((p1.toUInt32 >>> ((8 : Int32) &&& 31).toUInt32).toInt32).toUInt32 >>> ((2 : Int32) &&& 31).toUInt32).toInt32).toUInt32 >>> ((1 : Int32) &&& 31).toUInt32).toInt32)), (.int (21 : Int32))])) _
    refine XS.isub X0.here hx rfl (hb hby d5_77) rfl ?_
    show Steps p.tables e below (s₁.setTop (mkF m 78 #[.val (.int ((((p1.toUInt32 >>> ((8 : Int32) &&& 31).toUInt32).toInt32).toUInt32 >>> ((2 : Int32) &&& 31).toUInt32).toInt32)), .val (.int (21 : Int32))] [(.int ((21 : Int32) - ((((((p1.toUInt32 >>> ((8 : Int32) &&& 31).toUInt32).toInt32).toUInt32 >>> ((2 : Int32) &&& 31).toUInt32).toInt32).toUInt32 >>> ((1 : Int32) &&& 31).toUInt32).toInt32)))])) _
    exact retI X0 hx Bd.returns (hb hby d5_78) hr
  · show Q_inlz Z p1 h0 n0 _ s₁.heap _
    rw [e0]
    exact ⟨by rw [hret], N0, rfl⟩
set_option maxRecDepth 65536 in
set_option maxHeartbeats 40000000 in
theorem rm_inlz_ttfft (l : Launch) (Z : State) (a0 : Array Value) (hw : ∀ d ∈ tables_1, d.before a0 Z = true) (ws : List Jvm.Cond) (p1 : Int32) (h0 : Heap) (n0 : Nat) (Z0 : n0 ≤ h0.size) (hc0 : (0 : Int32) < p1) (hc1 : p1 < (65536 : Int32)) (hc2 : ¬ (p1 < (256 : Int32))) (hc3 : ¬ (((p1.toUInt32 >>> ((8 : Int32) &&& 31).toUInt32).toInt32) < (16 : Int32))) (hc4 : ((((p1.toUInt32 >>> ((8 : Int32) &&& 31).toUInt32).toInt32).toUInt32 >>> ((4 : Int32) &&& 31).toUInt32).toInt32) < (4 : Int32)) (hret : (f_inlz p1) = ((19 : Int32) - ((((((p1.toUInt32 >>> ((8 : Int32) &&& 31).toUInt32).toInt32).toUInt32 >>> ((4 : Int32) &&& 31).toUInt32).toInt32).toUInt32 >>> ((1 : Int32) &&& 31).toUInt32).toInt32))) :
    MetFree l (⟨"java/lang/Integer", "numberOfLeadingZeros", "(I)I"⟩ : MethodName) (head1 (Jvm.Cond.code (⟨"java/lang/Integer", "numberOfLeadingZeros", "(I)I"⟩ : MethodName) jdk_33_method_47_code 2 (some .int) :: ws) ({ frames := 0, cells := 0, slots := 0, locals := 0 } : Room)) (fun a U => a = #[(.int p1)] ∧ Z.Warmed39 U.vm ∧ U.heap = h0) (fun _ _ _ _ _ => True) (fun _ U o U' => ∃ v L, o = .returned v ∧ Q_inlz Z p1 h0 n0 v U'.heap L ∧ FrameEnd U o U' L ({ frames := 0, cells := 0, slots := 0, locals := 0 } : Room).cells ({ frames := 0, cells := 0, slots := 0, locals := 0 } : Room).slots) := by
  refine MetFree.of_bodySF (plainFor_of_name pn_java_lang_Integer) hisR ?_
  intro p e s m args below meth c s₁ Bd hml0 hP hK
  obtain ⟨rfl, hZ, hh⟩ := hP
  have hx := Bd.exec
  have hby := Bd.bytes
  have hml : c.maxLocals = 2 := hml0
  have hown : s.vm.findClass "java/lang/Integer" = some m.cls := findClass_of_methodNamed Bd.named
  have hnm := (name_of_methodNamed Bd.named Bd.method).1
  have X0 : Stand p l e ({ frames := 0, cells := 0, slots := 0, locals := 0 } : Room) s m #[(.int p1)] below meth c s₁ [] 0 0 := Stand.of_body Bd
  have e0 : s₁.heap = h0 := by rw [← hh, Bd.state]; rfl
  have N0 := Fr.nil n0
  have pre0 : ∀ t, Steps p.tables e below (s₁.setTop (mkF m 0 #[.val (.int p1), .unset] [])) t → Steps p.tables e below (s₁.setTop (entryFrame m #[(.int p1)] 2)) t := fun t k => castTop (ef_5_I m p1) k
  obtain ⟨fs, hr, hrun, hended, hW, hsame⟩ := X0.leave (v := some (.int ((19 : Int32) - ((((((p1.toUInt32 >>> ((8 : Int32) &&& 31).toUInt32).toInt32).toUInt32 >>> ((4 : Int32) &&& 31).toUInt32).toInt32).toUInt32 >>> ((1 : Int32) &&& 31).toUInt32).toInt32)))) (fun h => by rw [Bd.returns] at h; cases h) Bd.notSynchronized
  refine ⟨_, _, pre0 _ ?_, hrun, hended, _, _, rfl, ?_, ⟨_, rfl⟩, hW, hsame.mono (by decide) (by decide)⟩
  · show Steps p.tables e below (s₁.setTop (mkF m 0 #[.val (.int p1), .unset] [])) _
    refine XS.iloadN X0.here hx rfl (hb hby d5_0) rfl ?_
    show Steps p.tables e below (s₁.setTop (mkF m 1 #[.val (.int p1), .unset] [(.int p1)])) _
    refine XS.ifYes X0.here hx rfl (pc0 := 1) (pc' := 15) rfl (hb hby d5_1) rfl ((if0 _ _).trans (tlt hc0).2.2.1) (by decide) (by decide) ?_
    show Steps p.tables e below (s₁.setTop (mkF m 15 #[.val (.int p1), .unset] [])) _
    refine XS.bipush X0.here hx rfl (hb hby d5_15) ?_
    show Steps p.tables e below (s₁.setTop (mkF m 17 #[.val (.int p1), .unset] [(.int (31 : Int32))])) _
    refine XS.istoreN X0.here hx rfl (hb hby d5_17) rfl (l' := #[.val (.int p1), .val (.int (31 : Int32))]) rfl ?_
    show Steps p.tables e below (s₁.setTop (mkF m 18 #[.val (.int p1), .val (.int (31 : Int32))] [])) _
    refine XS.iloadN X0.here hx rfl (hb hby d5_18) rfl ?_
    show Steps p.tables e below (s₁.setTop (mkF m 19 #[.val (.int p1), .val (.int (31 : Int32))] [(.int p1)])) _
    refine X0.ldcwInt hx hown (mvT hZ (hw _ (List.mem_of_getElem? (i := 26) rfl))) (g := (mkF m 19 #[.val (.int p1), .val (.int (31 : Int32))] [(.int p1)])) rfl (hb hby d5_19) _ ?_
    show Steps p.tables e below (s₁.setTop (mkF m 22 #[.val (.int p1), .val (.int (31 : Int32))] [(.int (65536 : Int32)), (.int p1)])) _
    refine XS.icmpYes X0.here hx rfl (pc0 := 22) (pc' := 33) rfl (hb hby d5_22) rfl (tlt hc1).1 (by decide) (by decide) ?_
    show Steps p.tables e below (s₁.setTop (mkF m 33 #[.val (.int p1), .val (.int (31 : Int32))] [])) _
    refine XS.iloadN X0.here hx rfl (hb hby d5_33) rfl ?_
    show Steps p.tables e below (s₁.setTop (mkF m 34 #[.val (.int p1), .val (.int (31 : Int32))] [(.int p1)])) _
    refine XS.sipush X0.here hx rfl (hb hby d5_34) ?_
    show Steps p.tables e below (s₁.setTop (mkF m 37 #[.val (.int p1), .val (.int (31 : Int32))] [(.int (256 : Int32)), (.int p1)])) _
    refine XS.icmpNo X0.here hx rfl (hb hby d5_37) rfl (flt hc2).1 ?_
    show Steps p.tables e below (s₁.setTop (mkF m 40 #[.val (.int p1), .val (.int (31 : Int32))] [])) _
    refine XS.iinc X0.here hx rfl (hb hby d5_40) rfl (l' := #[.val (.int p1), .val (.int (23 : Int32))]) rfl ?_
    show Steps p.tables e below (s₁.setTop (mkF m 43 #[.val (.int p1), .val (.int (23 : Int32))] [])) _
    refine XS.iloadN X0.here hx rfl (hb hby d5_43) rfl ?_
    show Steps p.tables e below (s₁.setTop (mkF m 44 #[.val (.int p1), .val (.int (23 : Int32))] [(.int p1)])) _
    refine XS.bipush X0.here hx rfl (hb hby d5_44) ?_
    show Steps p.tables e below (s₁.setTop (mkF m 46 #[.val (.int p1), .val (.int (23 : Int32))] [(.int (8 : Int32)), (.int p1)])) _
    refine XS.iushr X0.here hx rfl (hb hby d5_46) rfl ?_
    show Steps p.tables e below (s₁.setTop (mkF m 47 #[.val (.int p1), .val (.int (23 : Int32))] [(.int ((p1.toUInt32 >>> ((8 : Int32) &&& 31).toUInt32).toInt32))])) _
    refine XS.istoreN X0.here hx rfl (hb hby d5_47) rfl (l' := #[.val (.int ((p1.toUInt32 >>> ((8 : Int32) &&& 31).toUInt32).toInt32)), .val (.int (23 : Int32))]) rfl ?_
    show Steps p.tables e below (s₁.setTop (mkF m 48 #[.val (.int ((p1.toUInt32 >>> ((8 : Int32) &&& 31).toUInt32).toInt32)), .val (.int (23 : Int32))] [])) _
    refine XS.iloadN X0.here hx rfl (hb hby d5_48) rfl ?_
    show Steps p.tables e below (s₁.setTop (mkF m 49 #[.val (.int ((p1.toUInt32 >>> ((8 : Int32) &&& 31).toUInt32).toInt32)), .val (.int (23 : Int32))] [(.int ((p1.toUInt32 >>> ((8 : Int32) &&& 31).toUInt32).toInt32))])) _
    refine XS.bipush X0.here hx rfl (hb hby d5_49) ?_
    show Steps p.tables e below (s₁.setTop (mkF m 51 #[.val (.int ((p1.toUInt32 >>> ((8 : Int32) &&& 31).toUInt32).toInt32)), .val (.int (23 : Int32))] [(.int (16 : Int32)), (.int ((p1.toUInt32 >>> ((8 : Int32) &&& 31).toUInt32).toInt32))])) _
    refine XS.icmpNo X0.here hx rfl (hb hby d5_51) rfl (flt hc3).1 ?_
    show Steps p.tables e below (s₁.setTop (mkF m 54 #[.val (.int ((p1.toUInt32 >>> ((8 : Int32) &&& 31).toUInt32).toInt32)), .val (.int (23 : Int32))] [])) _
    refine XS.iinc X0.here hx rfl (hb hby d5_54) rfl (l' := #[.val (.int ((p1.toUInt32 >>> ((8 : Int32) &&& 31).toUInt32).toInt32)), .val (.int (19 : Int32))]) rfl ?_
    show Steps p.tables e below (s₁.setTop (mkF m 57 #[.val (.int ((p1.toUInt32 >>> ((8 : Int32) &&& 31).toUInt32).toInt32)), .val (.int (19 : Int32))] [])) _
    refine XS.iloadN X0.here hx rfl (hb hby d5_57) rfl ?_
    show Steps p.tables e below (s₁.setTop (mkF m 58 #[.val (.int ((p1.toUInt32 >>> ((8 : Int32) &&& 31).toUInt32).toInt32)), .val (.int (19 : Int32))] [(.int ((p1.toUInt32 >>> ((8 : Int32) &&& 31).toUInt32).toInt32))])) _
    refine XS.iconst X0.here hx rfl (hb hby d5_58) ?_
    show Steps p.tables e below (s₁.setTop (mkF m 59 #[.val (.int ((p1.toUInt32 >>> ((8 : Int32) &&& 31).toUInt32).toInt32)), .val (.int (19 : Int32))] [(.int (4 : Int32)), (.int ((p1.toUInt32 >>> ((8 : Int32) &&& 31).toUInt32).toInt32))])) _
    refine XS.iushr X0.here hx rfl (hb hby d5_59) rfl ?_
    show Steps p.tables e below (s₁.setTop (mkF m 60 #[.val (.int ((p1.toUInt32 >>> ((8 : Int32) &&& 31).toUInt32).toInt32)), .val (.int (19 : Int32))] [(.int ((((p1.toUInt32 >>> ((8 : Int32) &&& 31).toUInt32).toInt32).toUInt32 >>> ((4 : Int32) &&& 31).toUInt32).toInt32))])) _
    refine XS.istoreN X0.here hx rfl (hb hby d5_60) rfl (l' := #[.val (.int ((((p1.toUInt32 >>> ((8 : Int32) &&& 31).toUInt32).toInt32).toUInt32 >>> ((4 : Int32) &&& 31).toUInt32).toInt32)), .val (.int (19 : Int32))]) rfl ?_
    show Steps p.tables e below (s₁.setTop (mkF m 61 #[.val (.int ((((p1.toUInt32 >>> ((8 : Int32) &&& 31).toUInt32).toInt32).toUInt32 >>> ((4 : Int32) &&& 31).toUInt32).toInt32)), .val (.int (19 : Int32))] [])) _
    refine XS.iloadN X0.here hx rfl (hb hby d5_61) rfl ?_
    show Steps p.tables e below (s₁.setTop (mkF m 62 #[.val (.int ((((p1.toUInt32 >>> ((8 : Int32) &&& 31).toUInt32).toInt32).toUInt32 >>> ((4 : Int32) &&& 31).toUInt32).toInt32)), .val (.int (19 : Int32))] [(.int ((((p1.toUInt32 >>> ((8 : Int32) &&& 31).toUInt32).toInt32).toUInt32 >>> ((4 : Int32) &&& 31).toUInt32).toInt32))])) _
    refine XS.iconst X0.here hx rfl (hb hby d5_62) ?_
    show Steps p.tables e below (s₁.setTop (mkF m 63 #[.val (.int ((((p1.toUInt32 >>> ((8 : Int32) &&& 31).toUInt32).toInt32).toUInt32 >>> ((4 : Int32) &&& 31).toUInt32).toInt32)), .val (.int (19 : Int32))] [(.int (4 : Int32)), (.int ((((p1.toUInt32 >>> ((8 : Int32) &&& 31).toUInt32).toInt32).toUInt32 >>> ((4 : Int32) &&& 31).toUInt32).toInt32))])) _
    refine XS.icmpYes X0.here hx rfl (pc0 := 63) (pc' := 73) rfl (hb hby d5_63) rfl (tlt hc4).1 (by decide) (by decide) ?_
    show Steps p.tables e below (s₁.setTop (mkF m 73 #[.val (.int ((((p1.toUInt32 >>> ((8 : Int32) &&& 31).toUInt32).toInt32).toUInt32 >>> ((4 : Int32) &&& 31).toUInt32).toInt32)), .val (.int (19 : Int32))] [])) _
    refine XS.iloadN X0.here hx rfl (hb hby d5_73) rfl ?_
    show Steps p.tables e below (s₁.setTop (mkF m 74 #[.val (.int ((((p1.toUInt32 >>> ((8 : Int32) &&& 31).toUInt32).toInt32).toUInt32 >>> ((4 : Int32) &&& 31).toUInt32).toInt32)), .val (.int (19 : Int32))] [(.int (19 : Int32))])) _
    refine XS.iloadN X0.here hx rfl (hb hby d5_74) rfl ?_
    show Steps p.tables e below (s₁.setTop (mkF m 75 #[.val (.int ((((p1.toUInt32 >>> ((8 : Int32) &&& 31).toUInt32).toInt32).toUInt32 >>> ((4 : Int32) &&& 31).toUInt32).toInt32)), .val (.int (19 : Int32))] [(.int ((((p1.toUInt32 >>> ((8 : Int32) &&& 31).toUInt32).toInt32).toUInt32 >>> ((4 : Int32) &&& 31).toUInt32).toInt32)), (.int (19 : Int32))])) _
    refine XS.iconst X0.here hx rfl (hb hby d5_75) ?_
    show Steps p.tables e below (s₁.setTop (mkF m 76 #[.val (.int ((((p1.toUInt32 >>> ((8 : Int32) &&& 31).toUInt32).toInt32).toUInt32 >>> ((4 : Int32) &&& 31).toUInt32).toInt32)), .val (.int (19 : Int32))] [(.int (1 : Int32)), (.int ((((p1.toUInt32 >>> ((8 : Int32) &&& 31).toUInt32).toInt32).toUInt32 >>> ((4 : Int32) &&& 31).toUInt32).toInt32)), (.int (19 : Int32))])) _
    refine XS.iushr X0.here hx rfl (hb hby d5_76) rfl ?_
    show Steps p.tables e below (s₁.setTop (mkF m 77 #[.val (.int ((((p1.toUInt32 >>> ((8 : Int32) &&& 31).toUInt32).toInt32).toUInt32 >>> ((4 : Int32) &&& 31).toUInt32).toInt32)), .val (.int (19 : Int32))] [(.int ((((((p1.toUInt32 >>> ((8 : Int32) &&& 31).toUInt32).toInt32).toUInt32 >>> ((4 : Int32) &&& 31).toUInt32).toInt32).toUInt32 >>> ((1 : Int32) &&& 31).toUInt32).toInt32)), (.int (19 : Int32))])) _
    refine XS.isub X0.here hx rfl (hb hby d5_77) rfl ?_
    show Steps p.tables e below (s₁.setTop (mkF m 78 #[.val (.int ((((p1.toUInt32 >>> ((8 : Int32) &&& 31).toUInt32).toInt32).toUInt32 >>> ((4 : Int32) &&& 31).toUInt32).toInt32)), .val (.int (19 : Int32))] [(.int ((19 : Int32) - ((((((p1.toUInt32 >>> ((8 : Int32) &&& 31).toUInt32).toInt32).toUInt32 >>> ((4 : Int32) &&& 31).toUInt32).toInt32).toUInt32 >>> ((1 : Int32) &&& 31).toUInt32).toInt32)))])) _
    exact retI X0 hx Bd.returns (hb hby d5_78) hr
  · show Q_inlz Z p1 h0 n0 _ s₁.heap _
    rw [e0]
    exact ⟨by rw [hret], N0, rfl⟩
set_option maxRecDepth 65536 in
set_option maxHeartbeats 40000000 in
theorem rm_inlz_ttfff (l : Launch) (Z : State) (a0 : Array Value) (hw : ∀ d ∈ tables_1, d.before a0 Z = true) (ws : List Jvm.Cond) (p1 : Int32) (h0 : Heap) (n0 : Nat) (Z0 : n0 ≤ h0.size) (hc0 : (0 : Int32) < p1) (hc1 : p1 < (65536 : Int32)) (hc2 : ¬ (p1 < (256 : Int32))) (hc3 : ¬ (((p1.toUInt32 >>> ((8 : Int32) &&& 31).toUInt32).toInt32) < (16 : Int32))) (hc4 : ¬ (((((p1.toUInt32 >>> ((8 : Int32) &&& 31).toUInt32).toInt32).toUInt32 >>> ((4 : Int32) &&& 31).toUInt32).toInt32) < (4 : Int32))) (hret : (f_inlz p1) = ((17 : Int32) - ((((((((p1.toUInt32 >>> ((8 : Int32) &&& 31).toUInt32).toInt32).toUInt32 >>> ((4 : Int32) &&& 31).toUInt32).toInt32).toUInt32 >>> ((2 : Int32) &&& 31).toUInt32).toInt32).toUInt32 >>> ((1 : Int32) &&& 31).toUInt32).toInt32))) :
    MetFree l (⟨"java/lang/Integer", "numberOfLeadingZeros", "(I)I"⟩ : MethodName) (head1 (Jvm.Cond.code (⟨"java/lang/Integer", "numberOfLeadingZeros", "(I)I"⟩ : MethodName) jdk_33_method_47_code 2 (some .int) :: ws) ({ frames := 0, cells := 0, slots := 0, locals := 0 } : Room)) (fun a U => a = #[(.int p1)] ∧ Z.Warmed39 U.vm ∧ U.heap = h0) (fun _ _ _ _ _ => True) (fun _ U o U' => ∃ v L, o = .returned v ∧ Q_inlz Z p1 h0 n0 v U'.heap L ∧ FrameEnd U o U' L ({ frames := 0, cells := 0, slots := 0, locals := 0 } : Room).cells ({ frames := 0, cells := 0, slots := 0, locals := 0 } : Room).slots) := by
  refine MetFree.of_bodySF (plainFor_of_name pn_java_lang_Integer) hisR ?_
  intro p e s m args below meth c s₁ Bd hml0 hP hK
  obtain ⟨rfl, hZ, hh⟩ := hP
  have hx := Bd.exec
  have hby := Bd.bytes
  have hml : c.maxLocals = 2 := hml0
  have hown : s.vm.findClass "java/lang/Integer" = some m.cls := findClass_of_methodNamed Bd.named
  have hnm := (name_of_methodNamed Bd.named Bd.method).1
  have X0 : Stand p l e ({ frames := 0, cells := 0, slots := 0, locals := 0 } : Room) s m #[(.int p1)] below meth c s₁ [] 0 0 := Stand.of_body Bd
  have e0 : s₁.heap = h0 := by rw [← hh, Bd.state]; rfl
  have N0 := Fr.nil n0
  have pre0 : ∀ t, Steps p.tables e below (s₁.setTop (mkF m 0 #[.val (.int p1), .unset] [])) t → Steps p.tables e below (s₁.setTop (entryFrame m #[(.int p1)] 2)) t := fun t k => castTop (ef_5_I m p1) k
  obtain ⟨fs, hr, hrun, hended, hW, hsame⟩ := X0.leave (v := some (.int ((17 : Int32) - ((((((((p1.toUInt32 >>> ((8 : Int32) &&& 31).toUInt32).toInt32).toUInt32 >>> ((4 : Int32) &&& 31).toUInt32).toInt32).toUInt32 >>> ((2 : Int32) &&& 31).toUInt32).toInt32).toUInt32 >>> ((1 : Int32) &&& 31).toUInt32).toInt32)))) (fun h => by rw [Bd.returns] at h; cases h) Bd.notSynchronized
  refine ⟨_, _, pre0 _ ?_, hrun, hended, _, _, rfl, ?_, ⟨_, rfl⟩, hW, hsame.mono (by decide) (by decide)⟩
  · show Steps p.tables e below (s₁.setTop (mkF m 0 #[.val (.int p1), .unset] [])) _
    refine XS.iloadN X0.here hx rfl (hb hby d5_0) rfl ?_
    show Steps p.tables e below (s₁.setTop (mkF m 1 #[.val (.int p1), .unset] [(.int p1)])) _
    refine XS.ifYes X0.here hx rfl (pc0 := 1) (pc' := 15) rfl (hb hby d5_1) rfl ((if0 _ _).trans (tlt hc0).2.2.1) (by decide) (by decide) ?_
    show Steps p.tables e below (s₁.setTop (mkF m 15 #[.val (.int p1), .unset] [])) _
    refine XS.bipush X0.here hx rfl (hb hby d5_15) ?_
    show Steps p.tables e below (s₁.setTop (mkF m 17 #[.val (.int p1), .unset] [(.int (31 : Int32))])) _
    refine XS.istoreN X0.here hx rfl (hb hby d5_17) rfl (l' := #[.val (.int p1), .val (.int (31 : Int32))]) rfl ?_
    show Steps p.tables e below (s₁.setTop (mkF m 18 #[.val (.int p1), .val (.int (31 : Int32))] [])) _
    refine XS.iloadN X0.here hx rfl (hb hby d5_18) rfl ?_
    show Steps p.tables e below (s₁.setTop (mkF m 19 #[.val (.int p1), .val (.int (31 : Int32))] [(.int p1)])) _
    refine X0.ldcwInt hx hown (mvT hZ (hw _ (List.mem_of_getElem? (i := 26) rfl))) (g := (mkF m 19 #[.val (.int p1), .val (.int (31 : Int32))] [(.int p1)])) rfl (hb hby d5_19) _ ?_
    show Steps p.tables e below (s₁.setTop (mkF m 22 #[.val (.int p1), .val (.int (31 : Int32))] [(.int (65536 : Int32)), (.int p1)])) _
    refine XS.icmpYes X0.here hx rfl (pc0 := 22) (pc' := 33) rfl (hb hby d5_22) rfl (tlt hc1).1 (by decide) (by decide) ?_
    show Steps p.tables e below (s₁.setTop (mkF m 33 #[.val (.int p1), .val (.int (31 : Int32))] [])) _
    refine XS.iloadN X0.here hx rfl (hb hby d5_33) rfl ?_
    show Steps p.tables e below (s₁.setTop (mkF m 34 #[.val (.int p1), .val (.int (31 : Int32))] [(.int p1)])) _
    refine XS.sipush X0.here hx rfl (hb hby d5_34) ?_
    show Steps p.tables e below (s₁.setTop (mkF m 37 #[.val (.int p1), .val (.int (31 : Int32))] [(.int (256 : Int32)), (.int p1)])) _
    refine XS.icmpNo X0.here hx rfl (hb hby d5_37) rfl (flt hc2).1 ?_
    show Steps p.tables e below (s₁.setTop (mkF m 40 #[.val (.int p1), .val (.int (31 : Int32))] [])) _
    refine XS.iinc X0.here hx rfl (hb hby d5_40) rfl (l' := #[.val (.int p1), .val (.int (23 : Int32))]) rfl ?_
    show Steps p.tables e below (s₁.setTop (mkF m 43 #[.val (.int p1), .val (.int (23 : Int32))] [])) _
    refine XS.iloadN X0.here hx rfl (hb hby d5_43) rfl ?_
    show Steps p.tables e below (s₁.setTop (mkF m 44 #[.val (.int p1), .val (.int (23 : Int32))] [(.int p1)])) _
    refine XS.bipush X0.here hx rfl (hb hby d5_44) ?_
    show Steps p.tables e below (s₁.setTop (mkF m 46 #[.val (.int p1), .val (.int (23 : Int32))] [(.int (8 : Int32)), (.int p1)])) _
    refine XS.iushr X0.here hx rfl (hb hby d5_46) rfl ?_
    show Steps p.tables e below (s₁.setTop (mkF m 47 #[.val (.int p1), .val (.int (23 : Int32))] [(.int ((p1.toUInt32 >>> ((8 : Int32) &&& 31).toUInt32).toInt32))])) _
    refine XS.istoreN X0.here hx rfl (hb hby d5_47) rfl (l' := #[.val (.int ((p1.toUInt32 >>> ((8 : Int32) &&& 31).toUInt32).toInt32)), .val (.int (23 : Int32))]) rfl ?_
    show Steps p.tables e below (s₁.setTop (mkF m 48 #[.val (.int ((p1.toUInt32 >>> ((8 : Int32) &&& 31).toUInt32).toInt32)), .val (.int (23 : Int32))] [])) _
    refine XS.iloadN X0.here hx rfl (hb hby d5_48) rfl ?_
    show Steps p.tables e below (s₁.setTop (mkF m 49 #[.val (.int ((p1.toUInt32 >>> ((8 : Int32) &&& 31).toUInt32).toInt32)), .val (.int (23 : Int32))] [(.int ((p1.toUInt32 >>> ((8 : Int32) &&& 31).toUInt32).toInt32))])) _
    refine XS.bipush X0.here hx rfl (hb hby d5_49) ?_
    show Steps p.tables e below (s₁.setTop (mkF m 51 #[.val (.int ((p1.toUInt32 >>> ((8 : Int32) &&& 31).toUInt32).toInt32)), .val (.int (23 : Int32))] [(.int (16 : Int32)), (.int ((p1.toUInt32 >>> ((8 : Int32) &&& 31).toUInt32).toInt32))])) _
    refine XS.icmpNo X0.here hx rfl (hb hby d5_51) rfl (flt hc3).1 ?_
    show Steps p.tables e below (s₁.setTop (mkF m 54 #[.val (.int ((p1.toUInt32 >>> ((8 : Int32) &&& 31).toUInt32).toInt32)), .val (.int (23 : Int32))] [])) _
    refine XS.iinc X0.here hx rfl (hb hby d5_54) rfl (l' := #[.val (.int ((p1.toUInt32 >>> ((8 : Int32) &&& 31).toUInt32).toInt32)), .val (.int (19 : Int32))]) rfl ?_
    show Steps p.tables e below (s₁.setTop (mkF m 57 #[.val (.int ((p1.toUInt32 >>> ((8 : Int32) &&& 31).toUInt32).toInt32)), .val (.int (19 : Int32))] [])) _
    refine XS.iloadN X0.here hx rfl (hb hby d5_57) rfl ?_
    show Steps p.tables e below (s₁.setTop (mkF m 58 #[.val (.int ((p1.toUInt32 >>> ((8 : Int32) &&& 31).toUInt32).toInt32)), .val (.int (19 : Int32))] [(.int ((p1.toUInt32 >>> ((8 : Int32) &&& 31).toUInt32).toInt32))])) _
    refine XS.iconst X0.here hx rfl (hb hby d5_58) ?_
    show Steps p.tables e below (s₁.setTop (mkF m 59 #[.val (.int ((p1.toUInt32 >>> ((8 : Int32) &&& 31).toUInt32).toInt32)), .val (.int (19 : Int32))] [(.int (4 : Int32)), (.int ((p1.toUInt32 >>> ((8 : Int32) &&& 31).toUInt32).toInt32))])) _
    refine XS.iushr X0.here hx rfl (hb hby d5_59) rfl ?_
    show Steps p.tables e below (s₁.setTop (mkF m 60 #[.val (.int ((p1.toUInt32 >>> ((8 : Int32) &&& 31).toUInt32).toInt32)), .val (.int (19 : Int32))] [(.int ((((p1.toUInt32 >>> ((8 : Int32) &&& 31).toUInt32).toInt32).toUInt32 >>> ((4 : Int32) &&& 31).toUInt32).toInt32))])) _
    refine XS.istoreN X0.here hx rfl (hb hby d5_60) rfl (l' := #[.val (.int ((((p1.toUInt32 >>> ((8 : Int32) &&& 31).toUInt32).toInt32).toUInt32 >>> ((4 : Int32) &&& 31).toUInt32).toInt32)), .val (.int (19 : Int32))]) rfl ?_
    show Steps p.tables e below (s₁.setTop (mkF m 61 #[.val (.int ((((p1.toUInt32 >>> ((8 : Int32) &&& 31).toUInt32).toInt32).toUInt32 >>> ((4 : Int32) &&& 31).toUInt32).toInt32)), .val (.int (19 : Int32))] [])) _
    refine XS.iloadN X0.here hx rfl (hb hby d5_61) rfl ?_
    show Steps p.tables e below (s₁.setTop (mkF m 62 #[.val (.int ((((p1.toUInt32 >>> ((8 : Int32) &&& 31).toUInt32).toInt32).toUInt32 >>> ((4 : Int32) &&& 31).toUInt32).toInt32)), .val (.int (19 : Int32))] [(.int ((((p1.toUInt32 >>> ((8 : Int32) &&& 31).toUInt32).toInt32).toUInt32 >>> ((4 : Int32) &&& 31).toUInt32).toInt32))])) _
    refine XS.iconst X0.here hx rfl (hb hby d5_62) ?_
    show Steps p.tables e below (s₁.setTop (mkF m 63 #[.val (.int ((((p1.toUInt32 >>> ((8 : Int32) &&& 31).toUInt32).toInt32).toUInt32 >>> ((4 : Int32) &&& 31).toUInt32).toInt32)), .val (.int (19 : Int32))] [(.int (4 : Int32)), (.int ((((p1.toUInt32 >>> ((8 : Int32) &&& 31).toUInt32).toInt32).toUInt32 >>> ((4 : Int32) &&& 31).toUInt32).toInt32))])) _
    refine XS.icmpNo X0.here hx rfl (hb hby d5_63) rfl (flt hc4).1 ?_
    show Steps p.tables e below (s₁.setTop (mkF m 66 #[.val (.int ((((p1.toUInt32 >>> ((8 : Int32) &&& 31).toUInt32).toInt32).toUInt32 >>> ((4 : Int32) &&& 31).toUInt32).toInt32)), .val (.int (19 : Int32))] [])) _
    refine XS.iinc X0.here hx rfl (hb hby d5_66) rfl (l' := #[.val (.int ((((p1.toUInt32 >>> ((8 : Int32) &&& 31).toUInt32).toInt32).toUInt32 >>> ((4 : Int32) &&& 31).toUInt32).toInt32)), .val (.int (17 : Int32))]) rfl ?_
    show Steps p.tables e below (s₁.setTop (mkF m 69 #[.val (.int ((((p1.toUInt32 >>> ((8 : Int32) &&& 31).toUInt32).toInt32).toUInt32 >>> ((4 : Int32) &&& 31).toUInt32).toInt32)), .val (.int (17 : Int32))] [])) _
    refine XS.iloadN X0.here hx rfl (hb hby d5_69) rfl ?_
    show Steps p.tables e below (s₁.setTop (mkF m 70 #[.val (.int ((((p1.toUInt32 >>> ((8 : Int32) &&& 31).toUInt32).toInt32).toUInt32 >>> ((4 : Int32) &&& 31).toUInt32).toInt32)), .val (.int (17 : Int32))] [(.int ((((p1.toUInt32 >>> ((8 : Int32) &&& 31).toUInt32).toInt32).toUInt32 >>> ((4 : Int32) &&& 31).toUInt32).toInt32))])) _
    refine XS.iconst X0.here hx rfl (hb hby d5_70) ?_
    show Steps p.tables e below (s₁.setTop (mkF m 71 #[.val (.int ((((p1.toUInt32 >>> ((8 : Int32) &&& 31).toUInt32).toInt32).toUInt32 >>> ((4 : Int32) &&& 31).toUInt32).toInt32)), .val (.int (17 : Int32))] [(.int (2 : Int32)), (.int ((((p1.toUInt32 >>> ((8 : Int32) &&& 31).toUInt32).toInt32).toUInt32 >>> ((4 : Int32) &&& 31).toUInt32).toInt32))])) _
    refine XS.iushr X0.here hx rfl (hb hby d5_71) rfl ?_
    show Steps p.tables e below (s₁.setTop (mkF m 72 #[.val (.int ((((p1.toUInt32 >>> ((8 : Int32) &&& 31).toUInt32).toInt32).toUInt32 >>> ((4 : Int32) &&& 31).toUInt32).toInt32)), .val (.int (17 : Int32))] [(.int ((((((p1.toUInt32 >>> ((8 : Int32) &&& 31).toUInt32).toInt32).toUInt32 >>> ((4 : Int32) &&& 31).toUInt32).toInt32).toUInt32 >>> ((2 : Int32) &&& 31).toUInt32).toInt32))])) _
    refine XS.istoreN X0.here hx rfl (hb hby d5_72) rfl (l' := #[.val (.int ((((((p1.toUInt32 >>> ((8 : Int32) &&& 31).toUInt32).toInt32).toUInt32 >>> ((4 : Int32) &&& 31).toUInt32).toInt32).toUInt32 >>> ((2 : Int32) &&& 31).toUInt32).toInt32)), .val (.int (17 : Int32))]) rfl ?_
    show Steps p.tables e below (s₁.setTop (mkF m 73 #[.val (.int ((((((p1.toUInt32 >>> ((8 : Int32) &&& 31).toUInt32).toInt32).toUInt32 >>> ((4 : Int32) &&& 31).toUInt32).toInt32).toUInt32 >>> ((2 : Int32) &&& 31).toUInt32).toInt32)), .val (.int (17 : Int32))] [])) _
    refine XS.iloadN X0.here hx rfl (hb hby d5_73) rfl ?_
    show Steps p.tables e below (s₁.setTop (mkF m 74 #[.val (.int ((((((p1.toUInt32 >>> ((8 : Int32) &&& 31).toUInt32).toInt32).toUInt32 >>> ((4 : Int32) &&& 31).toUInt32).toInt32).toUInt32 >>> ((2 : Int32) &&& 31).toUInt32).toInt32)), .val (.int (17 : Int32))] [(.int (17 : Int32))])) _
    refine XS.iloadN X0.here hx rfl (hb hby d5_74) rfl ?_
    show Steps p.tables e below (s₁.setTop (mkF m 75 #[.val (.int ((((((p1.toUInt32 >>> ((8 : Int32) &&& 31).toUInt32).toInt32).toUInt32 >>> ((4 : Int32) &&& 31).toUInt32).toInt32).toUInt32 >>> ((2 : Int32) &&& 31).toUInt32).toInt32)), .val (.int (17 : Int32))] [(.int ((((((p1.toUInt32 >>> ((8 : Int32) &&& 31).toUInt32).toInt32).toUInt32 >>> ((4 : Int32) &&& 31).toUInt32).toInt32).toUInt32 >>> ((2 : Int32) &&& 31).toUInt32).toInt32)), (.int (17 : Int32))])) _
    refine XS.iconst X0.here hx rfl (hb hby d5_75) ?_
    show Steps p.tables e below (s₁.setTop (mkF m 76 #[.val (.int ((((((p1.toUInt32 >>> ((8 : Int32) &&& 31).toUInt32).toInt32).toUInt32 >>> ((4 : Int32) &&& 31).toUInt32).toInt32).toUInt32 >>> ((2 : Int32) &&& 31).toUInt32).toInt32)), .val (.int (17 : Int32))] [(.int (1 : Int32)), (.int ((((((p1.toUInt32 >>> ((8 : Int32) &&& 31).toUInt32).toInt32).toUInt32 >>> ((4 : Int32) &&& 31).toUInt32).toInt32).toUInt32 >>> ((2 : Int32) &&& 31).toUInt32).toInt32)), (.int (17 : Int32))])) _
    refine XS.iushr X0.here hx rfl (hb hby d5_76) rfl ?_
    show Steps p.tables e below (s₁.setTop (mkF m 77 #[.val (.int ((((((p1.toUInt32 >>> ((8 : Int32) &&& 31).toUInt32).toInt32).toUInt32 >>> ((4 : Int32) &&& 31).toUInt32).toInt32).toUInt32 >>> ((2 : Int32) &&& 31).toUInt32).toInt32)), .val (.int (17 : Int32))] [(.int ((((((((p1.toUInt32 >>> ((8 : Int32) &&& 31).toUInt32).toInt32).toUInt32 >>> ((4 : Int32) &&& 31).toUInt32).toInt32).toUInt32 >>> ((2 : Int32) &&& 31).toUInt32).toInt32).toUInt32 >>> ((1 : Int32) &&& 31).toUInt32).toInt32)), (.int (17 : Int32))])) _
    refine XS.isub X0.here hx rfl (hb hby d5_77) rfl ?_
    show Steps p.tables e below (s₁.setTop (mkF m 78 #[.val (.int ((((((p1.toUInt32 >>> ((8 : Int32) &&& 31).toUInt32).toInt32).toUInt32 >>> ((4 : Int32) &&& 31).toUInt32).toInt32).toUInt32 >>> ((2 : Int32) &&& 31).toUInt32).toInt32)), .val (.int (17 : Int32))] [(.int ((17 : Int32) - ((((((((p1.toUInt32 >>> ((8 : Int32) &&& 31).toUInt32).toInt32).toUInt32 >>> ((4 : Int32) &&& 31).toUInt32).toInt32).toUInt32 >>> ((2 : Int32) &&& 31).toUInt32).toInt32).toUInt32 >>> ((1 : Int32) &&& 31).toUInt32).toInt32)))])) _
    exact retI X0 hx Bd.returns (hb hby d5_78) hr
  · show Q_inlz Z p1 h0 n0 _ s₁.heap _
    rw [e0]
    exact ⟨by rw [hret], N0, rfl⟩
set_option maxRecDepth 65536 in
set_option maxHeartbeats 40000000 in
theorem rm_inlz_tfttt (l : Launch) (Z : State) (a0 : Array Value) (hw : ∀ d ∈ tables_1, d.before a0 Z = true) (ws : List Jvm.Cond) (p1 : Int32) (h0 : Heap) (n0 : Nat) (Z0 : n0 ≤ h0.size) (hc0 : (0 : Int32) < p1) (hc1 : ¬ (p1 < (65536 : Int32))) (hc2 : ((p1.toUInt32 >>> ((16 : Int32) &&& 31).toUInt32).toInt32) < (256 : Int32)) (hc3 : ((p1.toUInt32 >>> ((16 : Int32) &&& 31).toUInt32).toInt32) < (16 : Int32)) (hc4 : ((p1.toUInt32 >>> ((16 : Int32) &&& 31).toUInt32).toInt32) < (4 : Int32)) (hret : (f_inlz p1) = ((15 : Int32) - ((((p1.toUInt32 >>> ((16 : Int32) &&& 31).toUInt32).toInt32).toUInt32 >>> ((1 : Int32) &&& 31).toUInt32).toInt32))) :
    MetFree l (⟨"java/lang/Integer", "numberOfLeadingZeros", "(I)I"⟩ : MethodName) (head1 (Jvm.Cond.code (⟨"java/lang/Integer", "numberOfLeadingZeros", "(I)I"⟩ : MethodName) jdk_33_method_47_code 2 (some .int) :: ws) ({ frames := 0, cells := 0, slots := 0, locals := 0 } : Room)) (fun a U => a = #[(.int p1)] ∧ Z.Warmed39 U.vm ∧ U.heap = h0) (fun _ _ _ _ _ => True) (fun _ U o U' => ∃ v L, o = .returned v ∧ Q_inlz Z p1 h0 n0 v U'.heap L ∧ FrameEnd U o U' L ({ frames := 0, cells := 0, slots := 0, locals := 0 } : Room).cells ({ frames := 0, cells := 0, slots := 0, locals := 0 } : Room).slots) := by
  refine MetFree.of_bodySF (plainFor_of_name pn_java_lang_Integer) hisR ?_
  intro p e s m args below meth c s₁ Bd hml0 hP hK
  obtain ⟨rfl, hZ, hh⟩ := hP
  have hx := Bd.exec
  have hby := Bd.bytes
  have hml : c.maxLocals = 2 := hml0
  have hown : s.vm.findClass "java/lang/Integer" = some m.cls := findClass_of_methodNamed Bd.named
  have hnm := (name_of_methodNamed Bd.named Bd.method).1
  have X0 : Stand p l e ({ frames := 0, cells := 0, slots := 0, locals := 0 } : Room) s m #[(.int p1)] below meth c s₁ [] 0 0 := Stand.of_body Bd
  have e0 : s₁.heap = h0 := by rw [← hh, Bd.state]; rfl
  have N0 := Fr.nil n0
  have pre0 : ∀ t, Steps p.tables e below (s₁.setTop (mkF m 0 #[.val (.int p1), .unset] [])) t → Steps p.tables e below (s₁.setTop (entryFrame m #[(.int p1)] 2)) t := fun t k => castTop (ef_5_I m p1) k
  obtain ⟨fs, hr, hrun, hended, hW, hsame⟩ := X0.leave (v := some (.int ((15 : Int32) - ((((p1.toUInt32 >>> ((16 : Int32) &&& 31).toUInt32).toInt32).toUInt32 >>> ((1 : Int32) &&& 31).toUInt32).toInt32)))) (fun h => by rw [Bd.returns] at h; cases h) Bd.notSynchronized
  refine ⟨_, _, pre0 _ ?_, hrun, hended, _, _, rfl, ?_, ⟨_, rfl⟩, hW, hsame.mono (by decide) (by decide)⟩
  · show Steps p.tables e below (s₁.setTop (mkF m 0 #[.val (.int p1), .unset] [])) _
    refine XS.iloadN X0.here hx rfl (hb hby d5_0) rfl ?_
    show Steps p.tables e below (s₁.setTop (mkF m 1 #[.val (.int p1), .unset] [(.int p1)])) _
    refine XS.ifYes X0.here hx rfl (pc0 := 1) (pc' := 15) rfl (hb hby d5_1) rfl ((if0 _ _).trans (tlt hc0).2.2.1) (by decide) (by decide) ?_
    show Steps p.tables e below (s₁.setTop (mkF m 15 #[.val (.int p1), .unset] [])) _
    refine XS.bipush X0.here hx rfl (hb hby d5_15) ?_
    show Steps p.tables e below (s₁.setTop (mkF m 17 #[.val (.int p1), .unset] [(.int (31 : Int32))])) _
    refine XS.istoreN X0.here hx rfl (hb hby d5_17) rfl (l' := #[.val (.int p1), .val (.int (31 : Int32))]) rfl ?_
    show Steps p.tables e below (s₁.setTop (mkF m 18 #[.val (.int p1), .val (.int (31 : Int32))] [])) _
    refine XS.iloadN X0.here hx rfl (hb hby d5_18) rfl ?_
    show Steps p.tables e below (s₁.setTop (mkF m 19 #[.val (.int p1), .val (.int (31 : Int32))] [(.int p1)])) _
    refine X0.ldcwInt hx hown (mvT hZ (hw _ (List.mem_of_getElem? (i := 26) rfl))) (g := (mkF m 19 #[.val (.int p1), .val (.int (31 : Int32))] [(.int p1)])) rfl (hb hby d5_19) _ ?_
    show Steps p.tables e below (s₁.setTop (mkF m 22 #[.val (.int p1), .val (.int (31 : Int32))] [(.int (65536 : Int32)), (.int p1)])) _
    refine XS.icmpNo X0.here hx rfl (hb hby d5_22) rfl (flt hc1).1 ?_
    show Steps p.tables e below (s₁.setTop (mkF m 25 #[.val (.int p1), .val (.int (31 : Int32))] [])) _
    refine XS.iinc X0.here hx rfl (hb hby d5_25) rfl (l' := #[.val (.int p1), .val (.int (15 : Int32))]) rfl ?_
    show Steps p.tables e below (s₁.setTop (mkF m 28 #[.val (.int p1), .val (.int (15 : Int32))] [])) _
    refine XS.iloadN X0.here hx rfl (hb hby d5_28) rfl ?_
    show Steps p.tables e below (s₁.setTop (mkF m 29 #[.val (.int p1), .val (.int (15 : Int32))] [(.int p1)])) _
    refine XS.bipush X0.here hx rfl (hb hby d5_29) ?_
    show Steps p.tables e below (s₁.setTop (mkF m 31 #[.val (.int p1), .val (.int (15 : Int32))] [(.int (16 : Int32)), (.int p1)])) _
    refine XS.iushr X0.here hx rfl (hb hby d5_31) rfl ?_
    show Steps p.tables e below (s₁.setTop (mkF m 32 #[.val (.int p1), .val (.int (15 : Int32))] [(.int ((p1.toUInt32 >>> ((16 : Int32) &&& 31).toUInt32).toInt32))])) _
    refine XS.istoreN X0.here hx rfl (hb hby d5_32) rfl (l' := #[.val (.int ((p1.toUInt32 >>> ((16 : Int32) &&& 31).toUInt32).toInt32)), .val (.int (15 : Int32))]) rfl ?_
    show Steps p.tables e below (s₁.setTop (mkF m 33 #[.val (.int ((p1.toUInt32 >>> ((16 : Int32) &&& 31).toUInt32).toInt32)), .val (.int (15 : Int32))] [])) _
    refine XS.iloadN X0.here hx rfl (hb hby d5_33) rfl ?_
    show Steps p.tables e below (s₁.setTop (mkF m 34 #[.val (.int ((p1.toUInt32 >>> ((16 : Int32) &&& 31).toUInt32).toInt32)), .val (.int (15 : Int32))] [(.int ((p1.toUInt32 >>> ((16 : Int32) &&& 31).toUInt32).toInt32))])) _
    refine XS.sipush X0.here hx rfl (hb hby d5_34) ?_
    show Steps p.tables e below (s₁.setTop (mkF m 37 #[.val (.int ((p1.toUInt32 >>> ((16 : Int32) &&& 31).toUInt32).toInt32)), .val (.int (15 : Int32))] [(.int (256 : Int32)), (.int ((p1.toUInt32 >>> ((16 : Int32) &&& 31).toUInt32).toInt32))])) _
    refine XS.icmpYes X0.here hx rfl (pc0 := 37) (pc' := 48) rfl (hb hby d5_37) rfl (tlt hc2).1 (by decide) (by decide) ?_
    show Steps p.tables e below (s₁.setTop (mkF m 48 #[.val (.int ((p1.toUInt32 >>> ((16 : Int32) &&& 31).toUInt32).toInt32)), .val (.int (15 : Int32))] [])) _
    refine XS.iloadN X0.here hx rfl (hb hby d5_48) rfl ?_
    show Steps p.tables e below (s₁.setTop (mkF m 49 #[.val (.int ((p1.toUInt32 >>> ((16 : Int32) &&& 31).toUInt32).toInt32)), .val (.int (15 : Int32))] [(.int ((p1.toUInt32 >>> ((16 : Int32) &&& 31).toUInt32).toInt32))])) _
    refine XS.bipush X0.here hx rfl (hb hby d5_49) ?_
    show Steps p.tables e below (s₁.setTop (mkF m 51 #[.val (.int ((p1.toUInt32 >>> ((16 : Int32) &&& 31).toUInt32).toInt32)), .val (.int (15 : Int32))] [(.int (16 : Int32)), (.int ((p1.toUInt32 >>> ((16 : Int32) &&& 31).toUInt32).toInt32))])) _
    refine XS.icmpYes X0.here hx rfl (pc0 := 51) (pc' := 61) rfl (hb hby d5_51) rfl (tlt hc3).1 (by decide) (by decide) ?_
    show Steps p.tables e below (s₁.setTop (mkF m 61 #[.val (.int ((p1.toUInt32 >>> ((16 : Int32) &&& 31).toUInt32).toInt32)), .val (.int (15 : Int32))] [])) _
    refine XS.iloadN X0.here hx rfl (hb hby d5_61) rfl ?_
    show Steps p.tables e below (s₁.setTop (mkF m 62 #[.val (.int ((p1.toUInt32 >>> ((16 : Int32) &&& 31).toUInt32).toInt32)), .val (.int (15 : Int32))] [(.int ((p1.toUInt32 >>> ((16 : Int32) &&& 31).toUInt32).toInt32))])) _
    refine XS.iconst X0.here hx rfl (hb hby d5_62) ?_
    show Steps p.tables e below (s₁.setTop (mkF m 63 #[.val (.int ((p1.toUInt32 >>> ((16 : Int32) &&& 31).toUInt32).toInt32)), .val (.int (15 : Int32))] [(.int (4 : Int32)), (.int ((p1.toUInt32 >>> ((16 : Int32) &&& 31).toUInt32).toInt32))])) _
    refine XS.icmpYes X0.here hx rfl (pc0 := 63) (pc' := 73) rfl (hb hby d5_63) rfl (tlt hc4).1 (by decide) (by decide) ?_
    show Steps p.tables e below (s₁.setTop (mkF m 73 #[.val (.int ((p1.toUInt32 >>> ((16 : Int32) &&& 31).toUInt32).toInt32)), .val (.int (15 : Int32))] [])) _
    refine XS.iloadN X0.here hx rfl (hb hby d5_73) rfl ?_
    show Steps p.tables e below (s₁.setTop (mkF m 74 #[.val (.int ((p1.toUInt32 >>> ((16 : Int32) &&& 31).toUInt32).toInt32)), .val (.int (15 : Int32))] [(.int (15 : Int32))])) _
    refine XS.iloadN X0.here hx rfl (hb hby d5_74) rfl ?_
    show Steps p.tables e below (s₁.setTop (mkF m 75 #[.val (.int ((p1.toUInt32 >>> ((16 : Int32) &&& 31).toUInt32).toInt32)), .val (.int (15 : Int32))] [(.int ((p1.toUInt32 >>> ((16 : Int32) &&& 31).toUInt32).toInt32)), (.int (15 : Int32))])) _
    refine XS.iconst X0.here hx rfl (hb hby d5_75) ?_
    show Steps p.tables e below (s₁.setTop (mkF m 76 #[.val (.int ((p1.toUInt32 >>> ((16 : Int32) &&& 31).toUInt32).toInt32)), .val (.int (15 : Int32))] [(.int (1 : Int32)), (.int ((p1.toUInt32 >>> ((16 : Int32) &&& 31).toUInt32).toInt32)), (.int (15 : Int32))])) _
    refine XS.iushr X0.here hx rfl (hb hby d5_76) rfl ?_
    show Steps p.tables e below (s₁.setTop (mkF m 77 #[.val (.int ((p1.toUInt32 >>> ((16 : Int32) &&& 31).toUInt32).toInt32)), .val (.int (15 : Int32))] [(.int ((((p1.toUInt32 >>> ((16 : Int32) &&& 31).toUInt32).toInt32).toUInt32 >>> ((1 : Int32) &&& 31).toUInt32).toInt32)), (.int (15 : Int32))])) _
    refine XS.isub X0.here hx rfl (hb hby d5_77) rfl ?_
    show Steps p.tables e below (s₁.setTop (mkF m 78 #[.val (.int ((p1.toUInt32 >>> ((16 : Int32) &&& 31).toUInt32).toInt32)), .val (.int (15 : Int32))] [(.int ((15 : Int32) - ((((p1.toUInt32 >>> ((16 : Int32) &&& 31).toUInt32).toInt32).toUInt32 >>> ((1 : Int32) &&& 31).toUInt32).toInt32)))])) _
    exact retI X0 hx Bd.returns (hb hby d5_78) hr
  · show Q_inlz Z p1 h0 n0 _ s₁.heap _
    rw [e0]
    exact ⟨by rw [hret], N0, rfl⟩
set_option maxRecDepth 65536 in
set_option maxHeartbeats 40000000 in
theorem rm_inlz_tfttf (l : Launch) (Z : State) (a0 : Array Value) (hw : ∀ d ∈ tables_1, d.before a0 Z = true) (ws : List Jvm.Cond) (p1 : Int32) (h0 : Heap) (n0 : Nat) (Z0 : n0 ≤ h0.size) (hc0 : (0 : Int32) < p1) (hc1 : ¬ (p1 < (65536 : Int32))) (hc2 : ((p1.toUInt32 >>> ((16 : Int32) &&& 31).toUInt32).toInt32) < (256 : Int32)) (hc3 : ((p1.toUInt32 >>> ((16 : Int32) &&& 31).toUInt32).toInt32) < (16 : Int32)) (hc4 : ¬ (((p1.toUInt32 >>> ((16 : Int32) &&& 31).toUInt32).toInt32) < (4 : Int32))) (hret : (f_inlz p1) = ((13 : Int32) - ((((((p1.toUInt32 >>> ((16 : Int32) &&& 31).toUInt32).toInt32).toUInt32 >>> ((2 : Int32) &&& 31).toUInt32).toInt32).toUInt32 >>> ((1 : Int32) &&& 31).toUInt32).toInt32))) :
    MetFree l (⟨"java/lang/Integer", "numberOfLeadingZeros", "(I)I"⟩ : MethodName) (head1 (Jvm.Cond.code (⟨"java/lang/Integer", "numberOfLeadingZeros", "(I)I"⟩ : MethodName) jdk_33_method_47_code 2 (some .int) :: ws) ({ frames := 0, cells := 0, slots := 0, locals := 0 } : Room)) (fun a U => a = #[(.int p1)] ∧ Z.Warmed39 U.vm ∧ U.heap = h0) (fun _ _ _ _ _ => True) (fun _ U o U' => ∃ v L, o = .returned v ∧ Q_inlz Z p1 h0 n0 v U'.heap L ∧ FrameEnd U o U' L ({ frames := 0, cells := 0, slots := 0, locals := 0 } : Room).cells ({ frames := 0, cells := 0, slots := 0, locals := 0 } : Room).slots) := by
  refine MetFree.of_bodySF (plainFor_of_name pn_java_lang_Integer) hisR ?_
  intro p e s m args below meth c s₁ Bd hml0 hP hK
  obtain ⟨rfl, hZ, hh⟩ := hP
  have hx := Bd.exec
  have hby := Bd.bytes
  have hml : c.maxLocals = 2 := hml0
  have hown : s.vm.findClass "java/lang/Integer" = some m.cls := findClass_of_methodNamed Bd.named
  have hnm := (name_of_methodNamed Bd.named Bd.method).1
  have X0 : Stand p l e ({ frames := 0, cells := 0, slots := 0, locals := 0 } : Room) s m #[(.int p1)] below meth c s₁ [] 0 0 := Stand.of_body Bd
  have e0 : s₁.heap = h0 := by rw [← hh, Bd.state]; rfl
  have N0 := Fr.nil n0
  have pre0 : ∀ t, Steps p.tables e below (s₁.setTop (mkF m 0 #[.val (.int p1), .unset] [])) t → Steps p.tables e below (s₁.setTop (entryFrame m #[(.int p1)] 2)) t := fun t k => castTop (ef_5_I m p1) k
  obtain ⟨fs, hr, hrun, hended, hW, hsame⟩ := X0.leave (v := some (.int ((13 : Int32) - ((((((p1.toUInt32 >>> ((16 : Int32) &&& 31).toUInt32).toInt32).toUInt32 >>> ((2 : Int32) &&& 31).toUInt32).toInt32).toUInt32 >>> ((1 : Int32) &&& 31).toUInt32).toInt32)))) (fun h => by rw [Bd.returns] at h; cases h) Bd.notSynchronized
  refine ⟨_, _, pre0 _ ?_, hrun, hended, _, _, rfl, ?_, ⟨_, rfl⟩, hW, hsame.mono (by decide) (by decide)⟩
  · show Steps p.tables e below (s₁.setTop (mkF m 0 #[.val (.int p1), .unset] [])) _
    refine XS.iloadN X0.here hx rfl (hb hby d5_0) rfl ?_
    show Steps p.tables e below (s₁.setTop (mkF m 1 #[.val (.int p1), .unset] [(.int p1)])) _
    refine XS.ifYes X0.here hx rfl (pc0 := 1) (pc' := 15) rfl (hb hby d5_1) rfl ((if0 _ _).trans (tlt hc0).2.2.1) (by decide) (by decide) ?_
    show Steps p.tables e below (s₁.setTop (mkF m 15 #[.val (.int p1), .unset] [])) _
    refine XS.bipush X0.here hx rfl (hb hby d5_15) ?_
    show Steps p.tables e below (s₁.setTop (mkF m 17 #[.val (.int p1), .unset] [(.int (31 : Int32))])) _
    refine XS.istoreN X0.here hx rfl (hb hby d5_17) rfl (l' := #[.val (.int p1), .val (.int (31 : Int32))]) rfl ?_
    show Steps p.tables e below (s₁.setTop (mkF m 18 #[.val (.int p1), .val (.int (31 : Int32))] [])) _
    refine XS.iloadN X0.here hx rfl (hb hby d5_18) rfl ?_
    show Steps p.tables e below (s₁.setTop (mkF m 19 #[.val (.int p1), .val (.int (31 : Int32))] [(.int p1)])) _
    refine X0.ldcwInt hx hown (mvT hZ (hw _ (List.mem_of_getElem? (i := 26) rfl))) (g := (mkF m 19 #[.val (.int p1), .val (.int (31 : Int32))] [(.int p1)])) rfl (hb hby d5_19) _ ?_
    show Steps p.tables e below (s₁.setTop (mkF m 22 #[.val (.int p1), .val (.int (31 : Int32))] [(.int (65536 : Int32)), (.int p1)])) _
    refine XS.icmpNo X0.here hx rfl (hb hby d5_22) rfl (flt hc1).1 ?_
    show Steps p.tables e below (s₁.setTop (mkF m 25 #[.val (.int p1), .val (.int (31 : Int32))] [])) _
    refine XS.iinc X0.here hx rfl (hb hby d5_25) rfl (l' := #[.val (.int p1), .val (.int (15 : Int32))]) rfl ?_
    show Steps p.tables e below (s₁.setTop (mkF m 28 #[.val (.int p1), .val (.int (15 : Int32))] [])) _
    refine XS.iloadN X0.here hx rfl (hb hby d5_28) rfl ?_
    show Steps p.tables e below (s₁.setTop (mkF m 29 #[.val (.int p1), .val (.int (15 : Int32))] [(.int p1)])) _
    refine XS.bipush X0.here hx rfl (hb hby d5_29) ?_
    show Steps p.tables e below (s₁.setTop (mkF m 31 #[.val (.int p1), .val (.int (15 : Int32))] [(.int (16 : Int32)), (.int p1)])) _
    refine XS.iushr X0.here hx rfl (hb hby d5_31) rfl ?_
    show Steps p.tables e below (s₁.setTop (mkF m 32 #[.val (.int p1), .val (.int (15 : Int32))] [(.int ((p1.toUInt32 >>> ((16 : Int32) &&& 31).toUInt32).toInt32))])) _
    refine XS.istoreN X0.here hx rfl (hb hby d5_32) rfl (l' := #[.val (.int ((p1.toUInt32 >>> ((16 : Int32) &&& 31).toUInt32).toInt32)), .val (.int (15 : Int32))]) rfl ?_
    show Steps p.tables e below (s₁.setTop (mkF m 33 #[.val (.int ((p1.toUInt32 >>> ((16 : Int32) &&& 31).toUInt32).toInt32)), .val (.int (15 : Int32))] [])) _
    refine XS.iloadN X0.here hx rfl (hb hby d5_33) rfl ?_
    show Steps p.tables e below (s₁.setTop (mkF m 34 #[.val (.int ((p1.toUInt32 >>> ((16 : Int32) &&& 31).toUInt32).toInt32)), .val (.int (15 : Int32))] [(.int ((p1.toUInt32 >>> ((16 : Int32) &&& 31).toUInt32).toInt32))])) _
    refine XS.sipush X0.here hx rfl (hb hby d5_34) ?_
    show Steps p.tables e below (s₁.setTop (mkF m 37 #[.val (.int ((p1.toUInt32 >>> ((16 : Int32) &&& 31).toUInt32).toInt32)), .val (.int (15 : Int32))] [(.int (256 : Int32)), (.int ((p1.toUInt32 >>> ((16 : Int32) &&& 31).toUInt32).toInt32))])) _
    refine XS.icmpYes X0.here hx rfl (pc0 := 37) (pc' := 48) rfl (hb hby d5_37) rfl (tlt hc2).1 (by decide) (by decide) ?_
    show Steps p.tables e below (s₁.setTop (mkF m 48 #[.val (.int ((p1.toUInt32 >>> ((16 : Int32) &&& 31).toUInt32).toInt32)), .val (.int (15 : Int32))] [])) _
    refine XS.iloadN X0.here hx rfl (hb hby d5_48) rfl ?_
    show Steps p.tables e below (s₁.setTop (mkF m 49 #[.val (.int ((p1.toUInt32 >>> ((16 : Int32) &&& 31).toUInt32).toInt32)), .val (.int (15 : Int32))] [(.int ((p1.toUInt32 >>> ((16 : Int32) &&& 31).toUInt32).toInt32))])) _
    refine XS.bipush X0.here hx rfl (hb hby d5_49) ?_
    show Steps p.tables e below (s₁.setTop (mkF m 51 #[.val (.int ((p1.toUInt32 >>> ((16 : Int32) &&& 31).toUInt32).toInt32)), .val (.int (15 : Int32))] [(.int (16 : Int32)), (.int ((p1.toUInt32 >>> ((16 : Int32) &&& 31).toUInt32).toInt32))])) _
    refine XS.icmpYes X0.here hx rfl (pc0 := 51) (pc' := 61) rfl (hb hby d5_51) rfl (tlt hc3).1 (by decide) (by decide) ?_
    show Steps p.tables e below (s₁.setTop (mkF m 61 #[.val (.int ((p1.toUInt32 >>> ((16 : Int32) &&& 31).toUInt32).toInt32)), .val (.int (15 : Int32))] [])) _
    refine XS.iloadN X0.here hx rfl (hb hby d5_61) rfl ?_
    show Steps p.tables e below (s₁.setTop (mkF m 62 #[.val (.int ((p1.toUInt32 >>> ((16 : Int32) &&& 31).toUInt32).toInt32)), .val (.int (15 : Int32))] [(.int ((p1.toUInt32 >>> ((16 : Int32) &&& 31).toUInt32).toInt32))])) _
    refine XS.iconst X0.here hx rfl (hb hby d5_62) ?_
    show Steps p.tables e below (s₁.setTop (mkF m 63 #[.val (.int ((p1.toUInt32 >>> ((16 : Int32) &&& 31).toUInt32).toInt32)), .val (.int (15 : Int32))] [(.int (4 : Int32)), (.int ((p1.toUInt32 >>> ((16 : Int32) &&& 31).toUInt32).toInt32))])) _
    refine XS.icmpNo X0.here hx rfl (hb hby d5_63) rfl (flt hc4).1 ?_
    show Steps p.tables e below (s₁.setTop (mkF m 66 #[.val (.int ((p1.toUInt32 >>> ((16 : Int32) &&& 31).toUInt32).toInt32)), .val (.int (15 : Int32))] [])) _
    refine XS.iinc X0.here hx rfl (hb hby d5_66) rfl (l' := #[.val (.int ((p1.toUInt32 >>> ((16 : Int32) &&& 31).toUInt32).toInt32)), .val (.int (13 : Int32))]) rfl ?_
    show Steps p.tables e below (s₁.setTop (mkF m 69 #[.val (.int ((p1.toUInt32 >>> ((16 : Int32) &&& 31).toUInt32).toInt32)), .val (.int (13 : Int32))] [])) _
    refine XS.iloadN X0.here hx rfl (hb hby d5_69) rfl ?_
    show Steps p.tables e below (s₁.setTop (mkF m 70 #[.val (.int ((p1.toUInt32 >>> ((16 : Int32) &&& 31).toUInt32).toInt32)), .val (.int (13 : Int32))] [(.int ((p1.toUInt32 >>> ((16 : Int32) &&& 31).toUInt32).toInt32))])) _
    refine XS.iconst X0.here hx rfl (hb hby d5_70) ?_
    show Steps p.tables e below (s₁.setTop (mkF m 71 #[.val (.int ((p1.toUInt32 >>> ((16 : Int32) &&& 31).toUInt32).toInt32)), .val (.int (13 : Int32))] [(.int (2 : Int32)), (.int ((p1.toUInt32 >>> ((16 : Int32) &&& 31).toUInt32).toInt32))])) _
    refine XS.iushr X0.here hx rfl (hb hby d5_71) rfl ?_
    show Steps p.tables e below (s₁.setTop (mkF m 72 #[.val (.int ((p1.toUInt32 >>> ((16 : Int32) &&& 31).toUInt32).toInt32)), .val (.int (13 : Int32))] [(.int ((((p1.toUInt32 >>> ((16 : Int32) &&& 31).toUInt32).toInt32).toUInt32 >>> ((2 : Int32) &&& 31).toUInt32).toInt32))])) _
    refine XS.istoreN X0.here hx rfl (hb hby d5_72) rfl (l' := #[.val (.int ((((p1.toUInt32 >>> ((16 : Int32) &&& 31).toUInt32).toInt32).toUInt32 >>> ((2 : Int32) &&& 31).toUInt32).toInt32)), .val (.int (13 : Int32))]) rfl ?_
    show Steps p.tables e below (s₁.setTop (mkF m 73 #[.val (.int ((((p1.toUInt32 >>> ((16 : Int32) &&& 31).toUInt32).toInt32).toUInt32 >>> ((2 : Int32) &&& 31).toUInt32).toInt32)), .val (.int (13 : Int32))] [])) _
    refine XS.iloadN X0.here hx rfl (hb hby d5_73) rfl ?_
    show Steps p.tables e below (s₁.setTop (mkF m 74 #[.val (.int ((((p1.toUInt32 >>> ((16 : Int32) &&& 31).toUInt32).toInt32).toUInt32 >>> ((2 : Int32) &&& 31).toUInt32).toInt32)), .val (.int (13 : Int32))] [(.int (13 : Int32))])) _
    refine XS.iloadN X0.here hx rfl (hb hby d5_74) rfl ?_
    show Steps p.tables e below (s₁.setTop (mkF m 75 #[.val (.int ((((p1.toUInt32 >>> ((16 : Int32) &&& 31).toUInt32).toInt32).toUInt32 >>> ((2 : Int32) &&& 31).toUInt32).toInt32)), .val (.int (13 : Int32))] [(.int ((((p1.toUInt32 >>> ((16 : Int32) &&& 31).toUInt32).toInt32).toUInt32 >>> ((2 : Int32) &&& 31).toUInt32).toInt32)), (.int (13 : Int32))])) _
    refine XS.iconst X0.here hx rfl (hb hby d5_75) ?_
    show Steps p.tables e below (s₁.setTop (mkF m 76 #[.val (.int ((((p1.toUInt32 >>> ((16 : Int32) &&& 31).toUInt32).toInt32).toUInt32 >>> ((2 : Int32) &&& 31).toUInt32).toInt32)), .val (.int (13 : Int32))] [(.int (1 : Int32)), (.int ((((p1.toUInt32 >>> ((16 : Int32) &&& 31).toUInt32).toInt32).toUInt32 >>> ((2 : Int32) &&& 31).toUInt32).toInt32)), (.int (13 : Int32))])) _
    refine XS.iushr X0.here hx rfl (hb hby d5_76) rfl ?_
    show Steps p.tables e below (s₁.setTop (mkF m 77 #[.val (.int ((((p1.toUInt32 >>> ((16 : Int32) &&& 31).toUInt32).toInt32).toUInt32 >>> ((2 : Int32) &&& 31).toUInt32).toInt32)), .val (.int (13 : Int32))] [(.int ((((((p1.toUInt32 >>> ((16 : Int32) &&& 31).toUInt32).toInt32).toUInt32 >>> ((2 : Int32) &&& 31).toUInt32).toInt32).toUInt32 >>> ((1 : Int32) &&& 31).toUInt32).toInt32)), (.int (13 : Int32))])) _
    refine XS.isub X0.here hx rfl (hb hby d5_77) rfl ?_
    show Steps p.tables e below (s₁.setTop (mkF m 78 #[.val (.int ((((p1.toUInt32 >>> ((16 : Int32) &&& 31).toUInt32).toInt32).toUInt32 >>> ((2 : Int32) &&& 31).toUInt32).toInt32)), .val (.int (13 : Int32))] [(.int ((13 : Int32) - ((((((p1.toUInt32 >>> ((16 : Int32) &&& 31).toUInt32).toInt32).toUInt32 >>> ((2 : Int32) &&& 31).toUInt32).toInt32).toUInt32 >>> ((1 : Int32) &&& 31).toUInt32).toInt32)))])) _
    exact retI X0 hx Bd.returns (hb hby d5_78) hr
  · show Q_inlz Z p1 h0 n0 _ s₁.heap _
    rw [e0]
    exact ⟨by rw [hret], N0, rfl⟩
set_option maxRecDepth 65536 in
set_option maxHeartbeats 40000000 in
theorem rm_inlz_tftft (l : Launch) (Z : State) (a0 : Array Value) (hw : ∀ d ∈ tables_1, d.before a0 Z = true) (ws : List Jvm.Cond) (p1 : Int32) (h0 : Heap) (n0 : Nat) (Z0 : n0 ≤ h0.size) (hc0 : (0 : Int32) < p1) (hc1 : ¬ (p1 < (65536 : Int32))) (hc2 : ((p1.toUInt32 >>> ((16 : Int32) &&& 31).toUInt32).toInt32) < (256 : Int32)) (hc3 : ¬ (((p1.toUInt32 >>> ((16 : Int32) &&& 31).toUInt32).toInt32) < (16 : Int32))) (hc4 : ((((p1.toUInt32 >>> ((16 : Int32) &&& 31).toUInt32).toInt32).toUInt32 >>> ((4 : Int32) &&& 31).toUInt32).toInt32) < (4 : Int32)) (hret : (f_inlz p1) = ((11 : Int32) - ((((((p1.toUInt32 >>> ((16 : Int32) &&& 31).toUInt32).toInt32).toUInt32 >>> ((4 : Int32) &&& 31).toUInt32).toInt32).toUInt32 >>> ((1 : Int32) &&& 31).toUInt32).toInt32))) :
    MetFree l (⟨"java/lang/Integer", "numberOfLeadingZeros", "(I)I"⟩ : MethodName) (head1 (Jvm.Cond.code (⟨"java/lang/Integer", "numberOfLeadingZeros", "(I)I"⟩ : MethodName) jdk_33_method_47_code 2 (some .int) :: ws) ({ frames := 0, cells := 0, slots := 0, locals := 0 } : Room)) (fun a U => a = #[(.int p1)] ∧ Z.Warmed39 U.vm ∧ U.heap = h0) (fun _ _ _ _ _ => True) (fun _ U o U' => ∃ v L, o = .returned v ∧ Q_inlz Z p1 h0 n0 v U'.heap L ∧ FrameEnd U o U' L ({ frames := 0, cells := 0, slots := 0, locals := 0 } : Room).cells ({ frames := 0, cells := 0, slots := 0, locals := 0 } : Room).slots) := by
  refine MetFree.of_bodySF (plainFor_of_name pn_java_lang_Integer) hisR ?_
  intro p e s m args below meth c s₁ Bd hml0 hP hK
  obtain ⟨rfl, hZ, hh⟩ := hP
  have hx := Bd.exec
  have hby := Bd.bytes
  have hml : c.maxLocals = 2 := hml0
  have hown : s.vm.findClass "java/lang/Integer" = some m.cls := findClass_of_methodNamed Bd.named
  have hnm := (name_of_methodNamed Bd.named Bd.method).1
  have X0 : Stand p l e ({ frames := 0, cells := 0, slots := 0, locals := 0 } : Room) s m #[(.int p1)] below meth c s₁ [] 0 0 := Stand.of_body Bd
  have e0 : s₁.heap = h0 := by rw [← hh, Bd.state]; rfl
  have N0 := Fr.nil n0
  have pre0 : ∀ t, Steps p.tables e below (s₁.setTop (mkF m 0 #[.val (.int p1), .unset] [])) t → Steps p.tables e below (s₁.setTop (entryFrame m #[(.int p1)] 2)) t := fun t k => castTop (ef_5_I m p1) k
  obtain ⟨fs, hr, hrun, hended, hW, hsame⟩ := X0.leave (v := some (.int ((11 : Int32) - ((((((p1.toUInt32 >>> ((16 : Int32) &&& 31).toUInt32).toInt32).toUInt32 >>> ((4 : Int32) &&& 31).toUInt32).toInt32).toUInt32 >>> ((1 : Int32) &&& 31).toUInt32).toInt32)))) (fun h => by rw [Bd.returns] at h; cases h) Bd.notSynchronized
  refine ⟨_, _, pre0 _ ?_, hrun, hended, _, _, rfl, ?_, ⟨_, rfl⟩, hW, hsame.mono (by decide) (by decide)⟩
  · show Steps p.tables e below (s₁.setTop (mkF m 0 #[.val (.int p1), .unset] [])) _
    refine XS.iloadN X0.here hx rfl (hb hby d5_0) rfl ?_
    show Steps p.tables e below (s₁.setTop (mkF m 1 #[.val (.int p1), .unset] [(.int p1)])) _
    refine XS.ifYes X0.here hx rfl (pc0 := 1) (pc' := 15) rfl (hb hby d5_1) rfl ((if0 _ _).trans (tlt hc0).2.2.1) (by decide) (by decide) ?_
    show Steps p.tables e below (s₁.setTop (mkF m 15 #[.val (.int p1), .unset] [])) _
    refine XS.bipush X0.here hx rfl (hb hby d5_15) ?_
    show Steps p.tables e below (s₁.setTop (mkF m 17 #[.val (.int p1), .unset] [(.int (31 : Int32))])) _
    refine XS.istoreN X0.here hx rfl (hb hby d5_17) rfl (l' := #[.val (.int p1), .val (.int (31 : Int32))]) rfl ?_
    show Steps p.tables e below (s₁.setTop (mkF m 18 #[.val (.int p1), .val (.int (31 : Int32))] [])) _
    refine XS.iloadN X0.here hx rfl (hb hby d5_18) rfl ?_
    show Steps p.tables e below (s₁.setTop (mkF m 19 #[.val (.int p1), .val (.int (31 : Int32))] [(.int p1)])) _
    refine X0.ldcwInt hx hown (mvT hZ (hw _ (List.mem_of_getElem? (i := 26) rfl))) (g := (mkF m 19 #[.val (.int p1), .val (.int (31 : Int32))] [(.int p1)])) rfl (hb hby d5_19) _ ?_
    show Steps p.tables e below (s₁.setTop (mkF m 22 #[.val (.int p1), .val (.int (31 : Int32))] [(.int (65536 : Int32)), (.int p1)])) _
    refine XS.icmpNo X0.here hx rfl (hb hby d5_22) rfl (flt hc1).1 ?_
    show Steps p.tables e below (s₁.setTop (mkF m 25 #[.val (.int p1), .val (.int (31 : Int32))] [])) _
    refine XS.iinc X0.here hx rfl (hb hby d5_25) rfl (l' := #[.val (.int p1), .val (.int (15 : Int32))]) rfl ?_
    show Steps p.tables e below (s₁.setTop (mkF m 28 #[.val (.int p1), .val (.int (15 : Int32))] [])) _
    refine XS.iloadN X0.here hx rfl (hb hby d5_28) rfl ?_
    show Steps p.tables e below (s₁.setTop (mkF m 29 #[.val (.int p1), .val (.int (15 : Int32))] [(.int p1)])) _
    refine XS.bipush X0.here hx rfl (hb hby d5_29) ?_
    show Steps p.tables e below (s₁.setTop (mkF m 31 #[.val (.int p1), .val (.int (15 : Int32))] [(.int (16 : Int32)), (.int p1)])) _
    refine XS.iushr X0.here hx rfl (hb hby d5_31) rfl ?_
    show Steps p.tables e below (s₁.setTop (mkF m 32 #[.val (.int p1), .val (.int (15 : Int32))] [(.int ((p1.toUInt32 >>> ((16 : Int32) &&& 31).toUInt32).toInt32))])) _
    refine XS.istoreN X0.here hx rfl (hb hby d5_32) rfl (l' := #[.val (.int ((p1.toUInt32 >>> ((16 : Int32) &&& 31).toUInt32).toInt32)), .val (.int (15 : Int32))]) rfl ?_
    show Steps p.tables e below (s₁.setTop (mkF m 33 #[.val (.int ((p1.toUInt32 >>> ((16 : Int32) &&& 31).toUInt32).toInt32)), .val (.int (15 : Int32))] [])) _
    refine XS.iloadN X0.here hx rfl (hb hby d5_33) rfl ?_
    show Steps p.tables e below (s₁.setTop (mkF m 34 #[.val (.int ((p1.toUInt32 >>> ((16 : Int32) &&& 31).toUInt32).toInt32)), .val (.int (15 : Int32))] [(.int ((p1.toUInt32 >>> ((16 : Int32) &&& 31).toUInt32).toInt32))])) _
    refine XS.sipush X0.here hx rfl (hb hby d5_34) ?_
    show Steps p.tables e below (s₁.setTop (mkF m 37 #[.val (.int ((p1.toUInt32 >>> ((16 : Int32) &&& 31).toUInt32).toInt32)), .val (.int (15 : Int32))] [(.int (256 : Int32)), (.int ((p1.toUInt32 >>> ((16 : Int32) &&& 31).toUInt32).toInt32))])) _
    refine XS.icmpYes X0.here hx rfl (pc0 := 37) (pc' := 48) rfl (hb hby d5_37) rfl (tlt hc2).1 (by decide) (by decide) ?_
    show Steps p.tables e below (s₁.setTop (mkF m 48 #[.val (.int ((p1.toUInt32 >>> ((16 : Int32) &&& 31).toUInt32).toInt32)), .val (.int (15 : Int32))] [])) _
    refine XS.iloadN X0.here hx rfl (hb hby d5_48) rfl ?_
    show Steps p.tables e below (s₁.setTop (mkF m 49 #[.val (.int ((p1.toUInt32 >>> ((16 : Int32) &&& 31).toUInt32).toInt32)), .val (.int (15 : Int32))] [(.int ((p1.toUInt32 >>> ((16 : Int32) &&& 31).toUInt32).toInt32))])) _
    refine XS.bipush X0.here hx rfl (hb hby d5_49) ?_
    show Steps p.tables e below (s₁.setTop (mkF m 51 #[.val (.int ((p1.toUInt32 >>> ((16 : Int32) &&& 31).toUInt32).toInt32)), .val (.int (15 : Int32))] [(.int (16 : Int32)), (.int ((p1.toUInt32 >>> ((16 : Int32) &&& 31).toUInt32).toInt32))])) _
    refine XS.icmpNo X0.here hx rfl (hb hby d5_51) rfl (flt hc3).1 ?_
    show Steps p.tables e below (s₁.setTop (mkF m 54 #[.val (.int ((p1.toUInt32 >>> ((16 : Int32) &&& 31).toUInt32).toInt32)), .val (.int (15 : Int32))] [])) _
    refine XS.iinc X0.here hx rfl (hb hby d5_54) rfl (l' := #[.val (.int ((p1.toUInt32 >>> ((16 : Int32) &&& 31).toUInt32).toInt32)), .val (.int (11 : Int32))]) rfl ?_
    show Steps p.tables e below (s₁.setTop (mkF m 57 #[.val (.int ((p1.toUInt32 >>> ((16 : Int32) &&& 31).toUInt32).toInt32)), .val (.int (11 : Int32))] [])) _
    refine XS.iloadN X0.here hx rfl (hb hby d5_57) rfl ?_
    show Steps p.tables e below (s₁.setTop (mkF m 58 #[.val (.int ((p1.toUInt32 >>> ((16 : Int32) &&& 31).toUInt32).toInt32)), .val (.int (11 : Int32))] [(.int ((p1.toUInt32 >>> ((16 : Int32) &&& 31).toUInt32).toInt32))])) _
    refine XS.iconst X0.here hx rfl (hb hby d5_58) ?_
    show Steps p.tables e below (s₁.setTop (mkF m 59 #[.val (.int ((p1.toUInt32 >>> ((16 : Int32) &&& 31).toUInt32).toInt32)), .val (.int (11 : Int32))] [(.int (4 : Int32)), (.int ((p1.toUInt32 >>> ((16 : Int32) &&& 31).toUInt32).toInt32))])) _
    refine XS.iushr X0.here hx rfl (hb hby d5_59) rfl ?_
    show Steps p.tables e below (s₁.setTop (mkF m 60 #[.val (.int ((p1.toUInt32 >>> ((16 : Int32) &&& 31).toUInt32).toInt32)), .val (.int (11 : Int32))] [(.int ((((p1.toUInt32 >>> ((16 : Int32) &&& 31).toUInt32).toInt32).toUInt32 >>> ((4 : Int32) &&& 31).toUInt32).toInt32))])) _
    refine XS.istoreN X0.here hx rfl (hb hby d5_60) rfl (l' := #[.val (.int ((((p1.toUInt32 >>> ((16 : Int32) &&& 31).toUInt32).toInt32).toUInt32 >>> ((4 : Int32) &&& 31).toUInt32).toInt32)), .val (.int (11 : Int32))]) rfl ?_
    show Steps p.tables e below (s₁.setTop (mkF m 61 #[.val (.int ((((p1.toUInt32 >>> ((16 : Int32) &&& 31).toUInt32).toInt32).toUInt32 >>> ((4 : Int32) &&& 31).toUInt32).toInt32)), .val (.int (11 : Int32))] [])) _
    refine XS.iloadN X0.here hx rfl (hb hby d5_61) rfl ?_
    show Steps p.tables e below (s₁.setTop (mkF m 62 #[.val (.int ((((p1.toUInt32 >>> ((16 : Int32) &&& 31).toUInt32).toInt32).toUInt32 >>> ((4 : Int32) &&& 31).toUInt32).toInt32)), .val (.int (11 : Int32))] [(.int ((((p1.toUInt32 >>> ((16 : Int32) &&& 31).toUInt32).toInt32).toUInt32 >>> ((4 : Int32) &&& 31).toUInt32).toInt32))])) _
    refine XS.iconst X0.here hx rfl (hb hby d5_62) ?_
    show Steps p.tables e below (s₁.setTop (mkF m 63 #[.val (.int ((((p1.toUInt32 >>> ((16 : Int32) &&& 31).toUInt32).toInt32).toUInt32 >>> ((4 : Int32) &&& 31).toUInt32).toInt32)), .val (.int (11 : Int32))] [(.int (4 : Int32)), (.int ((((p1.toUInt32 >>> ((16 : Int32) &&& 31).toUInt32).toInt32).toUInt32 >>> ((4 : Int32) &&& 31).toUInt32).toInt32))])) _
    refine XS.icmpYes X0.here hx rfl (pc0 := 63) (pc' := 73) rfl (hb hby d5_63) rfl (tlt hc4).1 (by decide) (by decide) ?_
    show Steps p.tables e below (s₁.setTop (mkF m 73 #[.val (.int ((((p1.toUInt32 >>> ((16 : Int32) &&& 31).toUInt32).toInt32).toUInt32 >>> ((4 : Int32) &&& 31).toUInt32).toInt32)), .val (.int (11 : Int32))] [])) _
    refine XS.iloadN X0.here hx rfl (hb hby d5_73) rfl ?_
    show Steps p.tables e below (s₁.setTop (mkF m 74 #[.val (.int ((((p1.toUInt32 >>> ((16 : Int32) &&& 31).toUInt32).toInt32).toUInt32 >>> ((4 : Int32) &&& 31).toUInt32).toInt32)), .val (.int (11 : Int32))] [(.int (11 : Int32))])) _
    refine XS.iloadN X0.here hx rfl (hb hby d5_74) rfl ?_
    show Steps p.tables e below (s₁.setTop (mkF m 75 #[.val (.int ((((p1.toUInt32 >>> ((16 : Int32) &&& 31).toUInt32).toInt32).toUInt32 >>> ((4 : Int32) &&& 31).toUInt32).toInt32)), .val (.int (11 : Int32))] [(.int ((((p1.toUInt32 >>> ((16 : Int32) &&& 31).toUInt32).toInt32).toUInt32 >>> ((4 : Int32) &&& 31).toUInt32).toInt32)), (.int (11 : Int32))])) _
    refine XS.iconst X0.here hx rfl (hb hby d5_75) ?_
    show Steps p.tables e below (s₁.setTop (mkF m 76 #[.val (.int ((((p1.toUInt32 >>> ((16 : Int32) &&& 31).toUInt32).toInt32).toUInt32 >>> ((4 : Int32) &&& 31).toUInt32).toInt32)), .val (.int (11 : Int32))] [(.int (1 : Int32)), (.int ((((p1.toUInt32 >>> ((16 : Int32) &&& 31).toUInt32).toInt32).toUInt32 >>> ((4 : Int32) &&& 31).toUInt32).toInt32)), (.int (11 : Int32))])) _
    refine XS.iushr X0.here hx rfl (hb hby d5_76) rfl ?_
    show Steps p.tables e below (s₁.setTop (mkF m 77 #[.val (.int ((((p1.toUInt32 >>> ((16 : Int32) &&& 31).toUInt32).toInt32).toUInt32 >>> ((4 : Int32) &&& 31).toUInt32).toInt32)), .val (.int (11 : Int32))] [(.int ((((((p1.toUInt32 >>> ((16 : Int32) &&& 31).toUInt32).toInt32).toUInt32 >>> ((4 : Int32) &&& 31).toUInt32).toInt32).toUInt32 >>> ((1 : Int32) &&& 31).toUInt32).toInt32)), (.int (11 : Int32))])) _
    refine XS.isub X0.here hx rfl (hb hby d5_77) rfl ?_
    show Steps p.tables e below (s₁.setTop (mkF m 78 #[.val (.int ((((p1.toUInt32 >>> ((16 : Int32) &&& 31).toUInt32).toInt32).toUInt32 >>> ((4 : Int32) &&& 31).toUInt32).toInt32)), .val (.int (11 : Int32))] [(.int ((11 : Int32) - ((((((p1.toUInt32 >>> ((16 : Int32) &&& 31).toUInt32).toInt32).toUInt32 >>> ((4 : Int32) &&& 31).toUInt32).toInt32).toUInt32 >>> ((1 : Int32) &&& 31).toUInt32).toInt32)))])) _
    exact retI X0 hx Bd.returns (hb hby d5_78) hr
  · show Q_inlz Z p1 h0 n0 _ s₁.heap _
    rw [e0]
    exact ⟨by rw [hret], N0, rfl⟩
set_option maxRecDepth 65536 in
set_option maxHeartbeats 40000000 in
theorem rm_inlz_tftff (l : Launch) (Z : State) (a0 : Array Value) (hw : ∀ d ∈ tables_1, d.before a0 Z = true) (ws : List Jvm.Cond) (p1 : Int32) (h0 : Heap) (n0 : Nat) (Z0 : n0 ≤ h0.size) (hc0 : (0 : Int32) < p1) (hc1 : ¬ (p1 < (65536 : Int32))) (hc2 : ((p1.toUInt32 >>> ((16 : Int32) &&& 31).toUInt32).toInt32) < (256 : Int32)) (hc3 : ¬ (((p1.toUInt32 >>> ((16 : Int32) &&& 31).toUInt32).toInt32) < (16 : Int32))) (hc4 : ¬ (((((p1.toUInt32 >>> ((16 : Int32) &&& 31).toUInt32).toInt32).toUInt32 >>> ((4 : Int32) &&& 31).toUInt32).toInt32) < (4 : Int32))) (hret : (f_inlz p1) = ((9 : Int32) - ((((((((p1.toUInt32 >>> ((16 : Int32) &&& 31).toUInt32).toInt32).toUInt32 >>> ((4 : Int32) &&& 31).toUInt32).toInt32).toUInt32 >>> ((2 : Int32) &&& 31).toUInt32).toInt32).toUInt32 >>> ((1 : Int32) &&& 31).toUInt32).toInt32))) :
    MetFree l (⟨"java/lang/Integer", "numberOfLeadingZeros", "(I)I"⟩ : MethodName) (head1 (Jvm.Cond.code (⟨"java/lang/Integer", "numberOfLeadingZeros", "(I)I"⟩ : MethodName) jdk_33_method_47_code 2 (some .int) :: ws) ({ frames := 0, cells := 0, slots := 0, locals := 0 } : Room)) (fun a U => a = #[(.int p1)] ∧ Z.Warmed39 U.vm ∧ U.heap = h0) (fun _ _ _ _ _ => True) (fun _ U o U' => ∃ v L, o = .returned v ∧ Q_inlz Z p1 h0 n0 v U'.heap L ∧ FrameEnd U o U' L ({ frames := 0, cells := 0, slots := 0, locals := 0 } : Room).cells ({ frames := 0, cells := 0, slots := 0, locals := 0 } : Room).slots) := by
  refine MetFree.of_bodySF (plainFor_of_name pn_java_lang_Integer) hisR ?_
  intro p e s m args below meth c s₁ Bd hml0 hP hK
  obtain ⟨rfl, hZ, hh⟩ := hP
  have hx := Bd.exec
  have hby := Bd.bytes
  have hml : c.maxLocals = 2 := hml0
  have hown : s.vm.findClass "java/lang/Integer" = some m.cls := findClass_of_methodNamed Bd.named
  have hnm := (name_of_methodNamed Bd.named Bd.method).1
  have X0 : Stand p l e ({ frames := 0, cells := 0, slots := 0, locals := 0 } : Room) s m #[(.int p1)] below meth c s₁ [] 0 0 := Stand.of_body Bd
  have e0 : s₁.heap = h0 := by rw [← hh, Bd.state]; rfl
  have N0 := Fr.nil n0
  have pre0 : ∀ t, Steps p.tables e below (s₁.setTop (mkF m 0 #[.val (.int p1), .unset] [])) t → Steps p.tables e below (s₁.setTop (entryFrame m #[(.int p1)] 2)) t := fun t k => castTop (ef_5_I m p1) k
  obtain ⟨fs, hr, hrun, hended, hW, hsame⟩ := X0.leave (v := some (.int ((9 : Int32) - ((((((((p1.toUInt32 >>> ((16 : Int32) &&& 31).toUInt32).toInt32).toUInt32 >>> ((4 : Int32) &&& 31).toUInt32).toInt32).toUInt32 >>> ((2 : Int32) &&& 31).toUInt32).toInt32).toUInt32 >>> ((1 : Int32) &&& 31).toUInt32).toInt32)))) (fun h => by rw [Bd.returns] at h; cases h) Bd.notSynchronized
  refine ⟨_, _, pre0 _ ?_, hrun, hended, _, _, rfl, ?_, ⟨_, rfl⟩, hW, hsame.mono (by decide) (by decide)⟩
  · show Steps p.tables e below (s₁.setTop (mkF m 0 #[.val (.int p1), .unset] [])) _
    refine XS.iloadN X0.here hx rfl (hb hby d5_0) rfl ?_
    show Steps p.tables e below (s₁.setTop (mkF m 1 #[.val (.int p1), .unset] [(.int p1)])) _
    refine XS.ifYes X0.here hx rfl (pc0 := 1) (pc' := 15) rfl (hb hby d5_1) rfl ((if0 _ _).trans (tlt hc0).2.2.1) (by decide) (by decide) ?_
    show Steps p.tables e below (s₁.setTop (mkF m 15 #[.val (.int p1), .unset] [])) _
    refine XS.bipush X0.here hx rfl (hb hby d5_15) ?_
    show Steps p.tables e below (s₁.setTop (mkF m 17 #[.val (.int p1), .unset] [(.int (31 : Int32))])) _
    refine XS.istoreN X0.here hx rfl (hb hby d5_17) rfl (l' := #[.val (.int p1), .val (.int (31 : Int32))]) rfl ?_
    show Steps p.tables e below (s₁.setTop (mkF m 18 #[.val (.int p1), .val (.int (31 : Int32))] [])) _
    refine XS.iloadN X0.here hx rfl (hb hby d5_18) rfl ?_
    show Steps p.tables e below (s₁.setTop (mkF m 19 #[.val (.int p1), .val (.int (31 : Int32))] [(.int p1)])) _
    refine X0.ldcwInt hx hown (mvT hZ (hw _ (List.mem_of_getElem? (i := 26) rfl))) (g := (mkF m 19 #[.val (.int p1), .val (.int (31 : Int32))] [(.int p1)])) rfl (hb hby d5_19) _ ?_
    show Steps p.tables e below (s₁.setTop (mkF m 22 #[.val (.int p1), .val (.int (31 : Int32))] [(.int (65536 : Int32)), (.int p1)])) _
    refine XS.icmpNo X0.here hx rfl (hb hby d5_22) rfl (flt hc1).1 ?_
    show Steps p.tables e below (s₁.setTop (mkF m 25 #[.val (.int p1), .val (.int (31 : Int32))] [])) _
    refine XS.iinc X0.here hx rfl (hb hby d5_25) rfl (l' := #[.val (.int p1), .val (.int (15 : Int32))]) rfl ?_
    show Steps p.tables e below (s₁.setTop (mkF m 28 #[.val (.int p1), .val (.int (15 : Int32))] [])) _
    refine XS.iloadN X0.here hx rfl (hb hby d5_28) rfl ?_
    show Steps p.tables e below (s₁.setTop (mkF m 29 #[.val (.int p1), .val (.int (15 : Int32))] [(.int p1)])) _
    refine XS.bipush X0.here hx rfl (hb hby d5_29) ?_
    show Steps p.tables e below (s₁.setTop (mkF m 31 #[.val (.int p1), .val (.int (15 : Int32))] [(.int (16 : Int32)), (.int p1)])) _
    refine XS.iushr X0.here hx rfl (hb hby d5_31) rfl ?_
    show Steps p.tables e below (s₁.setTop (mkF m 32 #[.val (.int p1), .val (.int (15 : Int32))] [(.int ((p1.toUInt32 >>> ((16 : Int32) &&& 31).toUInt32).toInt32))])) _
    refine XS.istoreN X0.here hx rfl (hb hby d5_32) rfl (l' := #[.val (.int ((p1.toUInt32 >>> ((16 : Int32) &&& 31).toUInt32).toInt32)), .val (.int (15 : Int32))]) rfl ?_
    show Steps p.tables e below (s₁.setTop (mkF m 33 #[.val (.int ((p1.toUInt32 >>> ((16 : Int32) &&& 31).toUInt32).toInt32)), .val (.int (15 : Int32))] [])) _
    refine XS.iloadN X0.here hx rfl (hb hby d5_33) rfl ?_
    show Steps p.tables e below (s₁.setTop (mkF m 34 #[.val (.int ((p1.toUInt32 >>> ((16 : Int32) &&& 31).toUInt32).toInt32)), .val (.int (15 : Int32))] [(.int ((p1.toUInt32 >>> ((16 : Int32) &&& 31).toUInt32).toInt32))])) _
    refine XS.sipush X0.here hx rfl (hb hby d5_34) ?_
    show Steps p.tables e below (s₁.setTop (mkF m 37 #[.val (.int ((p1.toUInt32 >>> ((16 : Int32) &&& 31).toUInt32).toInt32)), .val (.int (15 : Int32))] [(.int (256 : Int32)), (.int ((p1.toUInt32 >>> ((16 : Int32) &&& 31).toUInt32).toInt32))])) _
    refine XS.icmpYes X0.here hx rfl (pc0 := 37) (pc' := 48) rfl (hb hby d5_37) rfl (tlt hc2).1 (by decide) (by decide) ?_
    show Steps p.tables e below (s₁.setTop (mkF m 48 #[.val (.int ((p1.toUInt32 >>> ((16 : Int32) &&& 31).toUInt32).toInt32)), .val (.int (15 : Int32))] [])) _
    refine XS.iloadN X0.here hx rfl (hb hby d5_48) rfl ?_
    show Steps p.tables e below (s₁.setTop (mkF m 49 #[.val (.int ((p1.toUInt32 >>> ((16 : Int32) &&& 31).toUInt32).toInt32)), .val (.int (15 : Int32))] [(.int ((p1.toUInt32 >>> ((16 : Int32) &&& 31).toUInt32).toInt32))])) _
    refine XS.bipush X0.here hx rfl (hb hby d5_49) ?_
    show Steps p.tables e below (s₁.setTop (mkF m 51 #[.val (.int ((p1.toUInt32 >>> ((16 : Int32) &&& 31).toUInt32).toInt32)), .val (.int (15 : Int32))] [(.int (16 : Int32)), (.int ((p1.toUInt32 >>> ((16 : Int32) &&& 31).toUInt32).toInt32))])) _
    refine XS.icmpNo X0.here hx rfl (hb hby d5_51) rfl (flt hc3).1 ?_
    show Steps p.tables e below (s₁.setTop (mkF m 54 #[.val (.int ((p1.toUInt32 >>> ((16 : Int32) &&& 31).toUInt32).toInt32)), .val (.int (15 : Int32))] [])) _
    refine XS.iinc X0.here hx rfl (hb hby d5_54) rfl (l' := #[.val (.int ((p1.toUInt32 >>> ((16 : Int32) &&& 31).toUInt32).toInt32)), .val (.int (11 : Int32))]) rfl ?_
    show Steps p.tables e below (s₁.setTop (mkF m 57 #[.val (.int ((p1.toUInt32 >>> ((16 : Int32) &&& 31).toUInt32).toInt32)), .val (.int (11 : Int32))] [])) _
    refine XS.iloadN X0.here hx rfl (hb hby d5_57) rfl ?_
    show Steps p.tables e below (s₁.setTop (mkF m 58 #[.val (.int ((p1.toUInt32 >>> ((16 : Int32) &&& 31).toUInt32).toInt32)), .val (.int (11 : Int32))] [(.int ((p1.toUInt32 >>> ((16 : Int32) &&& 31).toUInt32).toInt32))])) _
    refine XS.iconst X0.here hx rfl (hb hby d5_58) ?_
    show Steps p.tables e below (s₁.setTop (mkF m 59 #[.val (.int ((p1.toUInt32 >>> ((16 : Int32) &&& 31).toUInt32).toInt32)), .val (.int (11 : Int32))] [(.int (4 : Int32)), (.int ((p1.toUInt32 >>> ((16 : Int32) &&& 31).toUInt32).toInt32))])) _
    refine XS.iushr X0.here hx rfl (hb hby d5_59) rfl ?_
    show Steps p.tables e below (s₁.setTop (mkF m 60 #[.val (.int ((p1.toUInt32 >>> ((16 : Int32) &&& 31).toUInt32).toInt32)), .val (.int (11 : Int32))] [(.int ((((p1.toUInt32 >>> ((16 : Int32) &&& 31).toUInt32).toInt32).toUInt32 >>> ((4 : Int32) &&& 31).toUInt32).toInt32))])) _
    refine XS.istoreN X0.here hx rfl (hb hby d5_60) rfl (l' := #[.val (.int ((((p1.toUInt32 >>> ((16 : Int32) &&& 31).toUInt32).toInt32).toUInt32 >>> ((4 : Int32) &&& 31).toUInt32).toInt32)), .val (.int (11 : Int32))]) rfl ?_
    show Steps p.tables e below (s₁.setTop (mkF m 61 #[.val (.int ((((p1.toUInt32 >>> ((16 : Int32) &&& 31).toUInt32).toInt32).toUInt32 >>> ((4 : Int32) &&& 31).toUInt32).toInt32)), .val (.int (11 : Int32))] [])) _
    refine XS.iloadN X0.here hx rfl (hb hby d5_61) rfl ?_
    show Steps p.tables e below (s₁.setTop (mkF m 62 #[.val (.int ((((p1.toUInt32 >>> ((16 : Int32) &&& 31).toUInt32).toInt32).toUInt32 >>> ((4 : Int32) &&& 31).toUInt32).toInt32)), .val (.int (11 : Int32))] [(.int ((((p1.toUInt32 >>> ((16 : Int32) &&& 31).toUInt32).toInt32).toUInt32 >>> ((4 : Int32) &&& 31).toUInt32).toInt32))])) _
    refine XS.iconst X0.here hx rfl (hb hby d5_62) ?_
    show Steps p.tables e below (s₁.setTop (mkF m 63 #[.val (.int ((((p1.toUInt32 >>> ((16 : Int32) &&& 31).toUInt32).toInt32).toUInt32 >>> ((4 : Int32) &&& 31).toUInt32).toInt32)), .val (.int (11 : Int32))] [(.int (4 : Int32)), (.int ((((p1.toUInt32 >>> ((16 : Int32) &&& 31).toUInt32).toInt32).toUInt32 >>> ((4 : Int32) &&& 31).toUInt32).toInt32))])) _
    refine XS.icmpNo X0.here hx rfl (hb hby d5_63) rfl (flt hc4).1 ?_
    show Steps p.tables e below (s₁.setTop (mkF m 66 #[.val (.int ((((p1.toUInt32 >>> ((16 : Int32) &&& 31).toUInt32).toInt32).toUInt32 >>> ((4 : Int32) &&& 31).toUInt32).toInt32)), .val (.int (11 : Int32))] [])) _
    refine XS.iinc X0.here hx rfl (hb hby d5_66) rfl (l' := #[.val (.int ((((p1.toUInt32 >>> ((16 : Int32) &&& 31).toUInt32).toInt32).toUInt32 >>> ((4 : Int32) &&& 31).toUInt32).toInt32)), .val (.int (9 : Int32))]) rfl ?_
    show Steps p.tables e below (s₁.setTop (mkF m 69 #[.val (.int ((((p1.toUInt32 >>> ((16 : Int32) &&& 31).toUInt32).toInt32).toUInt32 >>> ((4 : Int32) &&& 31).toUInt32).toInt32)), .val (.int (9 : Int32))] [])) _
    refine XS.iloadN X0.here hx rfl (hb hby d5_69) rfl ?_
    show Steps p.tables e below (s₁.setTop (mkF m 70 #[.val (.int ((((p1.toUInt32 >>> ((16 : Int32) &&& 31).toUInt32).toInt32).toUInt32 >>> ((4 : Int32) &&& 31).toUInt32).toInt32)), .val (.int (9 : Int32))] [(.int ((((p1.toUInt32 >>> ((16 : Int32) &&& 31).toUInt32).toInt32).toUInt32 >>> ((4 : Int32) &&& 31).toUInt32).toInt32))])) _
    refine XS.iconst X0.here hx rfl (hb hby d5_70) ?_
    show Steps p.tables e below (s₁.setTop (mkF m 71 #[.val (.int ((((p1.toUInt32 >>> ((16 : Int32) &&& 31).toUInt32).toInt32).toUInt32 >>> ((4 : Int32) &&& 31).toUInt32).toInt32)), .val (.int (9 : Int32))] [(.int (2 : Int32)), (.int ((((p1.toUInt32 >>> ((16 : Int32) &&& 31).toUInt32).toInt32).toUInt32 >>> ((4 : Int32) &&& 31).toUInt32).toInt32))])) _
    refine XS.iushr X0.here hx rfl (hb hby d5_71) rfl ?_
    show Steps p.tables e below (s₁.setTop (mkF m 72 #[.val (.int ((((p1.toUInt32 >>> ((16 : Int32) &&& 31).toUInt32).toInt32).toUInt32 >>> ((4 : Int32) &&& 31).toUInt32).toInt32)), .val (.int (9 : Int32))] [(.int ((((((p1.toUInt32 >>> ((16 : Int32) &&& 31).toUInt32).toInt32).toUInt32 >>> ((4 : Int32) &&& 31).toUInt32).toInt32).toUInt32 >>> ((2 : Int32) &&& 31).toUInt32).toInt32))])) _
    refine XS.istoreN X0.here hx rfl (hb hby d5_72) rfl (l' := #[.val (.int ((((((p1.toUInt32 >>> ((16 : Int32) &&& 31).toUInt32).toInt32).toUInt32 >>> ((4 : Int32) &&& 31).toUInt32).toInt32).toUInt32 >>> ((2 : Int32) &&& 31).toUInt32).toInt32)), .val (.int (9 : Int32))]) rfl ?_
    show Steps p.tables e below (s₁.setTop (mkF m 73 #[.val (.int ((((((p1.toUInt32 >>> ((16 : Int32) &&& 31).toUInt32).toInt32).toUInt32 >>> ((4 : Int32) &&& 31).toUInt32).toInt32).toUInt32 >>> ((2 : Int32) &&& 31).toUInt32).toInt32)), .val (.int (9 : Int32))] [])) _
    refine XS.iloadN X0.here hx rfl (hb hby d5_73) rfl ?_
    show Steps p.tables e below (s₁.setTop (mkF m 74 #[.val (.int ((((((p1.toUInt32 >>> ((16 : Int32) &&& 31).toUInt32).toInt32).toUInt32 >>> ((4 : Int32) &&& 31).toUInt32).toInt32).toUInt32 >>> ((2 : Int32) &&& 31).toUInt32).toInt32)), .val (.int (9 : Int32))] [(.int (9 : Int32))])) _
    refine XS.iloadN X0.here hx rfl (hb hby d5_74) rfl ?_
    show Steps p.tables e below (s₁.setTop (mkF m 75 #[.val (.int ((((((p1.toUInt32 >>> ((16 : Int32) &&& 31).toUInt32).toInt32).toUInt32 >>> ((4 : Int32) &&& 31).toUInt32).toInt32).toUInt32 >>> ((2 : Int32) &&& 31).toUInt32).toInt32)), .val (.int (9 : Int32))] [(.int ((((((p1.toUInt32 >>> ((16 : Int32) &&& 31).toUInt32).toInt32).toUInt32 >>> ((4 : Int32) &&& 31).toUInt32).toInt32).toUInt32 >>> ((2 : Int32) &&& 31).toUInt32).toInt32)), (.int (9 : Int32))])) _
    refine XS.iconst X0.here hx rfl (hb hby d5_75) ?_
    show Steps p.tables e below (s₁.setTop (mkF m 76 #[.val (.int ((((((p1.toUInt32 >>> ((16 : Int32) &&& 31).toUInt32).toInt32).toUInt32 >>> ((4 : Int32) &&& 31).toUInt32).toInt32).toUInt32 >>> ((2 : Int32) &&& 31).toUInt32).toInt32)), .val (.int (9 : Int32))] [(.int (1 : Int32)), (.int ((((((p1.toUInt32 >>> ((16 : Int32) &&& 31).toUInt32).toInt32).toUInt32 >>> ((4 : Int32) &&& 31).toUInt32).toInt32).toUInt32 >>> ((2 : Int32) &&& 31).toUInt32).toInt32)), (.int (9 : Int32))])) _
    refine XS.iushr X0.here hx rfl (hb hby d5_76) rfl ?_
    show Steps p.tables e below (s₁.setTop (mkF m 77 #[.val (.int ((((((p1.toUInt32 >>> ((16 : Int32) &&& 31).toUInt32).toInt32).toUInt32 >>> ((4 : Int32) &&& 31).toUInt32).toInt32).toUInt32 >>> ((2 : Int32) &&& 31).toUInt32).toInt32)), .val (.int (9 : Int32))] [(.int ((((((((p1.toUInt32 >>> ((16 : Int32) &&& 31).toUInt32).toInt32).toUInt32 >>> ((4 : Int32) &&& 31).toUInt32).toInt32).toUInt32 >>> ((2 : Int32) &&& 31).toUInt32).toInt32).toUInt32 >>> ((1 : Int32) &&& 31).toUInt32).toInt32)), (.int (9 : Int32))])) _
    refine XS.isub X0.here hx rfl (hb hby d5_77) rfl ?_
    show Steps p.tables e below (s₁.setTop (mkF m 78 #[.val (.int ((((((p1.toUInt32 >>> ((16 : Int32) &&& 31).toUInt32).toInt32).toUInt32 >>> ((4 : Int32) &&& 31).toUInt32).toInt32).toUInt32 >>> ((2 : Int32) &&& 31).toUInt32).toInt32)), .val (.int (9 : Int32))] [(.int ((9 : Int32) - ((((((((p1.toUInt32 >>> ((16 : Int32) &&& 31).toUInt32).toInt32).toUInt32 >>> ((4 : Int32) &&& 31).toUInt32).toInt32).toUInt32 >>> ((2 : Int32) &&& 31).toUInt32).toInt32).toUInt32 >>> ((1 : Int32) &&& 31).toUInt32).toInt32)))])) _
    exact retI X0 hx Bd.returns (hb hby d5_78) hr
  · show Q_inlz Z p1 h0 n0 _ s₁.heap _
    rw [e0]
    exact ⟨by rw [hret], N0, rfl⟩
set_option maxRecDepth 65536 in
set_option maxHeartbeats 40000000 in
theorem rm_inlz_tfftt (l : Launch) (Z : State) (a0 : Array Value) (hw : ∀ d ∈ tables_1, d.before a0 Z = true) (ws : List Jvm.Cond) (p1 : Int32) (h0 : Heap) (n0 : Nat) (Z0 : n0 ≤ h0.size) (hc0 : (0 : Int32) < p1) (hc1 : ¬ (p1 < (65536 : Int32))) (hc2 : ¬ (((p1.toUInt32 >>> ((16 : Int32) &&& 31).toUInt32).toInt32) < (256 : Int32))) (hc3 : ((((p1.toUInt32 >>> ((16 : Int32) &&& 31).toUInt32).toInt32).toUInt32 >>> ((8 : Int32) &&& 31).toUInt32).toInt32) < (16 : Int32)) (hc4 : ((((p1.toUInt32 >>> ((16 : Int32) &&& 31).toUInt32).toInt32).toUInt32 >>> ((8 : Int32) &&& 31).toUInt32).toInt32) < (4 : Int32)) (hret : (f_inlz p1) = ((7 : Int32) - ((((((p1.toUInt32 >>> ((16 : Int32) &&& 31).toUInt32).toInt32).toUInt32 >>> ((8 : Int32) &&& 31).toUInt32).toInt32).toUInt32 >>> ((1 : Int32) &&& 31).toUInt32).toInt32))) :
    MetFree l (⟨"java/lang/Integer", "numberOfLeadingZeros", "(I)I"⟩ : MethodName) (head1 (Jvm.Cond.code (⟨"java/lang/Integer", "numberOfLeadingZeros", "(I)I"⟩ : MethodName) jdk_33_method_47_code 2 (some .int) :: ws) ({ frames := 0, cells := 0, slots := 0, locals := 0 } : Room)) (fun a U => a = #[(.int p1)] ∧ Z.Warmed39 U.vm ∧ U.heap = h0) (fun _ _ _ _ _ => True) (fun _ U o U' => ∃ v L, o = .returned v ∧ Q_inlz Z p1 h0 n0 v U'.heap L ∧ FrameEnd U o U' L ({ frames := 0, cells := 0, slots := 0, locals := 0 } : Room).cells ({ frames := 0, cells := 0, slots := 0, locals := 0 } : Room).slots) := by
  refine MetFree.of_bodySF (plainFor_of_name pn_java_lang_Integer) hisR ?_
  intro p e s m args below meth c s₁ Bd hml0 hP hK
  obtain ⟨rfl, hZ, hh⟩ := hP
  have hx := Bd.exec
  have hby := Bd.bytes
  have hml : c.maxLocals = 2 := hml0
  have hown : s.vm.findClass "java/lang/Integer" = some m.cls := findClass_of_methodNamed Bd.named
  have hnm := (name_of_methodNamed Bd.named Bd.method).1
  have X0 : Stand p l e ({ frames := 0, cells := 0, slots := 0, locals := 0 } : Room) s m #[(.int p1)] below meth c s₁ [] 0 0 := Stand.of_body Bd
  have e0 : s₁.heap = h0 := by rw [← hh, Bd.state]; rfl
  have N0 := Fr.nil n0
  have pre0 : ∀ t, Steps p.tables e below (s₁.setTop (mkF m 0 #[.val (.int p1), .unset] [])) t → Steps p.tables e below (s₁.setTop (entryFrame m #[(.int p1)] 2)) t := fun t k => castTop (ef_5_I m p1) k
  obtain ⟨fs, hr, hrun, hended, hW, hsame⟩ := X0.leave (v := some (.int ((7 : Int32) - ((((((p1.toUInt32 >>> ((16 : Int32) &&& 31).toUInt32).toInt32).toUInt32 >>> ((8 : Int32) &&& 31).toUInt32).toInt32).toUInt32 >>> ((1 : Int32) &&& 31).toUInt32).toInt32)))) (fun h => by rw [Bd.returns] at h; cases h) Bd.notSynchronized
  refine ⟨_, _, pre0 _ ?_, hrun, hended, _, _, rfl, ?_, ⟨_, rfl⟩, hW, hsame.mono (by decide) (by decide)⟩
  · show Steps p.tables e below (s₁.setTop (mkF m 0 #[.val (.int p1), .unset] [])) _
    refine XS.iloadN X0.here hx rfl (hb hby d5_0) rfl ?_
    show Steps p.tables e below (s₁.setTop (mkF m 1 #[.val (.int p1), .unset] [(.int p1)])) _
    refine XS.ifYes X0.here hx rfl (pc0 := 1) (pc' := 15) rfl (hb hby d5_1) rfl ((if0 _ _).trans (tlt hc0).2.2.1) (by decide) (by decide) ?_
    show Steps p.tables e below (s₁.setTop (mkF m 15 #[.val (.int p1), .unset] [])) _
    refine XS.bipush X0.here hx rfl (hb hby d5_15) ?_
    show Steps p.tables e below (s₁.setTop (mkF m 17 #[.val (.int p1), .unset] [(.int (31 : Int32))])) _
    refine XS.istoreN X0.here hx rfl (hb hby d5_17) rfl (l' := #[.val (.int p1), .val (.int (31 : Int32))]) rfl ?_
    show Steps p.tables e below (s₁.setTop (mkF m 18 #[.val (.int p1), .val (.int (31 : Int32))] [])) _
    refine XS.iloadN X0.here hx rfl (hb hby d5_18) rfl ?_
    show Steps p.tables e below (s₁.setTop (mkF m 19 #[.val (.int p1), .val (.int (31 : Int32))] [(.int p1)])) _
    refine X0.ldcwInt hx hown (mvT hZ (hw _ (List.mem_of_getElem? (i := 26) rfl))) (g := (mkF m 19 #[.val (.int p1), .val (.int (31 : Int32))] [(.int p1)])) rfl (hb hby d5_19) _ ?_
    show Steps p.tables e below (s₁.setTop (mkF m 22 #[.val (.int p1), .val (.int (31 : Int32))] [(.int (65536 : Int32)), (.int p1)])) _
    refine XS.icmpNo X0.here hx rfl (hb hby d5_22) rfl (flt hc1).1 ?_
    show Steps p.tables e below (s₁.setTop (mkF m 25 #[.val (.int p1), .val (.int (31 : Int32))] [])) _
    refine XS.iinc X0.here hx rfl (hb hby d5_25) rfl (l' := #[.val (.int p1), .val (.int (15 : Int32))]) rfl ?_
    show Steps p.tables e below (s₁.setTop (mkF m 28 #[.val (.int p1), .val (.int (15 : Int32))] [])) _
    refine XS.iloadN X0.here hx rfl (hb hby d5_28) rfl ?_
    show Steps p.tables e below (s₁.setTop (mkF m 29 #[.val (.int p1), .val (.int (15 : Int32))] [(.int p1)])) _
    refine XS.bipush X0.here hx rfl (hb hby d5_29) ?_
    show Steps p.tables e below (s₁.setTop (mkF m 31 #[.val (.int p1), .val (.int (15 : Int32))] [(.int (16 : Int32)), (.int p1)])) _
    refine XS.iushr X0.here hx rfl (hb hby d5_31) rfl ?_
    show Steps p.tables e below (s₁.setTop (mkF m 32 #[.val (.int p1), .val (.int (15 : Int32))] [(.int ((p1.toUInt32 >>> ((16 : Int32) &&& 31).toUInt32).toInt32))])) _
    refine XS.istoreN X0.here hx rfl (hb hby d5_32) rfl (l' := #[.val (.int ((p1.toUInt32 >>> ((16 : Int32) &&& 31).toUInt32).toInt32)), .val (.int (15 : Int32))]) rfl ?_
    show Steps p.tables e below (s₁.setTop (mkF m 33 #[.val (.int ((p1.toUInt32 >>> ((16 : Int32) &&& 31).toUInt32).toInt32)), .val (.int (15 : Int32))] [])) _
    refine XS.iloadN X0.here hx rfl (hb hby d5_33) rfl ?_
    show Steps p.tables e below (s₁.setTop (mkF m 34 #[.val (.int ((p1.toUInt32 >>> ((16 : Int32) &&& 31).toUInt32).toInt32)), .val (.int (15 : Int32))] [(.int ((p1.toUInt32 >>> ((16 : Int32) &&& 31).toUInt32).toInt32))])) _
    refine XS.sipush X0.here hx rfl (hb hby d5_34) ?_
    show Steps p.tables e below (s₁.setTop (mkF m 37 #[.val (.int ((p1.toUInt32 >>> ((16 : Int32) &&& 31).toUInt32).toInt32)), .val (.int (15 : Int32))] [(.int (256 : Int32)), (.int ((p1.toUInt32 >>> ((16 : Int32) &&& 31).toUInt32).toInt32))])) _
    refine XS.icmpNo X0.here hx rfl (hb hby d5_37) rfl (flt hc2).1 ?_
    show Steps p.tables e below (s₁.setTop (mkF m 40 #[.val (.int ((p1.toUInt32 >>> ((16 : Int32) &&& 31).toUInt32).toInt32)), .val (.int (15 : Int32))] [])) _
    refine XS.iinc X0.here hx rfl (hb hby d5_40) rfl (l' := #[.val (.int ((p1.toUInt32 >>> ((16 : Int32) &&& 31).toUInt32).toInt32)), .val (.int (7 : Int32))]) rfl ?_
    show Steps p.tables e below (s₁.setTop (mkF m 43 #[.val (.int ((p1.toUInt32 >>> ((16 : Int32) &&& 31).toUInt32).toInt32)), .val (.int (7 : Int32))] [])) _
    refine XS.iloadN X0.here hx rfl (hb hby d5_43) rfl ?_
    show Steps p.tables e below (s₁.setTop (mkF m 44 #[.val (.int ((p1.toUInt32 >>> ((16 : Int32) &&& 31).toUInt32).toInt32)), .val (.int (7 : Int32))] [(.int ((p1.toUInt32 >>> ((16 : Int32) &&& 31).toUInt32).toInt32))])) _
    refine XS.bipush X0.here hx rfl (hb hby d5_44) ?_
    show Steps p.tables e below (s₁.setTop (mkF m 46 #[.val (.int ((p1.toUInt32 >>> ((16 : Int32) &&& 31).toUInt32).toInt32)), .val (.int (7 : Int32))] [(.int (8 : Int32)), (.int ((p1.toUInt32 >>> ((16 : Int32) &&& 31).toUInt32).toInt32))])) _
    refine XS.iushr X0.here hx rfl (hb hby d5_46) rfl ?_
    show Steps p.tables e below (s₁.setTop (mkF m 47 #[.val (.int ((p1.toUInt32 >>> ((16 : Int32) &&& 31).toUInt32).toInt32)), .val (.int (7 : Int32))] [(.int ((((p1.toUInt32 >>> ((16 : Int32) &&& 31).toUInt32).toInt32).toUInt32 >>> ((8 : Int32) &&& 31).toUInt32).toInt32))])) _
    refine XS.istoreN X0.here hx rfl (hb hby d5_47) rfl (l' := #[.val (.int ((((p1.toUInt32 >>> ((16 : Int32) &&& 31).toUInt32).toInt32).toUInt32 >>> ((8 : Int32) &&& 31).toUInt32).toInt32)), .val (.int (7 : Int32))]) rfl ?_
    show Steps p.tables e below (s₁.setTop (mkF m 48 #[.val (.int ((((p1.toUInt32 >>> ((16 : Int32) &&& 31).toUInt32).toInt32).toUInt32 >>> ((8 : Int32) &&& 31).toUInt32).toInt32)), .val (.int (7 : Int32))] [])) _
    refine XS.iloadN X0.here hx rfl (hb hby d5_48) rfl ?_
    show Steps p.tables e below (s₁.setTop (mkF m 49 #[.val (.int ((((p1.toUInt32 >>> ((16 : Int32) &&& 31).toUInt32).toInt32).toUInt32 >>> ((8 : Int32) &&& 31).toUInt32).toInt32)), .val (.int (7 : Int32))] [(.int ((((p1.toUInt32 >>> ((16 : Int32) &&& 31).toUInt32).toInt32).toUInt32 >>> ((8 : Int32) &&& 31).toUInt32).toInt32))])) _
    refine XS.bipush X0.here hx rfl (hb hby d5_49) ?_
    show Steps p.tables e below (s₁.setTop (mkF m 51 #[.val (.int ((((p1.toUInt32 >>> ((16 : Int32) &&& 31).toUInt32).toInt32).toUInt32 >>> ((8 : Int32) &&& 31).toUInt32).toInt32)), .val (.int (7 : Int32))] [(.int (16 : Int32)), (.int ((((p1.toUInt32 >>> ((16 : Int32) &&& 31).toUInt32).toInt32).toUInt32 >>> ((8 : Int32) &&& 31).toUInt32).toInt32))])) _
    refine XS.icmpYes X0.here hx rfl (pc0 := 51) (pc' := 61) rfl (hb hby d5_51) rfl (tlt hc3).1 (by decide) (by decide) ?_
    show Steps p.tables e below (s₁.setTop (mkF m 61 #[.val (.int ((((p1.toUInt32 >>> ((16 : Int32) &&& 31).toUInt32).toInt32).toUInt32 >>> ((8 : Int32) &&& 31).toUInt32).toInt32)), .val (.int (7 : Int32))] [])) _
    refine XS.iloadN X0.here hx rfl (hb hby d5_61) rfl ?_
    show Steps p.tables e below (s₁.setTop (mkF m 62 #[.val (.int ((((p1.toUInt32 >>> ((16 : Int32) &&& 31).toUInt32).toInt32).toUInt32 >>> ((8 : Int32) &&& 31).toUInt32).toInt32)), .val (.int (7 : Int32))] [(.int ((((p1.toUInt32 >>> ((16 : Int32) &&& 31).toUInt32).toInt32).toUInt32 >>> ((8 : Int32) &&& 31).toUInt32).toInt32))])) _
    refine XS.iconst X0.here hx rfl (hb hby d5_62) ?_
    show Steps p.tables e below (s₁.setTop (mkF m 63 #[.val (.int ((((p1.toUInt32 >>> ((16 : Int32) &&& 31).toUInt32).toInt32).toUInt32 >>> ((8 : Int32) &&& 31).toUInt32).toInt32)), .val (.int (7 : Int32))] [(.int (4 : Int32)), (.int ((((p1.toUInt32 >>> ((16 : Int32) &&& 31).toUInt32).toInt32).toUInt32 >>> ((8 : Int32) &&& 31).toUInt32).toInt32))])) _
    refine XS.icmpYes X0.here hx rfl (pc0 := 63) (pc' := 73) rfl (hb hby d5_63) rfl (tlt hc4).1 (by decide) (by decide) ?_
    show Steps p.tables e below (s₁.setTop (mkF m 73 #[.val (.int ((((p1.toUInt32 >>> ((16 : Int32) &&& 31).toUInt32).toInt32).toUInt32 >>> ((8 : Int32) &&& 31).toUInt32).toInt32)), .val (.int (7 : Int32))] [])) _
    refine XS.iloadN X0.here hx rfl (hb hby d5_73) rfl ?_
    show Steps p.tables e below (s₁.setTop (mkF m 74 #[.val (.int ((((p1.toUInt32 >>> ((16 : Int32) &&& 31).toUInt32).toInt32).toUInt32 >>> ((8 : Int32) &&& 31).toUInt32).toInt32)), .val (.int (7 : Int32))] [(.int (7 : Int32))])) _
    refine XS.iloadN X0.here hx rfl (hb hby d5_74) rfl ?_
    show Steps p.tables e below (s₁.setTop (mkF m 75 #[.val (.int ((((p1.toUInt32 >>> ((16 : Int32) &&& 31).toUInt32).toInt32).toUInt32 >>> ((8 : Int32) &&& 31).toUInt32).toInt32)), .val (.int (7 : Int32))] [(.int ((((p1.toUInt32 >>> ((16 : Int32) &&& 31).toUInt32).toInt32).toUInt32 >>> ((8 : Int32) &&& 31).toUInt32).toInt32)), (.int (7 : Int32))])) _
    refine XS.iconst X0.here hx rfl (hb hby d5_75) ?_
    show Steps p.tables e below (s₁.setTop (mkF m 76 #[.val (.int ((((p1.toUInt32 >>> ((16 : Int32) &&& 31).toUInt32).toInt32).toUInt32 >>> ((8 : Int32) &&& 31).toUInt32).toInt32)), .val (.int (7 : Int32))] [(.int (1 : Int32)), (.int ((((p1.toUInt32 >>> ((16 : Int32) &&& 31).toUInt32).toInt32).toUInt32 >>> ((8 : Int32) &&& 31).toUInt32).toInt32)), (.int (7 : Int32))])) _
    refine XS.iushr X0.here hx rfl (hb hby d5_76) rfl ?_
    show Steps p.tables e below (s₁.setTop (mkF m 77 #[.val (.int ((((p1.toUInt32 >>> ((16 : Int32) &&& 31).toUInt32).toInt32).toUInt32 >>> ((8 : Int32) &&& 31).toUInt32).toInt32)), .val (.int (7 : Int32))] [(.int ((((((p1.toUInt32 >>> ((16 : Int32) &&& 31).toUInt32).toInt32).toUInt32 >>> ((8 : Int32) &&& 31).toUInt32).toInt32).toUInt32 >>> ((1 : Int32) &&& 31).toUInt32).toInt32)), (.int (7 : Int32))])) _
    refine XS.isub X0.here hx rfl (hb hby d5_77) rfl ?_
    show Steps p.tables e below (s₁.setTop (mkF m 78 #[.val (.int ((((p1.toUInt32 >>> ((16 : Int32) &&& 31).toUInt32).toInt32).toUInt32 >>> ((8 : Int32) &&& 31).toUInt32).toInt32)), .val (.int (7 : Int32))] [(.int ((7 : Int32) - ((((((p1.toUInt32 >>> ((16 : Int32) &&& 31).toUInt32).toInt32).toUInt32 >>> ((8 : Int32) &&& 31).toUInt32).toInt32).toUInt32 >>> ((1 : Int32) &&& 31).toUInt32).toInt32)))])) _
    exact retI X0 hx Bd.returns (hb hby d5_78) hr
  · show Q_inlz Z p1 h0 n0 _ s₁.heap _
    rw [e0]
    exact ⟨by rw [hret], N0, rfl⟩
set_option maxRecDepth 65536 in
set_option maxHeartbeats 40000000 in
theorem rm_inlz_tfftf (l : Launch) (Z : State) (a0 : Array Value) (hw : ∀ d ∈ tables_1, d.before a0 Z = true) (ws : List Jvm.Cond) (p1 : Int32) (h0 : Heap) (n0 : Nat) (Z0 : n0 ≤ h0.size) (hc0 : (0 : Int32) < p1) (hc1 : ¬ (p1 < (65536 : Int32))) (hc2 : ¬ (((p1.toUInt32 >>> ((16 : Int32) &&& 31).toUInt32).toInt32) < (256 : Int32))) (hc3 : ((((p1.toUInt32 >>> ((16 : Int32) &&& 31).toUInt32).toInt32).toUInt32 >>> ((8 : Int32) &&& 31).toUInt32).toInt32) < (16 : Int32)) (hc4 : ¬ (((((p1.toUInt32 >>> ((16 : Int32) &&& 31).toUInt32).toInt32).toUInt32 >>> ((8 : Int32) &&& 31).toUInt32).toInt32) < (4 : Int32))) (hret : (f_inlz p1) = ((5 : Int32) - ((((((((p1.toUInt32 >>> ((16 : Int32) &&& 31).toUInt32).toInt32).toUInt32 >>> ((8 : Int32) &&& 31).toUInt32).toInt32).toUInt32 >>> ((2 : Int32) &&& 31).toUInt32).toInt32).toUInt32 >>> ((1 : Int32) &&& 31).toUInt32).toInt32))) :
    MetFree l (⟨"java/lang/Integer", "numberOfLeadingZeros", "(I)I"⟩ : MethodName) (head1 (Jvm.Cond.code (⟨"java/lang/Integer", "numberOfLeadingZeros", "(I)I"⟩ : MethodName) jdk_33_method_47_code 2 (some .int) :: ws) ({ frames := 0, cells := 0, slots := 0, locals := 0 } : Room)) (fun a U => a = #[(.int p1)] ∧ Z.Warmed39 U.vm ∧ U.heap = h0) (fun _ _ _ _ _ => True) (fun _ U o U' => ∃ v L, o = .returned v ∧ Q_inlz Z p1 h0 n0 v U'.heap L ∧ FrameEnd U o U' L ({ frames := 0, cells := 0, slots := 0, locals := 0 } : Room).cells ({ frames := 0, cells := 0, slots := 0, locals := 0 } : Room).slots) := by
  refine MetFree.of_bodySF (plainFor_of_name pn_java_lang_Integer) hisR ?_
  intro p e s m args below meth c s₁ Bd hml0 hP hK
  obtain ⟨rfl, hZ, hh⟩ := hP
  have hx := Bd.exec
  have hby := Bd.bytes
  have hml : c.maxLocals = 2 := hml0
  have hown : s.vm.findClass "java/lang/Integer" = some m.cls := findClass_of_methodNamed Bd.named
  have hnm := (name_of_methodNamed Bd.named Bd.method).1
  have X0 : Stand p l e ({ frames := 0, cells := 0, slots := 0, locals := 0 } : Room) s m #[(.int p1)] below meth c s₁ [] 0 0 := Stand.of_body Bd
  have e0 : s₁.heap = h0 := by rw [← hh, Bd.state]; rfl
  have N0 := Fr.nil n0
  have pre0 : ∀ t, Steps p.tables e below (s₁.setTop (mkF m 0 #[.val (.int p1), .unset] [])) t → Steps p.tables e below (s₁.setTop (entryFrame m #[(.int p1)] 2)) t := fun t k => castTop (ef_5_I m p1) k
  obtain ⟨fs, hr, hrun, hended, hW, hsame⟩ := X0.leave (v := some (.int ((5 : Int32) - ((((((((p1.toUInt32 >>> ((16 : Int32) &&& 31).toUInt32).toInt32).toUInt32 >>> ((8 : Int32) &&& 31).toUInt32).toInt32).toUInt32 >>> ((2 : Int32) &&& 31).toUInt32).toInt32).toUInt32 >>> ((1 : Int32) &&& 31).toUInt32).toInt32)))) (fun h => by rw [Bd.returns] at h; cases h) Bd.notSynchronized
  refine ⟨_, _, pre0 _ ?_, hrun, hended, _, _, rfl, ?_, ⟨_, rfl⟩, hW, hsame.mono (by decide) (by decide)⟩
  · show Steps p.tables e below (s₁.setTop (mkF m 0 #[.val (.int p1), .unset] [])) _
    refine XS.iloadN X0.here hx rfl (hb hby d5_0) rfl ?_
    show Steps p.tables e below (s₁.setTop (mkF m 1 #[.val (.int p1), .unset] [(.int p1)])) _
    refine XS.ifYes X0.here hx rfl (pc0 := 1) (pc' := 15) rfl (hb hby d5_1) rfl ((if0 _ _).trans (tlt hc0).2.2.1) (by decide) (by decide) ?_
    show Steps p.tables e below (s₁.setTop (mkF m 15 #[.val (.int p1), .unset] [])) _
    refine XS.bipush X0.here hx rfl (hb hby d5_15) ?_
    show Steps p.tables e below (s₁.setTop (mkF m 17 #[.val (.int p1), .unset] [(.int (31 : Int32))])) _
    refine XS.istoreN X0.here hx rfl (hb hby d5_17) rfl (l' := #[.val (.int p1), .val (.int (31 : Int32))]) rfl ?_
    show Steps p.tables e below (s₁.setTop (mkF m 18 #[.val (.int p1), .val (.int (31 : Int32))] [])) _
    refine XS.iloadN X0.here hx rfl (hb hby d5_18) rfl ?_
    show Steps p.tables e below (s₁.setTop (mkF m 19 #[.val (.int p1), .val (.int (31 : Int32))] [(.int p1)])) _
    refine X0.ldcwInt hx hown (mvT hZ (hw _ (List.mem_of_getElem? (i := 26) rfl))) (g := (mkF m 19 #[.val (.int p1), .val (.int (31 : Int32))] [(.int p1)])) rfl (hb hby d5_19) _ ?_
    show Steps p.tables e below (s₁.setTop (mkF m 22 #[.val (.int p1), .val (.int (31 : Int32))] [(.int (65536 : Int32)), (.int p1)])) _
    refine XS.icmpNo X0.here hx rfl (hb hby d5_22) rfl (flt hc1).1 ?_
    show Steps p.tables e below (s₁.setTop (mkF m 25 #[.val (.int p1), .val (.int (31 : Int32))] [])) _
    refine XS.iinc X0.here hx rfl (hb hby d5_25) rfl (l' := #[.val (.int p1), .val (.int (15 : Int32))]) rfl ?_
    show Steps p.tables e below (s₁.setTop (mkF m 28 #[.val (.int p1), .val (.int (15 : Int32))] [])) _
    refine XS.iloadN X0.here hx rfl (hb hby d5_28) rfl ?_
    show Steps p.tables e below (s₁.setTop (mkF m 29 #[.val (.int p1), .val (.int (15 : Int32))] [(.int p1)])) _
    refine XS.bipush X0.here hx rfl (hb hby d5_29) ?_
    show Steps p.tables e below (s₁.setTop (mkF m 31 #[.val (.int p1), .val (.int (15 : Int32))] [(.int (16 : Int32)), (.int p1)])) _
    refine XS.iushr X0.here hx rfl (hb hby d5_31) rfl ?_
    show Steps p.tables e below (s₁.setTop (mkF m 32 #[.val (.int p1), .val (.int (15 : Int32))] [(.int ((p1.toUInt32 >>> ((16 : Int32) &&& 31).toUInt32).toInt32))])) _
    refine XS.istoreN X0.here hx rfl (hb hby d5_32) rfl (l' := #[.val (.int ((p1.toUInt32 >>> ((16 : Int32) &&& 31).toUInt32).toInt32)), .val (.int (15 : Int32))]) rfl ?_
    show Steps p.tables e below (s₁.setTop (mkF m 33 #[.val (.int ((p1.toUInt32 >>> ((16 : Int32) &&& 31).toUInt32).toInt32)), .val (.int (15 : Int32))] [])) _
    refine XS.iloadN X0.here hx rfl (hb hby d5_33) rfl ?_
    show Steps p.tables e below (s₁.setTop (mkF m 34 #[.val (.int ((p1.toUInt32 >>> ((16 : Int32) &&& 31).toUInt32).toInt32)), .val (.int (15 : Int32))] [(.int ((p1.toUInt32 >>> ((16 : Int32) &&& 31).toUInt32).toInt32))])) _
    refine XS.sipush X0.here hx rfl (hb hby d5_34) ?_
    show Steps p.tables e below (s₁.setTop (mkF m 37 #[.val (.int ((p1.toUInt32 >>> ((16 : Int32) &&& 31).toUInt32).toInt32)), .val (.int (15 : Int32))] [(.int (256 : Int32)), (.int ((p1.toUInt32 >>> ((16 : Int32) &&& 31).toUInt32).toInt32))])) _
    refine XS.icmpNo X0.here hx rfl (hb hby d5_37) rfl (flt hc2).1 ?_
    show Steps p.tables e below (s₁.setTop (mkF m 40 #[.val (.int ((p1.toUInt32 >>> ((16 : Int32) &&& 31).toUInt32).toInt32)), .val (.int (15 : Int32))] [])) _
    refine XS.iinc X0.here hx rfl (hb hby d5_40) rfl (l' := #[.val (.int ((p1.toUInt32 >>> ((16 : Int32) &&& 31).toUInt32).toInt32)), .val (.int (7 : Int32))]) rfl ?_
    show Steps p.tables e below (s₁.setTop (mkF m 43 #[.val (.int ((p1.toUInt32 >>> ((16 : Int32) &&& 31).toUInt32).toInt32)), .val (.int (7 : Int32))] [])) _
    refine XS.iloadN X0.here hx rfl (hb hby d5_43) rfl ?_
    show Steps p.tables e below (s₁.setTop (mkF m 44 #[.val (.int ((p1.toUInt32 >>> ((16 : Int32) &&& 31).toUInt32).toInt32)), .val (.int (7 : Int32))] [(.int ((p1.toUInt32 >>> ((16 : Int32) &&& 31).toUInt32).toInt32))])) _
    refine XS.bipush X0.here hx rfl (hb hby d5_44) ?_
    show Steps p.tables e below (s₁.setTop (mkF m 46 #[.val (.int ((p1.toUInt32 >>> ((16 : Int32) &&& 31).toUInt32).toInt32)), .val (.int (7 : Int32))] [(.int (8 : Int32)), (.int ((p1.toUInt32 >>> ((16 : Int32) &&& 31).toUInt32).toInt32))])) _
    refine XS.iushr X0.here hx rfl (hb hby d5_46) rfl ?_
    show Steps p.tables e below (s₁.setTop (mkF m 47 #[.val (.int ((p1.toUInt32 >>> ((16 : Int32) &&& 31).toUInt32).toInt32)), .val (.int (7 : Int32))] [(.int ((((p1.toUInt32 >>> ((16 : Int32) &&& 31).toUInt32).toInt32).toUInt32 >>> ((8 : Int32) &&& 31).toUInt32).toInt32))])) _
    refine XS.istoreN X0.here hx rfl (hb hby d5_47) rfl (l' := #[.val (.int ((((p1.toUInt32 >>> ((16 : Int32) &&& 31).toUInt32).toInt32).toUInt32 >>> ((8 : Int32) &&& 31).toUInt32).toInt32)), .val (.int (7 : Int32))]) rfl ?_
    show Steps p.tables e below (s₁.setTop (mkF m 48 #[.val (.int ((((p1.toUInt32 >>> ((16 : Int32) &&& 31).toUInt32).toInt32).toUInt32 >>> ((8 : Int32) &&& 31).toUInt32).toInt32)), .val (.int (7 : Int32))] [])) _
    refine XS.iloadN X0.here hx rfl (hb hby d5_48) rfl ?_
    show Steps p.tables e below (s₁.setTop (mkF m 49 #[.val (.int ((((p1.toUInt32 >>> ((16 : Int32) &&& 31).toUInt32).toInt32).toUInt32 >>> ((8 : Int32) &&& 31).toUInt32).toInt32)), .val (.int (7 : Int32))] [(.int ((((p1.toUInt32 >>> ((16 : Int32) &&& 31).toUInt32).toInt32).toUInt32 >>> ((8 : Int32) &&& 31).toUInt32).toInt32))])) _
    refine XS.bipush X0.here hx rfl (hb hby d5_49) ?_
    show Steps p.tables e below (s₁.setTop (mkF m 51 #[.val (.int ((((p1.toUInt32 >>> ((16 : Int32) &&& 31).toUInt32).toInt32).toUInt32 >>> ((8 : Int32) &&& 31).toUInt32).toInt32)), .val (.int (7 : Int32))] [(.int (16 : Int32)), (.int ((((p1.toUInt32 >>> ((16 : Int32) &&& 31).toUInt32).toInt32).toUInt32 >>> ((8 : Int32) &&& 31).toUInt32).toInt32))])) _
    refine XS.icmpYes X0.here hx rfl (pc0 := 51) (pc' := 61) rfl (hb hby d5_51) rfl (tlt hc3).1 (by decide) (by decide) ?_
    show Steps p.tables e below (s₁.setTop (mkF m 61 #[.val (.int ((((p1.toUInt32 >>> ((16 : Int32) &&& 31).toUInt32).toInt32).toUInt32 >>> ((8 : Int32) &&& 31).toUInt32).toInt32)), .val (.int (7 : Int32))] [])) _
    refine XS.iloadN X0.here hx rfl (hb hby d5_61) rfl ?_
    show Steps p.tables e below (s₁.setTop (mkF m 62 #[.val (.int ((((p1.toUInt32 >>> ((16 : Int32) &&& 31).toUInt32).toInt32).toUInt32 >>> ((8 : Int32) &&& 31).toUInt32).toInt32)), .val (.int (7 : Int32))] [(.int ((((p1.toUInt32 >>> ((16 : Int32) &&& 31).toUInt32).toInt32).toUInt32 >>> ((8 : Int32) &&& 31).toUInt32).toInt32))])) _
    refine XS.iconst X0.here hx rfl (hb hby d5_62) ?_
    show Steps p.tables e below (s₁.setTop (mkF m 63 #[.val (.int ((((p1.toUInt32 >>> ((16 : Int32) &&& 31).toUInt32).toInt32).toUInt32 >>> ((8 : Int32) &&& 31).toUInt32).toInt32)), .val (.int (7 : Int32))] [(.int (4 : Int32)), (.int ((((p1.toUInt32 >>> ((16 : Int32) &&& 31).toUInt32).toInt32).toUInt32 >>> ((8 : Int32) &&& 31).toUInt32).toInt32))])) _
    refine XS.icmpNo X0.here hx rfl (hb hby d5_63) rfl (flt hc4).1 ?_
    show Steps p.tables e below (s₁.setTop (mkF m 66 #[.val (.int ((((p1.toUInt32 >>> ((16 : Int32) &&& 31).toUInt32).toInt32).toUInt32 >>> ((8 : Int32) &&& 31).toUInt32).toInt32)), .val (.int (7 : Int32))] [])) _
    refine XS.iinc X0.here hx rfl (hb hby d5_66) rfl (l' := #[.val (.int ((((p1.toUInt32 >>> ((16 : Int32) &&& 31).toUInt32).toInt32).toUInt32 >>> ((8 : Int32) &&& 31).toUInt32).toInt32)), .val (.int (5 : Int32))]) rfl ?_
    show Steps p.tables e below (s₁.setTop (mkF m 69 #[.val (.int ((((p1.toUInt32 >>> ((16 : Int32) &&& 31).toUInt32).toInt32).toUInt32 >>> ((8 : Int32) &&& 31).toUInt32).toInt32)), .val (.int (5 : Int32))] [])) _
    refine XS.iloadN X0.here hx rfl (hb hby d5_69) rfl ?_
    show Steps p.tables e below (s₁.setTop (mkF m 70 #[.val (.int ((((p1.toUInt32 >>> ((16 : Int32) &&& 31).toUInt32).toInt32).toUInt32 >>> ((8 : Int32) &&& 31).toUInt32).toInt32)), .val (.int (5 : Int32))] [(.int ((((p1.toUInt32 >>> ((16 : Int32) &&& 31).toUInt32).toInt32).toUInt32 >>> ((8 : Int32) &&& 31).toUInt32).toInt32))])) _
    refine XS.iconst X0.here hx rfl (hb hby d5_70) ?_
    show Steps p.tables e below (s₁.setTop (mkF m 71 #[.val (.int ((((p1.toUInt32 >>> ((16 : Int32) &&& 31).toUInt32).toInt32).toUInt32 >>> ((8 : Int32) &&& 31).toUInt32).toInt32)), .val (.int (5 : Int32))] [(.int (2 : Int32)), (.int ((((p1.toUInt32 >>> ((16 : Int32) &&& 31).toUInt32).toInt32).toUInt32 >>> ((8 : Int32) &&& 31).toUInt32).toInt32))])) _
    refine XS.iushr X0.here hx rfl (hb hby d5_71) rfl ?_
    show Steps p.tables e below (s₁.setTop (mkF m 72 #[.val (.int ((((p1.toUInt32 >>> ((16 : Int32) &&& 31).toUInt32).toInt32).toUInt32 >>> ((8 : Int32) &&& 31).toUInt32).toInt32)), .val (.int (5 : Int32))] [(.int ((((((p1.toUInt32 >>> ((16 : Int32) &&& 31).toUInt32).toInt32).toUInt32 >>> ((8 : Int32) &&& 31).toUInt32).toInt32).toUInt32 >>> ((2 : Int32) &&& 31).toUInt32).toInt32))])) _
    refine XS.istoreN X0.here hx rfl (hb hby d5_72) rfl (l' := #[.val (.int ((((((p1.toUInt32 >>> ((16 : Int32) &&& 31).toUInt32).toInt32).toUInt32 >>> ((8 : Int32) &&& 31).toUInt32).toInt32).toUInt32 >>> ((2 : Int32) &&& 31).toUInt32).toInt32)), .val (.int (5 : Int32))]) rfl ?_
    show Steps p.tables e below (s₁.setTop (mkF m 73 #[.val (.int ((((((p1.toUInt32 >>> ((16 : Int32) &&& 31).toUInt32).toInt32).toUInt32 >>> ((8 : Int32) &&& 31).toUInt32).toInt32).toUInt32 >>> ((2 : Int32) &&& 31).toUInt32).toInt32)), .val (.int (5 : Int32))] [])) _
    refine XS.iloadN X0.here hx rfl (hb hby d5_73) rfl ?_
    show Steps p.tables e below (s₁.setTop (mkF m 74 #[.val (.int ((((((p1.toUInt32 >>> ((16 : Int32) &&& 31).toUInt32).toInt32).toUInt32 >>> ((8 : Int32) &&& 31).toUInt32).toInt32).toUInt32 >>> ((2 : Int32) &&& 31).toUInt32).toInt32)), .val (.int (5 : Int32))] [(.int (5 : Int32))])) _
    refine XS.iloadN X0.here hx rfl (hb hby d5_74) rfl ?_
    show Steps p.tables e below (s₁.setTop (mkF m 75 #[.val (.int ((((((p1.toUInt32 >>> ((16 : Int32) &&& 31).toUInt32).toInt32).toUInt32 >>> ((8 : Int32) &&& 31).toUInt32).toInt32).toUInt32 >>> ((2 : Int32) &&& 31).toUInt32).toInt32)), .val (.int (5 : Int32))] [(.int ((((((p1.toUInt32 >>> ((16 : Int32) &&& 31).toUInt32).toInt32).toUInt32 >>> ((8 : Int32) &&& 31).toUInt32).toInt32).toUInt32 >>> ((2 : Int32) &&& 31).toUInt32).toInt32)), (.int (5 : Int32))])) _
    refine XS.iconst X0.here hx rfl (hb hby d5_75) ?_
    show Steps p.tables e below (s₁.setTop (mkF m 76 #[.val (.int ((((((p1.toUInt32 >>> ((16 : Int32) &&& 31).toUInt32).toInt32).toUInt32 >>> ((8 : Int32) &&& 31).toUInt32).toInt32).toUInt32 >>> ((2 : Int32) &&& 31).toUInt32).toInt32)), .val (.int (5 : Int32))] [(.int (1 : Int32)), (.int ((((((p1.toUInt32 >>> ((16 : Int32) &&& 31).toUInt32).toInt32).toUInt32 >>> ((8 : Int32) &&& 31).toUInt32).toInt32).toUInt32 >>> ((2 : Int32) &&& 31).toUInt32).toInt32)), (.int (5 : Int32))])) _
    refine XS.iushr X0.here hx rfl (hb hby d5_76) rfl ?_
    show Steps p.tables e below (s₁.setTop (mkF m 77 #[.val (.int ((((((p1.toUInt32 >>> ((16 : Int32) &&& 31).toUInt32).toInt32).toUInt32 >>> ((8 : Int32) &&& 31).toUInt32).toInt32).toUInt32 >>> ((2 : Int32) &&& 31).toUInt32).toInt32)), .val (.int (5 : Int32))] [(.int ((((((((p1.toUInt32 >>> ((16 : Int32) &&& 31).toUInt32).toInt32).toUInt32 >>> ((8 : Int32) &&& 31).toUInt32).toInt32).toUInt32 >>> ((2 : Int32) &&& 31).toUInt32).toInt32).toUInt32 >>> ((1 : Int32) &&& 31).toUInt32).toInt32)), (.int (5 : Int32))])) _
    refine XS.isub X0.here hx rfl (hb hby d5_77) rfl ?_
    show Steps p.tables e below (s₁.setTop (mkF m 78 #[.val (.int ((((((p1.toUInt32 >>> ((16 : Int32) &&& 31).toUInt32).toInt32).toUInt32 >>> ((8 : Int32) &&& 31).toUInt32).toInt32).toUInt32 >>> ((2 : Int32) &&& 31).toUInt32).toInt32)), .val (.int (5 : Int32))] [(.int ((5 : Int32) - ((((((((p1.toUInt32 >>> ((16 : Int32) &&& 31).toUInt32).toInt32).toUInt32 >>> ((8 : Int32) &&& 31).toUInt32).toInt32).toUInt32 >>> ((2 : Int32) &&& 31).toUInt32).toInt32).toUInt32 >>> ((1 : Int32) &&& 31).toUInt32).toInt32)))])) _
    exact retI X0 hx Bd.returns (hb hby d5_78) hr
  · show Q_inlz Z p1 h0 n0 _ s₁.heap _
    rw [e0]
    exact ⟨by rw [hret], N0, rfl⟩
set_option maxRecDepth 65536 in
set_option maxHeartbeats 40000000 in
theorem rm_inlz_tffft (l : Launch) (Z : State) (a0 : Array Value) (hw : ∀ d ∈ tables_1, d.before a0 Z = true) (ws : List Jvm.Cond) (p1 : Int32) (h0 : Heap) (n0 : Nat) (Z0 : n0 ≤ h0.size) (hc0 : (0 : Int32) < p1) (hc1 : ¬ (p1 < (65536 : Int32))) (hc2 : ¬ (((p1.toUInt32 >>> ((16 : Int32) &&& 31).toUInt32).toInt32) < (256 : Int32))) (hc3 : ¬ (((((p1.toUInt32 >>> ((16 : Int32) &&& 31).toUInt32).toInt32).toUInt32 >>> ((8 : Int32) &&& 31).toUInt32).toInt32) < (16 : Int32))) (hc4 : ((((((p1.toUInt32 >>> ((16 : Int32) &&& 31).toUInt32).toInt32).toUInt32 >>> ((8 : Int32) &&& 31).toUInt32).toInt32).toUInt32 >>> ((4 : Int32) &&& 31).toUInt32).toInt32) < (4 : Int32)) (hret : (f_inlz p1) = ((3 : Int32) - ((((((((p1.toUInt32 >>> ((16 : Int32) &&& 31).toUInt32).toInt32).toUInt32 >>> ((8 : Int32) &&& 31).toUInt32).toInt32).toUInt32 >>> ((4 : Int32) &&& 31).toUInt32).toInt32).toUInt32 >>> ((1 : Int32) &&& 31).toUInt32).toInt32))) :
    MetFree l (⟨"java/lang/Integer", "numberOfLeadingZeros", "(I)I"⟩ : MethodName) (head1 (Jvm.Cond.code (⟨"java/lang/Integer", "numberOfLeadingZeros", "(I)I"⟩ : MethodName) jdk_33_method_47_code 2 (some .int) :: ws) ({ frames := 0, cells := 0, slots := 0, locals := 0 } : Room)) (fun a U => a = #[(.int p1)] ∧ Z.Warmed39 U.vm ∧ U.heap = h0) (fun _ _ _ _ _ => True) (fun _ U o U' => ∃ v L, o = .returned v ∧ Q_inlz Z p1 h0 n0 v U'.heap L ∧ FrameEnd U o U' L ({ frames := 0, cells := 0, slots := 0, locals := 0 } : Room).cells ({ frames := 0, cells := 0, slots := 0, locals := 0 } : Room).slots) := by
  refine MetFree.of_bodySF (plainFor_of_name pn_java_lang_Integer) hisR ?_
  intro p e s m args below meth c s₁ Bd hml0 hP hK
  obtain ⟨rfl, hZ, hh⟩ := hP
  have hx := Bd.exec
  have hby := Bd.bytes
  have hml : c.maxLocals = 2 := hml0
  have hown : s.vm.findClass "java/lang/Integer" = some m.cls := findClass_of_methodNamed Bd.named
  have hnm := (name_of_methodNamed Bd.named Bd.method).1
  have X0 : Stand p l e ({ frames := 0, cells := 0, slots := 0, locals := 0 } : Room) s m #[(.int p1)] below meth c s₁ [] 0 0 := Stand.of_body Bd
  have e0 : s₁.heap = h0 := by rw [← hh, Bd.state]; rfl
  have N0 := Fr.nil n0
  have pre0 : ∀ t, Steps p.tables e below (s₁.setTop (mkF m 0 #[.val (.int p1), .unset] [])) t → Steps p.tables e below (s₁.setTop (entryFrame m #[(.int p1)] 2)) t := fun t k => castTop (ef_5_I m p1) k
  obtain ⟨fs, hr, hrun, hended, hW, hsame⟩ := X0.leave (v := some (.int ((3 : Int32) - ((((((((p1.toUInt32 >>> ((16 : Int32) &&& 31).toUInt32).toInt32).toUInt32 >>> ((8 : Int32) &&& 31).toUInt32).toInt32).toUInt32 >>> ((4 : Int32) &&& 31).toUInt32).toInt32).toUInt32 >>> ((1 : Int32) &&& 31).toUInt32).toInt32)))) (fun h => by rw [Bd.returns] at h; cases h) Bd.notSynchronized
  refine ⟨_, _, pre0 _ ?_, hrun, hended, _, _, rfl, ?_, ⟨_, rfl⟩, hW, hsame.mono (by decide) (by decide)⟩
  · show Steps p.tables e below (s₁.setTop (mkF m 0 #[.val (.int p1), .unset] [])) _
    refine XS.iloadN X0.here hx rfl (hb hby d5_0) rfl ?_
    show Steps p.tables e below (s₁.setTop (mkF m 1 #[.val (.int p1), .unset] [(.int p1)])) _
    refine XS.ifYes X0.here hx rfl (pc0 := 1) (pc' := 15) rfl (hb hby d5_1) rfl ((if0 _ _).trans (tlt hc0).2.2.1) (by decide) (by decide) ?_
    show Steps p.tables e below (s₁.setTop (mkF m 15 #[.val (.int p1), .unset] [])) _
    refine XS.bipush X0.here hx rfl (hb hby d5_15) ?_
    show Steps p.tables e below (s₁.setTop (mkF m 17 #[.val (.int p1), .unset] [(.int (31 : Int32))])) _
    refine XS.istoreN X0.here hx rfl (hb hby d5_17) rfl (l' := #[.val (.int p1), .val (.int (31 : Int32))]) rfl ?_
    show Steps p.tables e below (s₁.setTop (mkF m 18 #[.val (.int p1), .val (.int (31 : Int32))] [])) _
    refine XS.iloadN X0.here hx rfl (hb hby d5_18) rfl ?_
    show Steps p.tables e below (s₁.setTop (mkF m 19 #[.val (.int p1), .val (.int (31 : Int32))] [(.int p1)])) _
    refine X0.ldcwInt hx hown (mvT hZ (hw _ (List.mem_of_getElem? (i := 26) rfl))) (g := (mkF m 19 #[.val (.int p1), .val (.int (31 : Int32))] [(.int p1)])) rfl (hb hby d5_19) _ ?_
    show Steps p.tables e below (s₁.setTop (mkF m 22 #[.val (.int p1), .val (.int (31 : Int32))] [(.int (65536 : Int32)), (.int p1)])) _
    refine XS.icmpNo X0.here hx rfl (hb hby d5_22) rfl (flt hc1).1 ?_
    show Steps p.tables e below (s₁.setTop (mkF m 25 #[.val (.int p1), .val (.int (31 : Int32))] [])) _
    refine XS.iinc X0.here hx rfl (hb hby d5_25) rfl (l' := #[.val (.int p1), .val (.int (15 : Int32))]) rfl ?_
    show Steps p.tables e below (s₁.setTop (mkF m 28 #[.val (.int p1), .val (.int (15 : Int32))] [])) _
    refine XS.iloadN X0.here hx rfl (hb hby d5_28) rfl ?_
    show Steps p.tables e below (s₁.setTop (mkF m 29 #[.val (.int p1), .val (.int (15 : Int32))] [(.int p1)])) _
    refine XS.bipush X0.here hx rfl (hb hby d5_29) ?_
    show Steps p.tables e below (s₁.setTop (mkF m 31 #[.val (.int p1), .val (.int (15 : Int32))] [(.int (16 : Int32)), (.int p1)])) _
    refine XS.iushr X0.here hx rfl (hb hby d5_31) rfl ?_
    show Steps p.tables e below (s₁.setTop (mkF m 32 #[.val (.int p1), .val (.int (15 : Int32))] [(.int ((p1.toUInt32 >>> ((16 : Int32) &&& 31).toUInt32).toInt32))])) _
    refine XS.istoreN X0.here hx rfl (hb hby d5_32) rfl (l' := #[.val (.int ((p1.toUInt32 >>> ((16 : Int32) &&& 31).toUInt32).toInt32)), .val (.int (15 : Int32))]) rfl ?_
    show Steps p.tables e below (s₁.setTop (mkF m 33 #[.val (.int ((p1.toUInt32 >>> ((16 : Int32) &&& 31).toUInt32).toInt32)), .val (.int (15 : Int32))] [])) _
    refine XS.iloadN X0.here hx rfl (hb hby d5_33) rfl ?_
    show Steps p.tables e below (s₁.setTop (mkF m 34 #[.val (.int ((p1.toUInt32 >>> ((16 : Int32) &&& 31).toUInt32).toInt32)), .val (.int (15 : Int32))] [(.int ((p1.toUInt32 >>> ((16 : Int32) &&& 31).toUInt32).toInt32))])) _
    refine XS.sipush X0.here hx rfl (hb hby d5_34) ?_
    show Steps p.tables e below (s₁.setTop (mkF m 37 #[.val (.int ((p1.toUInt32 >>> ((16 : Int32) &&& 31).toUInt32).toInt32)), .val (.int (15 : Int32))] [(.int (256 : Int32)), (.int ((p1.toUInt32 >>> ((16 : Int32) &&& 31).toUInt32).toInt32))])) _
    refine XS.icmpNo X0.here hx rfl (hb hby d5_37) rfl (flt hc2).1 ?_
    show Steps p.tables e below (s₁.setTop (mkF m 40 #[.val (.int ((p1.toUInt32 >>> ((16 : Int32) &&& 31).toUInt32).toInt32)), .val (.int (15 : Int32))] [])) _
    refine XS.iinc X0.here hx rfl (hb hby d5_40) rfl (l' := #[.val (.int ((p1.toUInt32 >>> ((16 : Int32) &&& 31).toUInt32).toInt32)), .val (.int (7 : Int32))]) rfl ?_
    show Steps p.tables e below (s₁.setTop (mkF m 43 #[.val (.int ((p1.toUInt32 >>> ((16 : Int32) &&& 31).toUInt32).toInt32)), .val (.int (7 : Int32))] [])) _
    refine XS.iloadN X0.here hx rfl (hb hby d5_43) rfl ?_
    show Steps p.tables e below (s₁.setTop (mkF m 44 #[.val (.int ((p1.toUInt32 >>> ((16 : Int32) &&& 31).toUInt32).toInt32)), .val (.int (7 : Int32))] [(.int ((p1.toUInt32 >>> ((16 : Int32) &&& 31).toUInt32).toInt32))])) _
    refine XS.bipush X0.here hx rfl (hb hby d5_44) ?_
    show Steps p.tables e below (s₁.setTop (mkF m 46 #[.val (.int ((p1.toUInt32 >>> ((16 : Int32) &&& 31).toUInt32).toInt32)), .val (.int (7 : Int32))] [(.int (8 : Int32)), (.int ((p1.toUInt32 >>> ((16 : Int32) &&& 31).toUInt32).toInt32))])) _
    refine XS.iushr X0.here hx rfl (hb hby d5_46) rfl ?_
    show Steps p.tables e below (s₁.setTop (mkF m 47 #[.val (.int ((p1.toUInt32 >>> ((16 : Int32) &&& 31).toUInt32).toInt32)), .val (.int (7 : Int32))] [(.int ((((p1.toUInt32 >>> ((16 : Int32) &&& 31).toUInt32).toInt32).toUInt32 >>> ((8 : Int32) &&& 31).toUInt32).toInt32))])) _
    refine XS.istoreN X0.here hx rfl (hb hby d5_47) rfl (l' := #[.val (.int ((((p1.toUInt32 >>> ((16 : Int32) &&& 31).toUInt32).toInt32).toUInt32 >>> ((8 : Int32) &&& 31).toUInt32).toInt32)), .val (.int (7 : Int32))]) rfl ?_
    show Steps p.tables e below (s₁.setTop (mkF m 48 #[.val (.int ((((p1.toUInt32 >>> ((16 : Int32) &&& 31).toUInt32).toInt32).toUInt32 >>> ((8 : Int32) &&& 31).toUInt32).toInt32)), .val (.int (7 : Int32))] [])) _
    refine XS.iloadN X0.here hx rfl (hb hby d5_48) rfl ?_
    show Steps p.tables e below (s₁.setTop (mkF m 49 #[.val (.int ((((p1.toUInt32 >>> ((16 : Int32) &&& 31).toUInt32).toInt32).toUInt32 >>> ((8 : Int32) &&& 31).toUInt32).toInt32)), .val (.int (7 : Int32))] [(.int ((((p1.toUInt32 >>> ((16 : Int32) &&& 31).toUInt32).toInt32).toUInt32 >>> ((8 : Int32) &&& 31).toUInt32).toInt32))])) _
    refine XS.bipush X0.here hx rfl (hb hby d5_49) ?_
    show Steps p.tables e below (s₁.setTop (mkF m 51 #[.val (.int ((((p1.toUInt32 >>> ((16 : Int32) &&& 31).toUInt32).toInt32).toUInt32 >>> ((8 : Int32) &&& 31).toUInt32).toInt32)), .val (.int (7 : Int32))] [(.int (16 : Int32)), (.int ((((p1.toUInt32 >>> ((16 : Int32) &&& 31).toUInt32).toInt32).toUInt32 >>> ((8 : Int32) &&& 31).toUInt32).toInt32))])) _
    refine XS.icmpNo X0.here hx rfl (hb hby d5_51) rfl (flt hc3).1 ?_
    show Steps p.tables e below (s₁.setTop (mkF m 54 #[.val (.int ((((p1.toUInt32 >>> ((16 : Int32) &&& 31).toUInt32).toInt32).toUInt32 >>> ((8 : Int32) &&& 31).toUInt32).toInt32)), .val (.int (7 : Int32))] [])) _
    refine XS.iinc X0.here hx rfl (hb hby d5_54) rfl (l' := #[.val (.int ((((p1.toUInt32 >>> ((16 : Int32) &&& 31).toUInt32).toInt32).toUInt32 >>> ((8 : Int32) &&& 31).toUInt32).toInt32)), .val (.int (3 : Int32))]) rfl ?_
    show Steps p.tables e below (s₁.setTop (mkF m 57 #[.val (.int ((((p1.toUInt32 >>> ((16 : Int32) &&& 31).toUInt32).toInt32).toUInt32 >>> ((8 : Int32) &&& 31).toUInt32).toInt32)), .val (.int (3 : Int32))] [])) _
    refine XS.iloadN X0.here hx rfl (hb hby d5_57) rfl ?_
    show Steps p.tables e below (s₁.setTop (mkF m 58 #[.val (.int ((((p1.toUInt32 >>> ((16 : Int32) &&& 31).toUInt32).toInt32).toUInt32 >>> ((8 : Int32) &&& 31).toUInt32).toInt32)), .val (.int (3 : Int32))] [(.int ((((p1.toUInt32 >>> ((16 : Int32) &&& 31).toUInt32).toInt32).toUInt32 >>> ((8 : Int32) &&& 31).toUInt32).toInt32))])) _
    refine XS.iconst X0.here hx rfl (hb hby d5_58) ?_
    show Steps p.tables e below (s₁.setTop (mkF m 59 #[.val (.int ((((p1.toUInt32 >>> ((16 : Int32) &&& 31).toUInt32).toInt32).toUInt32 >>> ((8 : Int32) &&& 31).toUInt32).toInt32)), .val (.int (3 : Int32))] [(.int (4 : Int32)), (.int ((((p1.toUInt32 >>> ((16 : Int32) &&& 31).toUInt32).toInt32).toUInt32 >>> ((8 : Int32) &&& 31).toUInt32).toInt32))])) _
    refine XS.iushr X0.here hx rfl (hb hby d5_59) rfl ?_
    show Steps p.tables e below (s₁.setTop (mkF m 60 #[.val (.int ((((p1.toUInt32 >>> ((16 : Int32) &&& 31).toUInt32).toInt32).toUInt32 >>> ((8 : Int32) &&& 31).toUInt32).toInt32)), .val (.int (3 : Int32))] [(.int ((((((p1.toUInt32 >>> ((16 : Int32) &&& 31).toUInt32).toInt32).toUInt32 >>> ((8 : Int32) &&& 31).toUInt32).toInt32).toUInt32 >>> ((4 : Int32) &&& 31).toUInt32).toInt32))])) _
    refine XS.istoreN X0.here hx rfl (hb hby d5_60) rfl (l' := #[.val (.int ((((((p1.toUInt32 >>> ((16 : Int32) &&& 31).toUInt32).toInt32).toUInt32 >>> ((8 : Int32) &&& 31).toUInt32).toInt32).toUInt32 >>> ((4 : Int32) &&& 31).toUInt32).toInt32)), .val (.int (3 : Int32))]) rfl ?_
    show Steps p.tables e below (s₁.setTop (mkF m 61 #[.val (.int ((((((p1.toUInt32 >>> ((16 : Int32) &&& 31).toUInt32).toInt32).toUInt32 >>> ((8 : Int32) &&& 31).toUInt32).toInt32).toUInt32 >>> ((4 : Int32) &&& 31).toUInt32).toInt32)), .val (.int (3 : Int32))] [])) _
    refine XS.iloadN X0.here hx rfl (hb hby d5_61) rfl ?_
    show Steps p.tables e below (s₁.setTop (mkF m 62 #[.val (.int ((((((p1.toUInt32 >>> ((16 : Int32) &&& 31).toUInt32).toInt32).toUInt32 >>> ((8 : Int32) &&& 31).toUInt32).toInt32).toUInt32 >>> ((4 : Int32) &&& 31).toUInt32).toInt32)), .val (.int (3 : Int32))] [(.int ((((((p1.toUInt32 >>> ((16 : Int32) &&& 31).toUInt32).toInt32).toUInt32 >>> ((8 : Int32) &&& 31).toUInt32).toInt32).toUInt32 >>> ((4 : Int32) &&& 31).toUInt32).toInt32))])) _
    refine XS.iconst X0.here hx rfl (hb hby d5_62) ?_
    show Steps p.tables e below (s₁.setTop (mkF m 63 #[.val (.int ((((((p1.toUInt32 >>> ((16 : Int32) &&& 31).toUInt32).toInt32).toUInt32 >>> ((8 : Int32) &&& 31).toUInt32).toInt32).toUInt32 >>> ((4 : Int32) &&& 31).toUInt32).toInt32)), .val (.int (3 : Int32))] [(.int (4 : Int32)), (.int ((((((p1.toUInt32 >>> ((16 : Int32) &&& 31).toUInt32).toInt32).toUInt32 >>> ((8 : Int32) &&& 31).toUInt32).toInt32).toUInt32 >>> ((4 : Int32) &&& 31).toUInt32).toInt32))])) _
    refine XS.icmpYes X0.here hx rfl (pc0 := 63) (pc' := 73) rfl (hb hby d5_63) rfl (tlt hc4).1 (by decide) (by decide) ?_
    show Steps p.tables e below (s₁.setTop (mkF m 73 #[.val (.int ((((((p1.toUInt32 >>> ((16 : Int32) &&& 31).toUInt32).toInt32).toUInt32 >>> ((8 : Int32) &&& 31).toUInt32).toInt32).toUInt32 >>> ((4 : Int32) &&& 31).toUInt32).toInt32)), .val (.int (3 : Int32))] [])) _
    refine XS.iloadN X0.here hx rfl (hb hby d5_73) rfl ?_
    show Steps p.tables e below (s₁.setTop (mkF m 74 #[.val (.int ((((((p1.toUInt32 >>> ((16 : Int32) &&& 31).toUInt32).toInt32).toUInt32 >>> ((8 : Int32) &&& 31).toUInt32).toInt32).toUInt32 >>> ((4 : Int32) &&& 31).toUInt32).toInt32)), .val (.int (3 : Int32))] [(.int (3 : Int32))])) _
    refine XS.iloadN X0.here hx rfl (hb hby d5_74) rfl ?_
    show Steps p.tables e below (s₁.setTop (mkF m 75 #[.val (.int ((((((p1.toUInt32 >>> ((16 : Int32) &&& 31).toUInt32).toInt32).toUInt32 >>> ((8 : Int32) &&& 31).toUInt32).toInt32).toUInt32 >>> ((4 : Int32) &&& 31).toUInt32).toInt32)), .val (.int (3 : Int32))] [(.int ((((((p1.toUInt32 >>> ((16 : Int32) &&& 31).toUInt32).toInt32).toUInt32 >>> ((8 : Int32) &&& 31).toUInt32).toInt32).toUInt32 >>> ((4 : Int32) &&& 31).toUInt32).toInt32)), (.int (3 : Int32))])) _
    refine XS.iconst X0.here hx rfl (hb hby d5_75) ?_
    show Steps p.tables e below (s₁.setTop (mkF m 76 #[.val (.int ((((((p1.toUInt32 >>> ((16 : Int32) &&& 31).toUInt32).toInt32).toUInt32 >>> ((8 : Int32) &&& 31).toUInt32).toInt32).toUInt32 >>> ((4 : Int32) &&& 31).toUInt32).toInt32)), .val (.int (3 : Int32))] [(.int (1 : Int32)), (.int ((((((p1.toUInt32 >>> ((16 : Int32) &&& 31).toUInt32).toInt32).toUInt32 >>> ((8 : Int32) &&& 31).toUInt32).toInt32).toUInt32 >>> ((4 : Int32) &&& 31).toUInt32).toInt32)), (.int (3 : Int32))])) _
    refine XS.iushr X0.here hx rfl (hb hby d5_76) rfl ?_
    show Steps p.tables e below (s₁.setTop (mkF m 77 #[.val (.int ((((((p1.toUInt32 >>> ((16 : Int32) &&& 31).toUInt32).toInt32).toUInt32 >>> ((8 : Int32) &&& 31).toUInt32).toInt32).toUInt32 >>> ((4 : Int32) &&& 31).toUInt32).toInt32)), .val (.int (3 : Int32))] [(.int ((((((((p1.toUInt32 >>> ((16 : Int32) &&& 31).toUInt32).toInt32).toUInt32 >>> ((8 : Int32) &&& 31).toUInt32).toInt32).toUInt32 >>> ((4 : Int32) &&& 31).toUInt32).toInt32).toUInt32 >>> ((1 : Int32) &&& 31).toUInt32).toInt32)), (.int (3 : Int32))])) _
    refine XS.isub X0.here hx rfl (hb hby d5_77) rfl ?_
    show Steps p.tables e below (s₁.setTop (mkF m 78 #[.val (.int ((((((p1.toUInt32 >>> ((16 : Int32) &&& 31).toUInt32).toInt32).toUInt32 >>> ((8 : Int32) &&& 31).toUInt32).toInt32).toUInt32 >>> ((4 : Int32) &&& 31).toUInt32).toInt32)), .val (.int (3 : Int32))] [(.int ((3 : Int32) - ((((((((p1.toUInt32 >>> ((16 : Int32) &&& 31).toUInt32).toInt32).toUInt32 >>> ((8 : Int32) &&& 31).toUInt32).toInt32).toUInt32 >>> ((4 : Int32) &&& 31).toUInt32).toInt32).toUInt32 >>> ((1 : Int32) &&& 31).toUInt32).toInt32)))])) _
    exact retI X0 hx Bd.returns (hb hby d5_78) hr
  · show Q_inlz Z p1 h0 n0 _ s₁.heap _
    rw [e0]
    exact ⟨by rw [hret], N0, rfl⟩
set_option maxRecDepth 65536 in
set_option maxHeartbeats 40000000 in
theorem rm_inlz_tffff (l : Launch) (Z : State) (a0 : Array Value) (hw : ∀ d ∈ tables_1, d.before a0 Z = true) (ws : List Jvm.Cond) (p1 : Int32) (h0 : Heap) (n0 : Nat) (Z0 : n0 ≤ h0.size) (hc0 : (0 : Int32) < p1) (hc1 : ¬ (p1 < (65536 : Int32))) (hc2 : ¬ (((p1.toUInt32 >>> ((16 : Int32) &&& 31).toUInt32).toInt32) < (256 : Int32))) (hc3 : ¬ (((((p1.toUInt32 >>> ((16 : Int32) &&& 31).toUInt32).toInt32).toUInt32 >>> ((8 : Int32) &&& 31).toUInt32).toInt32) < (16 : Int32))) (hc4 : ¬ (((((((p1.toUInt32 >>> ((16 : Int32) &&& 31).toUInt32).toInt32).toUInt32 >>> ((8 : Int32) &&& 31).toUInt32).toInt32).toUInt32 >>> ((4 : Int32) &&& 31).toUInt32).toInt32) < (4 : Int32))) (hret : (f_inlz p1) = ((1 : Int32) - ((((((((((p1.toUInt32 >>> ((16 : Int32) &&& 31).toUInt32).toInt32).toUInt32 >>> ((8 : Int32) &&& 31).toUInt32).toInt32).toUInt32 >>> ((4 : Int32) &&& 31).toUInt32).toInt32).toUInt32 >>> ((2 : Int32) &&& 31).toUInt32).toInt32).toUInt32 >>> ((1 : Int32) &&& 31).toUInt32).toInt32))) :
    MetFree l (⟨"java/lang/Integer", "numberOfLeadingZeros", "(I)I"⟩ : MethodName) (head1 (Jvm.Cond.code (⟨"java/lang/Integer", "numberOfLeadingZeros", "(I)I"⟩ : MethodName) jdk_33_method_47_code 2 (some .int) :: ws) ({ frames := 0, cells := 0, slots := 0, locals := 0 } : Room)) (fun a U => a = #[(.int p1)] ∧ Z.Warmed39 U.vm ∧ U.heap = h0) (fun _ _ _ _ _ => True) (fun _ U o U' => ∃ v L, o = .returned v ∧ Q_inlz Z p1 h0 n0 v U'.heap L ∧ FrameEnd U o U' L ({ frames := 0, cells := 0, slots := 0, locals := 0 } : Room).cells ({ frames := 0, cells := 0, slots := 0, locals := 0 } : Room).slots) := by
  refine MetFree.of_bodySF (plainFor_of_name pn_java_lang_Integer) hisR ?_
  intro p e s m args below meth c s₁ Bd hml0 hP hK
  obtain ⟨rfl, hZ, hh⟩ := hP
  have hx := Bd.exec
  have hby := Bd.bytes
  have hml : c.maxLocals = 2 := hml0
  have hown : s.vm.findClass "java/lang/Integer" = some m.cls := findClass_of_methodNamed Bd.named
  have hnm := (name_of_methodNamed Bd.named Bd.method).1
  have X0 : Stand p l e ({ frames := 0, cells := 0, slots := 0, locals := 0 } : Room) s m #[(.int p1)] below meth c s₁ [] 0 0 := Stand.of_body Bd
  have e0 : s₁.heap = h0 := by rw [← hh, Bd.state]; rfl
  have N0 := Fr.nil n0
  have pre0 : ∀ t, Steps p.tables e below (s₁.setTop (mkF m 0 #[.val (.int p1), .unset] [])) t → Steps p.tables e below (s₁.setTop (entryFrame m #[(.int p1)] 2)) t := fun t k => castTop (ef_5_I m p1) k
  obtain ⟨fs, hr, hrun, hended, hW, hsame⟩ := X0.leave (v := some (.int ((1 : Int32) - ((((((((((p1.toUInt32 >>> ((16 : Int32) &&& 31).toUInt32).toInt32).toUInt32 >>> ((8 : Int32) &&& 31).toUInt32).toInt32).toUInt32 >>> ((4 : Int32) &&& 31).toUInt32).toInt32).toUInt32 >>> ((2 : Int32) &&& 31).toUInt32).toInt32).toUInt32 >>> ((1 : Int32) &&& 31).toUInt32).toInt32)))) (fun h => by rw [Bd.returns] at h; cases h) Bd.notSynchronized
  refine ⟨_, _, pre0 _ ?_, hrun, hended, _, _, rfl, ?_, ⟨_, rfl⟩, hW, hsame.mono (by decide) (by decide)⟩
  · show Steps p.tables e below (s₁.setTop (mkF m 0 #[.val (.int p1), .unset] [])) _
    refine XS.iloadN X0.here hx rfl (hb hby d5_0) rfl ?_
    show Steps p.tables e below (s₁.setTop (mkF m 1 #[.val (.int p1), .unset] [(.int p1)])) _
    refine XS.ifYes X0.here hx rfl (pc0 := 1) (pc' := 15) rfl (hb hby d5_1) rfl ((if0 _ _).trans (tlt hc0).2.2.1) (by decide) (by decide) ?_
    show Steps p.tables e below (s₁.setTop (mkF m 15 #[.val (.int p1), .unset] [])) _
    refine XS.bipush X0.here hx rfl (hb hby d5_15) ?_
    show Steps p.tables e below (s₁.setTop (mkF m 17 #[.val (.int p1), .unset] [(.int (31 : Int32))])) _
    refine XS.istoreN X0.here hx rfl (hb hby d5_17) rfl (l' := #[.val (.int p1), .val (.int (31 : Int32))]) rfl ?_
    show Steps p.tables e below (s₁.setTop (mkF m 18 #[.val (.int p1), .val (.int (31 : Int32))] [])) _
    refine XS.iloadN X0.here hx rfl (hb hby d5_18) rfl ?_
    show Steps p.tables e below (s₁.setTop (mkF m 19 #[.val (.int p1), .val (.int (31 : Int32))] [(.int p1)])) _
    refine X0.ldcwInt hx hown (mvT hZ (hw _ (List.mem_of_getElem? (i := 26) rfl))) (g := (mkF m 19 #[.val (.int p1), .val (.int (31 : Int32))] [(.int p1)])) rfl (hb hby d5_19) _ ?_
    show Steps p.tables e below (s₁.setTop (mkF m 22 #[.val (.int p1), .val (.int (31 : Int32))] [(.int (65536 : Int32)), (.int p1)])) _
    refine XS.icmpNo X0.here hx rfl (hb hby d5_22) rfl (flt hc1).1 ?_
    show Steps p.tables e below (s₁.setTop (mkF m 25 #[.val (.int p1), .val (.int (31 : Int32))] [])) _
    refine XS.iinc X0.here hx rfl (hb hby d5_25) rfl (l' := #[.val (.int p1), .val (.int (15 : Int32))]) rfl ?_
    show Steps p.tables e below (s₁.setTop (mkF m 28 #[.val (.int p1), .val (.int (15 : Int32))] [])) _
    refine XS.iloadN X0.here hx rfl (hb hby d5_28) rfl ?_
    show Steps p.tables e below (s₁.setTop (mkF m 29 #[.val (.int p1), .val (.int (15 : Int32))] [(.int p1)])) _
    refine XS.bipush X0.here hx rfl (hb hby d5_29) ?_
    show Steps p.tables e below (s₁.setTop (mkF m 31 #[.val (.int p1), .val (.int (15 : Int32))] [(.int (16 : Int32)), (.int p1)])) _
    refine XS.iushr X0.here hx rfl (hb hby d5_31) rfl ?_
    show Steps p.tables e below (s₁.setTop (mkF m 32 #[.val (.int p1), .val (.int (15 : Int32))] [(.int ((p1.toUInt32 >>> ((16 : Int32) &&& 31).toUInt32).toInt32))])) _
    refine XS.istoreN X0.here hx rfl (hb hby d5_32) rfl (l' := #[.val (.int ((p1.toUInt32 >>> ((16 : Int32) &&& 31).toUInt32).toInt32)), .val (.int (15 : Int32))]) rfl ?_
    show Steps p.tables e below (s₁.setTop (mkF m 33 #[.val (.int ((p1.toUInt32 >>> ((16 : Int32) &&& 31).toUInt32).toInt32)), .val (.int (15 : Int32))] [])) _
    refine XS.iloadN X0.here hx rfl (hb hby d5_33) rfl ?_
    show Steps p.tables e below (s₁.setTop (mkF m 34 #[.val (.int ((p1.toUInt32 >>> ((16 : Int32) &&& 31).toUInt32).toInt32)), .val (.int (15 : Int32))] [(.int ((p1.toUInt32 >>> ((16 : Int32) &&& 31).toUInt32).toInt32))])) _
    refine XS.sipush X0.here hx rfl (hb hby d5_34) ?_
    show Steps p.tables e below (s₁.setTop (mkF m 37 #[.val (.int ((p1.toUInt32 >>> ((16 : Int32) &&& 31).toUInt32).toInt32)), .val (.int (15 : Int32))] [(.int (256 : Int32)), (.int ((p1.toUInt32 >>> ((16 : Int32) &&& 31).toUInt32).toInt32))])) _
    refine XS.icmpNo X0.here hx rfl (hb hby d5_37) rfl (flt hc2).1 ?_
    show Steps p.tables e below (s₁.setTop (mkF m 40 #[.val (.int ((p1.toUInt32 >>> ((16 : Int32) &&& 31).toUInt32).toInt32)), .val (.int (15 : Int32))] [])) _
    refine XS.iinc X0.here hx rfl (hb hby d5_40) rfl (l' := #[.val (.int ((p1.toUInt32 >>> ((16 : Int32) &&& 31).toUInt32).toInt32)), .val (.int (7 : Int32))]) rfl ?_
    show Steps p.tables e below (s₁.setTop (mkF m 43 #[.val (.int ((p1.toUInt32 >>> ((16 : Int32) &&& 31).toUInt32).toInt32)), .val (.int (7 : Int32))] [])) _
    refine XS.iloadN X0.here hx rfl (hb hby d5_43) rfl ?_
    show Steps p.tables e below (s₁.setTop (mkF m 44 #[.val (.int ((p1.toUInt32 >>> ((16 : Int32) &&& 31).toUInt32).toInt32)), .val (.int (7 : Int32))] [(.int ((p1.toUInt32 >>> ((16 : Int32) &&& 31).toUInt32).toInt32))])) _
    refine XS.bipush X0.here hx rfl (hb hby d5_44) ?_
    show Steps p.tables e below (s₁.setTop (mkF m 46 #[.val (.int ((p1.toUInt32 >>> ((16 : Int32) &&& 31).toUInt32).toInt32)), .val (.int (7 : Int32))] [(.int (8 : Int32)), (.int ((p1.toUInt32 >>> ((16 : Int32) &&& 31).toUInt32).toInt32))])) _
    refine XS.iushr X0.here hx rfl (hb hby d5_46) rfl ?_
    show Steps p.tables e below (s₁.setTop (mkF m 47 #[.val (.int ((p1.toUInt32 >>> ((16 : Int32) &&& 31).toUInt32).toInt32)), .val (.int (7 : Int32))] [(.int ((((p1.toUInt32 >>> ((16 : Int32) &&& 31).toUInt32).toInt32).toUInt32 >>> ((8 : Int32) &&& 31).toUInt32).toInt32))])) _
    refine XS.istoreN X0.here hx rfl (hb hby d5_47) rfl (l' := #[.val (.int ((((p1.toUInt32 >>> ((16 : Int32) &&& 31).toUInt32).toInt32).toUInt32 >>> ((8 : Int32) &&& 31).toUInt32).toInt32)), .val (.int (7 : Int32))]) rfl ?_
    show Steps p.tables e below (s₁.setTop (mkF m 48 #[.val (.int ((((p1.toUInt32 >>> ((16 : Int32) &&& 31).toUInt32).toInt32).toUInt32 >>> ((8 : Int32) &&& 31).toUInt32).toInt32)), .val (.int (7 : Int32))] [])) _
    refine XS.iloadN X0.here hx rfl (hb hby d5_48) rfl ?_
    show Steps p.tables e below (s₁.setTop (mkF m 49 #[.val (.int ((((p1.toUInt32 >>> ((16 : Int32) &&& 31).toUInt32).toInt32).toUInt32 >>> ((8 : Int32) &&& 31).toUInt32).toInt32)), .val (.int (7 : Int32))] [(.int ((((p1.toUInt32 >>> ((16 : Int32) &&& 31).toUInt32).toInt32).toUInt32 >>> ((8 : Int32) &&& 31).toUInt32).toInt32))])) _
    refine XS.bipush X0.here hx rfl (hb hby d5_49) ?_
    show Steps p.tables e below (s₁.setTop (mkF m 51 #[.val (.int ((((p1.toUInt32 >>> ((16 : Int32) &&& 31).toUInt32).toInt32).toUInt32 >>> ((8 : Int32) &&& 31).toUInt32).toInt32)), .val (.int (7 : Int32))] [(.int (16 : Int32)), (.int ((((p1.toUInt32 >>> ((16 : Int32) &&& 31).toUInt32).toInt32).toUInt32 >>> ((8 : Int32) &&& 31).toUInt32).toInt32))])) _
    refine XS.icmpNo X0.here hx rfl (hb hby d5_51) rfl (flt hc3).1 ?_
    show Steps p.tables e below (s₁.setTop (mkF m 54 #[.val (.int ((((p1.toUInt32 >>> ((16 : Int32) &&& 31).toUInt32).toInt32).toUInt32 >>> ((8 : Int32) &&& 31).toUInt32).toInt32)), .val (.int (7 : Int32))] [])) _
    refine XS.iinc X0.here hx rfl (hb hby d5_54) rfl (l' := #[.val (.int ((((p1.toUInt32 >>> ((16 : Int32) &&& 31).toUInt32).toInt32).toUInt32 >>> ((8 : Int32) &&& 31).toUInt32).toInt32)), .val (.int (3 : Int32))]) rfl ?_
    show Steps p.tables e below (s₁.setTop (mkF m 57 #[.val (.int ((((p1.toUInt32 >>> ((16 : Int32) &&& 31).toUInt32).toInt32).toUInt32 >>> ((8 : Int32) &&& 31).toUInt32).toInt32)), .val (.int (3 : Int32))] [])) _
    refine XS.iloadN X0.here hx rfl (hb hby d5_57) rfl ?_
    show Steps p.tables e below (s₁.setTop (mkF m 58 #[.val (.int ((((p1.toUInt32 >>> ((16 : Int32) &&& 31).toUInt32).toInt32).toUInt32 >>> ((8 : Int32) &&& 31).toUInt32).toInt32)), .val (.int (3 : Int32))] [(.int ((((p1.toUInt32 >>> ((16 : Int32) &&& 31).toUInt32).toInt32).toUInt32 >>> ((8 : Int32) &&& 31).toUInt32).toInt32))])) _
    refine XS.iconst X0.here hx rfl (hb hby d5_58) ?_
    show Steps p.tables e below (s₁.setTop (mkF m 59 #[.val (.int ((((p1.toUInt32 >>> ((16 : Int32) &&& 31).toUInt32).toInt32).toUInt32 >>> ((8 : Int32) &&& 31).toUInt32).toInt32)), .val (.int (3 : Int32))] [(.int (4 : Int32)), (.int ((((p1.toUInt32 >>> ((16 : Int32) &&& 31).toUInt32).toInt32).toUInt32 >>> ((8 : Int32) &&& 31).toUInt32).toInt32))])) _
    refine XS.iushr X0.here hx rfl (hb hby d5_59) rfl ?_
    show Steps p.tables e below (s₁.setTop (mkF m 60 #[.val (.int ((((p1.toUInt32 >>> ((16 : Int32) &&& 31).toUInt32).toInt32).toUInt32 >>> ((8 : Int32) &&& 31).toUInt32).toInt32)), .val (.int (3 : Int32))] [(.int ((((((p1.toUInt32 >>> ((16 : Int32) &&& 31).toUInt32).toInt32).toUInt32 >>> ((8 : Int32) &&& 31).toUInt32).toInt32).toUInt32 >>> ((4 : Int32) &&& 31).toUInt32).toInt32))])) _
    refine XS.istoreN X0.here hx rfl (hb hby d5_60) rfl (l' := #[.val (.int ((((((p1.toUInt32 >>> ((16 : Int32) &&& 31).toUInt32).toInt32).toUInt32 >>> ((8 : Int32) &&& 31).toUInt32).toInt32).toUInt32 >>> ((4 : Int32) &&& 31).toUInt32).toInt32)), .val (.int (3 : Int32))]) rfl ?_
    show Steps p.tables e below (s₁.setTop (mkF m 61 #[.val (.int ((((((p1.toUInt32 >>> ((16 : Int32) &&& 31).toUInt32).toInt32).toUInt32 >>> ((8 : Int32) &&& 31).toUInt32).toInt32).toUInt32 >>> ((4 : Int32) &&& 31).toUInt32).toInt32)), .val (.int (3 : Int32))] [])) _
    refine XS.iloadN X0.here hx rfl (hb hby d5_61) rfl ?_
    show Steps p.tables e below (s₁.setTop (mkF m 62 #[.val (.int ((((((p1.toUInt32 >>> ((16 : Int32) &&& 31).toUInt32).toInt32).toUInt32 >>> ((8 : Int32) &&& 31).toUInt32).toInt32).toUInt32 >>> ((4 : Int32) &&& 31).toUInt32).toInt32)), .val (.int (3 : Int32))] [(.int ((((((p1.toUInt32 >>> ((16 : Int32) &&& 31).toUInt32).toInt32).toUInt32 >>> ((8 : Int32) &&& 31).toUInt32).toInt32).toUInt32 >>> ((4 : Int32) &&& 31).toUInt32).toInt32))])) _
    refine XS.iconst X0.here hx rfl (hb hby d5_62) ?_
    show Steps p.tables e below (s₁.setTop (mkF m 63 #[.val (.int ((((((p1.toUInt32 >>> ((16 : Int32) &&& 31).toUInt32).toInt32).toUInt32 >>> ((8 : Int32) &&& 31).toUInt32).toInt32).toUInt32 >>> ((4 : Int32) &&& 31).toUInt32).toInt32)), .val (.int (3 : Int32))] [(.int (4 : Int32)), (.int ((((((p1.toUInt32 >>> ((16 : Int32) &&& 31).toUInt32).toInt32).toUInt32 >>> ((8 : Int32) &&& 31).toUInt32).toInt32).toUInt32 >>> ((4 : Int32) &&& 31).toUInt32).toInt32))])) _
    refine XS.icmpNo X0.here hx rfl (hb hby d5_63) rfl (flt hc4).1 ?_
    show Steps p.tables e below (s₁.setTop (mkF m 66 #[.val (.int ((((((p1.toUInt32 >>> ((16 : Int32) &&& 31).toUInt32).toInt32).toUInt32 >>> ((8 : Int32) &&& 31).toUInt32).toInt32).toUInt32 >>> ((4 : Int32) &&& 31).toUInt32).toInt32)), .val (.int (3 : Int32))] [])) _
    refine XS.iinc X0.here hx rfl (hb hby d5_66) rfl (l' := #[.val (.int ((((((p1.toUInt32 >>> ((16 : Int32) &&& 31).toUInt32).toInt32).toUInt32 >>> ((8 : Int32) &&& 31).toUInt32).toInt32).toUInt32 >>> ((4 : Int32) &&& 31).toUInt32).toInt32)), .val (.int (1 : Int32))]) rfl ?_
    show Steps p.tables e below (s₁.setTop (mkF m 69 #[.val (.int ((((((p1.toUInt32 >>> ((16 : Int32) &&& 31).toUInt32).toInt32).toUInt32 >>> ((8 : Int32) &&& 31).toUInt32).toInt32).toUInt32 >>> ((4 : Int32) &&& 31).toUInt32).toInt32)), .val (.int (1 : Int32))] [])) _
    refine XS.iloadN X0.here hx rfl (hb hby d5_69) rfl ?_
    show Steps p.tables e below (s₁.setTop (mkF m 70 #[.val (.int ((((((p1.toUInt32 >>> ((16 : Int32) &&& 31).toUInt32).toInt32).toUInt32 >>> ((8 : Int32) &&& 31).toUInt32).toInt32).toUInt32 >>> ((4 : Int32) &&& 31).toUInt32).toInt32)), .val (.int (1 : Int32))] [(.int ((((((p1.toUInt32 >>> ((16 : Int32) &&& 31).toUInt32).toInt32).toUInt32 >>> ((8 : Int32) &&& 31).toUInt32).toInt32).toUInt32 >>> ((4 : Int32) &&& 31).toUInt32).toInt32))])) _
    refine XS.iconst X0.here hx rfl (hb hby d5_70) ?_
    show Steps p.tables e below (s₁.setTop (mkF m 71 #[.val (.int ((((((p1.toUInt32 >>> ((16 : Int32) &&& 31).toUInt32).toInt32).toUInt32 >>> ((8 : Int32) &&& 31).toUInt32).toInt32).toUInt32 >>> ((4 : Int32) &&& 31).toUInt32).toInt32)), .val (.int (1 : Int32))] [(.int (2 : Int32)), (.int ((((((p1.toUInt32 >>> ((16 : Int32) &&& 31).toUInt32).toInt32).toUInt32 >>> ((8 : Int32) &&& 31).toUInt32).toInt32).toUInt32 >>> ((4 : Int32) &&& 31).toUInt32).toInt32))])) _
    refine XS.iushr X0.here hx rfl (hb hby d5_71) rfl ?_
    show Steps p.tables e below (s₁.setTop (mkF m 72 #[.val (.int ((((((p1.toUInt32 >>> ((16 : Int32) &&& 31).toUInt32).toInt32).toUInt32 >>> ((8 : Int32) &&& 31).toUInt32).toInt32).toUInt32 >>> ((4 : Int32) &&& 31).toUInt32).toInt32)), .val (.int (1 : Int32))] [(.int ((((((((p1.toUInt32 >>> ((16 : Int32) &&& 31).toUInt32).toInt32).toUInt32 >>> ((8 : Int32) &&& 31).toUInt32).toInt32).toUInt32 >>> ((4 : Int32) &&& 31).toUInt32).toInt32).toUInt32 >>> ((2 : Int32) &&& 31).toUInt32).toInt32))])) _
    refine XS.istoreN X0.here hx rfl (hb hby d5_72) rfl (l' := #[.val (.int ((((((((p1.toUInt32 >>> ((16 : Int32) &&& 31).toUInt32).toInt32).toUInt32 >>> ((8 : Int32) &&& 31).toUInt32).toInt32).toUInt32 >>> ((4 : Int32) &&& 31).toUInt32).toInt32).toUInt32 >>> ((2 : Int32) &&& 31).toUInt32).toInt32)), .val (.int (1 : Int32))]) rfl ?_
    show Steps p.tables e below (s₁.setTop (mkF m 73 #[.val (.int ((((((((p1.toUInt32 >>> ((16 : Int32) &&& 31).toUInt32).toInt32).toUInt32 >>> ((8 : Int32) &&& 31).toUInt32).toInt32).toUInt32 >>> ((4 : Int32) &&& 31).toUInt32).toInt32).toUInt32 >>> ((2 : Int32) &&& 31).toUInt32).toInt32)), .val (.int (1 : Int32))] [])) _
    refine XS.iloadN X0.here hx rfl (hb hby d5_73) rfl ?_
    show Steps p.tables e below (s₁.setTop (mkF m 74 #[.val (.int ((((((((p1.toUInt32 >>> ((16 : Int32) &&& 31).toUInt32).toInt32).toUInt32 >>> ((8 : Int32) &&& 31).toUInt32).toInt32).toUInt32 >>> ((4 : Int32) &&& 31).toUInt32).toInt32).toUInt32 >>> ((2 : Int32) &&& 31).toUInt32).toInt32)), .val (.int (1 : Int32))] [(.int (1 : Int32))])) _
    refine XS.iloadN X0.here hx rfl (hb hby d5_74) rfl ?_
    show Steps p.tables e below (s₁.setTop (mkF m 75 #[.val (.int ((((((((p1.toUInt32 >>> ((16 : Int32) &&& 31).toUInt32).toInt32).toUInt32 >>> ((8 : Int32) &&& 31).toUInt32).toInt32).toUInt32 >>> ((4 : Int32) &&& 31).toUInt32).toInt32).toUInt32 >>> ((2 : Int32) &&& 31).toUInt32).toInt32)), .val (.int (1 : Int32))] [(.int ((((((((p1.toUInt32 >>> ((16 : Int32) &&& 31).toUInt32).toInt32).toUInt32 >>> ((8 : Int32) &&& 31).toUInt32).toInt32).toUInt32 >>> ((4 : Int32) &&& 31).toUInt32).toInt32).toUInt32 >>> ((2 : Int32) &&& 31).toUInt32).toInt32)), (.int (1 : Int32))])) _
    refine XS.iconst X0.here hx rfl (hb hby d5_75) ?_
    show Steps p.tables e below (s₁.setTop (mkF m 76 #[.val (.int ((((((((p1.toUInt32 >>> ((16 : Int32) &&& 31).toUInt32).toInt32).toUInt32 >>> ((8 : Int32) &&& 31).toUInt32).toInt32).toUInt32 >>> ((4 : Int32) &&& 31).toUInt32).toInt32).toUInt32 >>> ((2 : Int32) &&& 31).toUInt32).toInt32)), .val (.int (1 : Int32))] [(.int (1 : Int32)), (.int ((((((((p1.toUInt32 >>> ((16 : Int32) &&& 31).toUInt32).toInt32).toUInt32 >>> ((8 : Int32) &&& 31).toUInt32).toInt32).toUInt32 >>> ((4 : Int32) &&& 31).toUInt32).toInt32).toUInt32 >>> ((2 : Int32) &&& 31).toUInt32).toInt32)), (.int (1 : Int32))])) _
    refine XS.iushr X0.here hx rfl (hb hby d5_76) rfl ?_
    show Steps p.tables e below (s₁.setTop (mkF m 77 #[.val (.int ((((((((p1.toUInt32 >>> ((16 : Int32) &&& 31).toUInt32).toInt32).toUInt32 >>> ((8 : Int32) &&& 31).toUInt32).toInt32).toUInt32 >>> ((4 : Int32) &&& 31).toUInt32).toInt32).toUInt32 >>> ((2 : Int32) &&& 31).toUInt32).toInt32)), .val (.int (1 : Int32))] [(.int ((((((((((p1.toUInt32 >>> ((16 : Int32) &&& 31).toUInt32).toInt32).toUInt32 >>> ((8 : Int32) &&& 31).toUInt32).toInt32).toUInt32 >>> ((4 : Int32) &&& 31).toUInt32).toInt32).toUInt32 >>> ((2 : Int32) &&& 31).toUInt32).toInt32).toUInt32 >>> ((1 : Int32) &&& 31).toUInt32).toInt32)), (.int (1 : Int32))])) _
    refine XS.isub X0.here hx rfl (hb hby d5_77) rfl ?_
    show Steps p.tables e below (s₁.setTop (mkF m 78 #[.val (.int ((((((((p1.toUInt32 >>> ((16 : Int32) &&& 31).toUInt32).toInt32).toUInt32 >>> ((8 : Int32) &&& 31).toUInt32).toInt32).toUInt32 >>> ((4 : Int32) &&& 31).toUInt32).toInt32).toUInt32 >>> ((2 : Int32) &&& 31).toUInt32).toInt32)), .val (.int (1 : Int32))] [(.int ((1 : Int32) - ((((((((((p1.toUInt32 >>> ((16 : Int32) &&& 31).toUInt32).toInt32).toUInt32 >>> ((8 : Int32) &&& 31).toUInt32).toInt32).toUInt32 >>> ((4 : Int32) &&& 31).toUInt32).toInt32).toUInt32 >>> ((2 : Int32) &&& 31).toUInt32).toInt32).toUInt32 >>> ((1 : Int32) &&& 31).toUInt32).toInt32)))])) _
    exact retI X0 hx Bd.returns (hb hby d5_78) hr
  · show Q_inlz Z p1 h0 n0 _ s₁.heap _
    rw [e0]
    exact ⟨by rw [hret], N0, rfl⟩
set_option maxRecDepth 65536 in
set_option maxHeartbeats 40000000 in
theorem rm_inlz (l : Launch) (Z : State) (a0 : Array Value) (hw : ∀ d ∈ tables_1, d.before a0 Z = true) (ws : List Jvm.Cond) (p1 : Int32) (h0 : Heap) (n0 : Nat) (Z0 : n0 ≤ h0.size) :
    MetFree l (⟨"java/lang/Integer", "numberOfLeadingZeros", "(I)I"⟩ : MethodName) (head1 (Jvm.Cond.code (⟨"java/lang/Integer", "numberOfLeadingZeros", "(I)I"⟩ : MethodName) jdk_33_method_47_code 2 (some .int) :: ws) ({ frames := 0, cells := 0, slots := 0, locals := 0 } : Room)) (fun a U => a = #[(.int p1)] ∧ Z.Warmed39 U.vm ∧ U.heap = h0) (fun _ _ _ _ _ => True) (fun _ U o U' => ∃ v L, o = .returned v ∧ Q_inlz Z p1 h0 n0 v U'.heap L ∧ FrameEnd U o U' L ({ frames := 0, cells := 0, slots := 0, locals := 0 } : Room).cells ({ frames := 0, cells := 0, slots := 0, locals := 0 } : Room).slots) := by
  by_cases c0 : (0 : Int32) < p1
  · skip
    by_cases c1 : p1 < (65536 : Int32)
    · skip
      by_cases c2 : p1 < (256 : Int32)
      · skip
        by_cases c3 : p1 < (16 : Int32)
        · skip
          by_cases c4 : p1 < (4 : Int32)
          · skip
            exact rm_inlz_ttttt l Z a0 hw ws p1 h0 n0 Z0  c0 c1 c2 c3 c4 (by unfold f_inlz; rw [if_pos c0]; rw [if_pos c1]; rw [if_pos c2]; rw [if_pos c3]; rw [if_pos c4])
          · skip
            exact rm_inlz_ttttf l Z a0 hw ws p1 h0 n0 Z0  c0 c1 c2 c3 c4 (by unfold f_inlz; rw [if_pos c0]; rw [if_pos c1]; rw [if_pos c2]; rw [if_pos c3]; rw [if_neg c4])
        · skip
          by_cases c4 : ((p1.toUInt32 >>> ((4 : Int32) &&& 31).toUInt32).toInt32) < (4 : Int32)
          · skip
            exact rm_inlz_tttft l Z a0 hw ws p1 h0 n0 Z0  c0 c1 c2 c3 c4 (by unfold f_inlz; rw [if_pos c0]; rw [if_pos c1]; rw [if_pos c2]; rw [if_neg c3]; rw [if_pos c4])
          · skip
            exact rm_inlz_tttff l Z a0 hw ws p1 h0 n0 Z0  c0 c1 c2 c3 c4 (by unfold f_inlz; rw [if_pos c0]; rw [if_pos c1]; rw [if_pos c2]; rw [if_neg c3]; rw [if_neg c4])
      · skip
        by_cases c3 : ((p1.toUInt32 >>> ((8 : Int32) &&& 31).toUInt32).toInt32) < (16 : Int32)
        · skip
          by_cases c4 : ((p1.toUInt32 >>> ((8 : Int32) &&& 31).toUInt32).toInt32) < (4 : Int32)
          · skip
            exact rm_inlz_ttftt l Z a0 hw ws p1 h0 n0 Z0  c0 c1 c2 c3 c4 (by unfold f_inlz; rw [if_pos c0]; rw [if_pos c1]; rw [if_neg c2]; rw [if_pos c3]; rw [if_pos c4])
          · skip
            exact rm_inlz_ttftf l Z a0 hw ws p1 h0 n0 Z0  c0 c1 c2 c3 c4 (by unfold f_inlz; rw [if_pos c0]; rw [if_pos c1]; rw [if_neg c2]; rw [if_pos c3]; rw [if_neg c4])
        · skip
          by_cases c4 : ((((p1.toUInt32 >>> ((8 : Int32) &&& 31).toUInt32).toInt32).toUInt32 >>> ((4 : Int32) &&& 31).toUInt32).toInt32) < (4 : Int32)
          · skip
            exact rm_inlz_ttfft l Z a0 hw ws p1 h0 n0 Z0  c0 c1 c2 c3 c4 (by unfold f_inlz; rw [if_pos c0]; rw [if_pos c1]; rw [if_neg c2]; rw [if_neg c3]; rw [if_pos c4])
          · skip
            exact rm_inlz_ttfff l Z a0 hw ws p1 h0 n0 Z0  c0 c1 c2 c3 c4 (by unfold f_inlz; rw [if_pos c0]; rw [if_pos c1]; rw [if_neg c2]; rw [if_neg c3]; rw [if_neg c4])
    · skip
      by_cases c2 : ((p1.toUInt32 >>> ((16 : Int32) &&& 31).toUInt32).toInt32) < (256 : Int32)
      · skip
        by_cases c3 : ((p1.toUInt32 >>> ((16 : Int32) &&& 31).toUInt32).toInt32) < (16 : Int32)
        · skip
          by_cases c4 : ((p1.toUInt32 >>> ((16 : Int32) &&& 31).toUInt32).toInt32) < (4 : Int32)
          · skip
            exact rm_inlz_tfttt l Z a0 hw ws p1 h0 n0 Z0  c0 c1 c2 c3 c4 (by unfold f_inlz; rw [if_pos c0]; rw [if_neg c1]; rw [if_pos c2]; rw [if_pos c3]; rw [if_pos c4])
          · skip
            exact rm_inlz_tfttf l Z a0 hw ws p1 h0 n0 Z0  c0 c1 c2 c3 c4 (by unfold f_inlz; rw [if_pos c0]; rw [if_neg c1]; rw [if_pos c2]; rw [if_pos c3]; rw [if_neg c4])
        · skip
          by_cases c4 : ((((p1.toUInt32 >>> ((16 : Int32) &&& 31).toUInt32).toInt32).toUInt32 >>> ((4 : Int32) &&& 31).toUInt32).toInt32) < (4 : Int32)
          · skip
            exact rm_inlz_tftft l Z a0 hw ws p1 h0 n0 Z0  c0 c1 c2 c3 c4 (by unfold f_inlz; rw [if_pos c0]; rw [if_neg c1]; rw [if_pos c2]; rw [if_neg c3]; rw [if_pos c4])
          · skip
            exact rm_inlz_tftff l Z a0 hw ws p1 h0 n0 Z0  c0 c1 c2 c3 c4 (by unfold f_inlz; rw [if_pos c0]; rw [if_neg c1]; rw [if_pos c2]; rw [if_neg c3]; rw [if_neg c4])
      · skip
        by_cases c3 : ((((p1.toUInt32 >>> ((16 : Int32) &&& 31).toUInt32).toInt32).toUInt32 >>> ((8 : Int32) &&& 31).toUInt32).toInt32) < (16 : Int32)
        · skip
          by_cases c4 : ((((p1.toUInt32 >>> ((16 : Int32) &&& 31).toUInt32).toInt32).toUInt32 >>> ((8 : Int32) &&& 31).toUInt32).toInt32) < (4 : Int32)
          · skip
            exact rm_inlz_tfftt l Z a0 hw ws p1 h0 n0 Z0  c0 c1 c2 c3 c4 (by unfold f_inlz; rw [if_pos c0]; rw [if_neg c1]; rw [if_neg c2]; rw [if_pos c3]; rw [if_pos c4])
          · skip
            exact rm_inlz_tfftf l Z a0 hw ws p1 h0 n0 Z0  c0 c1 c2 c3 c4 (by unfold f_inlz; rw [if_pos c0]; rw [if_neg c1]; rw [if_neg c2]; rw [if_pos c3]; rw [if_neg c4])
        · skip
          by_cases c4 : ((((((p1.toUInt32 >>> ((16 : Int32) &&& 31).toUInt32).toInt32).toUInt32 >>> ((8 : Int32) &&& 31).toUInt32).toInt32).toUInt32 >>> ((4 : Int32) &&& 31).toUInt32).toInt32) < (4 : Int32)
          · skip
            exact rm_inlz_tffft l Z a0 hw ws p1 h0 n0 Z0  c0 c1 c2 c3 c4 (by unfold f_inlz; rw [if_pos c0]; rw [if_neg c1]; rw [if_neg c2]; rw [if_neg c3]; rw [if_pos c4])
          · skip
            exact rm_inlz_tffff l Z a0 hw ws p1 h0 n0 Z0  c0 c1 c2 c3 c4 (by unfold f_inlz; rw [if_pos c0]; rw [if_neg c1]; rw [if_neg c2]; rw [if_neg c3]; rw [if_neg c4])
  · skip
    by_cases c1 : p1 = (0 : Int32)
    · skip
      exact rm_inlz_ff l Z a0 hw ws p1 h0 n0 Z0  c0 c1 (by unfold f_inlz; rw [if_neg c0]; rw [if_pos c1])
    · skip
      exact rm_inlz_ft l Z a0 hw ws p1 h0 n0 Z0  c0 c1 (by unfold f_inlz; rw [if_neg c0]; rw [if_neg c1])
theorem pd_0 : parseMethodDescriptor "(I)I" = some ⟨[.int], some .int⟩ := by decide +kernel
theorem d4_0 : decode jdk_35_method_48_code 0 = .ok (.lload_n 0, 1) := by decide +kernel
theorem d4_1 : decode jdk_35_method_48_code 1 = .ok (.bipush 32, 2) := by decide +kernel
theorem d4_3 : decode jdk_35_method_48_code 3 = .ok (.lushr, 1) := by decide +kernel
theorem d4_4 : decode jdk_35_method_48_code 4 = .ok (.l2i, 1) := by decide +kernel
theorem d4_5 : decode jdk_35_method_48_code 5 = .ok (.istore_n 2, 1) := by decide +kernel
theorem d4_6 : decode jdk_35_method_48_code 6 = .ok (.iload_n 2, 1) := by decide +kernel
theorem d4_7 : decode jdk_35_method_48_code 7 = .ok (.ifCond .ne 14, 3) := by decide +kernel
theorem d4_21 : decode jdk_35_method_48_code 21 = .ok (.iload_n 2, 1) := by decide +kernel
theorem d4_22 : decode jdk_35_method_48_code 22 = .ok (.invokestatic 308, 3) := by decide +kernel
theorem d4_25 : decode jdk_35_method_48_code 25 = .ok (.ireturn, 1) := by decide +kernel
theorem d4_10 : decode jdk_35_method_48_code 10 = .ok (.bipush 32, 2) := by decide +kernel
theorem d4_12 : decode jdk_35_method_48_code 12 = .ok (.lload_n 0, 1) := by decide +kernel
theorem d4_13 : decode jdk_35_method_48_code 13 = .ok (.l2i, 1) := by decide +kernel
theorem d4_14 : decode jdk_35_method_48_code 14 = .ok (.invokestatic 308, 3) := by decide +kernel
theorem d4_17 : decode jdk_35_method_48_code 17 = .ok (.iadd, 1) := by decide +kernel
theorem d4_18 : decode jdk_35_method_48_code 18 = .ok (.goto 7, 3) := by decide +kernel
theorem pn_java_lang_Long : plainName "java/lang/Long" = true := by first | (simp [plainName, overriddenIn]; done) | decide +kernel
theorem ef_4_J (m : MethodId) (x0 : Int64) : entryFrame m #[(.long x0)] 3 = mkF m 0 #[.val (.long x0), .second, .unset] [] := by first | (simp [entryFrame, mkF, argsToLocals, Value.category]; done) | rfl
def f_lnlz (q1 : Int64) : Int32 := (if (((q1.toUInt64 >>> ((32 : Int32) &&& 0x3f).toInt64.toUInt64).toInt64).toInt32) = (0 : Int32) then ((32 : Int32) + (f_inlz (q1.toInt32))) else (f_inlz (((q1.toUInt64 >>> ((32 : Int32) &&& 0x3f).toInt64.toUInt64).toInt64).toInt32)))
def Q_lnlz (Z : State) (q1 : Int64) (h0 : Heap) (n0 : Nat) (v : Option Value) (h : Heap) (L : List Loc) : Prop := v = some (.int (f_lnlz q1)) ∧ Fr n0 L ∧ h = h0
set_option maxRecDepth 65536 in
set_option maxHeartbeats 40000000 in
theorem rm_lnlz_t (l : Launch) (Z : State) (a0 : Array Value) (hw : ∀ d ∈ tables_1, d.before a0 Z = true) (ws : List Jvm.Cond) (q1 : Int64) (h0 : Heap) (n0 : Nat) (Z0 : n0 ≤ h0.size) (hc0 : ¬ ((((q1.toUInt64 >>> ((32 : Int32) &&& 0x3f).toInt64.toUInt64).toInt64).toInt32) = (0 : Int32))) (hret : (f_lnlz q1) = (f_inlz (((q1.toUInt64 >>> ((32 : Int32) &&& 0x3f).toInt64.toUInt64).toInt64).toInt32))) :
    MetFree l (⟨"java/lang/Long", "numberOfLeadingZeros", "(J)I"⟩ : MethodName) (head1 (Jvm.Cond.code (⟨"java/lang/Long", "numberOfLeadingZeros", "(J)I"⟩ : MethodName) jdk_35_method_48_code 3 (some .int) :: ws) ({ frames := 1, cells := 0, slots := 0, locals := 14 } : Room)) (fun a U => a = #[(.long q1)] ∧ Z.Warmed39 U.vm ∧ U.heap = h0) (fun _ _ _ _ _ => True) (fun _ U o U' => ∃ v L, o = .returned v ∧ Q_lnlz Z q1 h0 n0 v U'.heap L ∧ FrameEnd U o U' L ({ frames := 1, cells := 0, slots := 0, locals := 14 } : Room).cells ({ frames := 1, cells := 0, slots := 0, locals := 14 } : Room).slots) := by
  refine MetFree.of_bodySF (plainFor_of_name pn_java_lang_Long) hisR ?_
  intro p e s m args below meth c s₁ Bd hml0 hP hK
  obtain ⟨rfl, hZ, hh⟩ := hP
  have hx := Bd.exec
  have hby := Bd.bytes
  have hml : c.maxLocals = 3 := hml0
  have hown : s.vm.findClass "java/lang/Long" = some m.cls := findClass_of_methodNamed Bd.named
  have hnm := (name_of_methodNamed Bd.named Bd.method).1
  have X0 : Stand p l e ({ frames := 1, cells := 0, slots := 0, locals := 14 } : Room) s m #[(.long q1)] below meth c s₁ [] 0 0 := Stand.of_body Bd
  have e0 : s₁.heap = h0 := by rw [← hh, Bd.state]; rfl
  have N0 := Fr.nil n0
  have pre0 : ∀ t, Steps p.tables e below (s₁.setTop (mkF m 0 #[.val (.long q1), .second, .unset] [])) t → Steps p.tables e below (s₁.setTop (entryFrame m #[(.long q1)] 3)) t := fun t k => castTop (ef_4_J m q1) k
  obtain ⟨_, _, ⟨T1, L1, k1, n1⟩, -, X1, ⟨Lc1, hQ1, l1, y1, z1⟩, st1⟩ := Jvm.LawKit.callS X0 hx (y := (⟨"java/lang/Integer", "numberOfLeadingZeros", "(I)I"⟩ : MethodName)) hown (mvT hZ (hw _ (List.mem_of_getElem? (i := 22) rfl))) (mvT hZ (hw _ (List.mem_of_getElem? (i := 23) rfl))) (mvT hZ (hw _ (List.mem_of_getElem? (i := 24) rfl))) (mvT hZ (hw _ (List.mem_of_getElem? (i := 25) rfl))) (by decide) (backOf (W := 0) (rm_inlz l Z a0 hw [] (((q1.toUInt64 >>> ((32 : Int32) &&& 0x3f).toInt64.toUInt64).toInt64).toInt32) h0 n0 Z0 ) hZ (hw _ (List.mem_of_getElem? (i := 25) rfl)) (hw _ (List.mem_of_getElem? (i := 24) rfl)) (by decide) (by decide)) (g := (mkF m 22 #[.val (.long q1), .second, .val (.int (((q1.toUInt64 >>> ((32 : Int32) &&& 0x3f).toInt64.toUInt64).toInt64).toInt32))] [(.int (((q1.toUInt64 >>> ((32 : Int32) &&& 0x3f).toInt64.toUInt64).toInt64).toInt32))])) rfl (by rw [hml]; rfl) (argsL := [(.int (((q1.toUInt64 >>> ((32 : Int32) &&& 0x3f).toInt64.toUInt64).toInt64).toInt32))]) (rest := []) (lenOf pd_0 rfl) rfl (by show 2 * 0 + _ ≤ _; exact Nat.le_of_eq rfl) (hb hby d4_22) (fun _ _ => ⟨rfl, e0, (by decide : 0 + 0 ≤ _), (by decide : 0 + 0 ≤ _)⟩)
  dsimp only [Pt.U, Pt.locs, Pt.cells, Pt.slots] at X1 l1 y1 z1 st1 hQ1
  subst l1 y1 z1
  obtain ⟨rfl, Nq1, e1⟩ := hQ1
  have N2 := Fr.app N0 Nq1
  obtain ⟨fs, hr, hrun, hended, hW, hsame⟩ := X1.leave (v := some (.int (f_inlz (((q1.toUInt64 >>> ((32 : Int32) &&& 0x3f).toInt64.toUInt64).toInt64).toInt32)))) (fun h => by rw [Bd.returns] at h; cases h) Bd.notSynchronized
  refine ⟨_, _, pre0 _ ?_, hrun, hended, _, _, rfl, ?_, ⟨_, rfl⟩, hW, hsame.mono (by decide) (by decide)⟩
  · show Steps p.tables e below (s₁.setTop (mkF m 0 #[.val (.long q1), .second, .unset] [])) _
    refine XS.lloadN X0.here hx rfl (hb hby d4_0) rfl ?_
    show Steps p.tables e below (s₁.setTop (mkF m 1 #[.val (.long q1), .second, .unset] [(.long q1)])) _
    refine XS.bipush X0.here hx rfl (hb hby d4_1) ?_
    show Steps p.tables e below (s₁.setTop (mkF m 3 #[.val (.long q1), .second, .unset] [(.int (32 : Int32)), (.long q1)])) _
    refine XS.lushr X0.here hx rfl (hb hby d4_3) rfl ?_
    show Steps p.tables e below (s₁.setTop (mkF m 4 #[.val (.long q1), .second, .unset] [(.long ((q1.toUInt64 >>> ((32 : Int32) &&& 0x3f).toInt64.toUInt64).toInt64))])) _
    refine XS.l2i X0.here hx rfl (hb hby d4_4) rfl ?_
    show Steps p.tables e below (s₁.setTop (mkF m 5 #[.val (.long q1), .second, .unset] [(.int (((q1.toUInt64 >>> ((32 : Int32) &&& 0x3f).toInt64.toUInt64).toInt64).toInt32))])) _
    refine XS.istoreN X0.here hx rfl (hb hby d4_5) rfl (l' := #[.val (.long q1), .second, .val (.int (((q1.toUInt64 >>> ((32 : Int32) &&& 0x3f).toInt64.toUInt64).toInt64).toInt32))]) rfl ?_
    show Steps p.tables e below (s₁.setTop (mkF m 6 #[.val (.long q1), .second, .val (.int (((q1.toUInt64 >>> ((32 : Int32) &&& 0x3f).toInt64.toUInt64).toInt64).toInt32))] [])) _
    refine XS.iloadN X0.here hx rfl (hb hby d4_6) rfl ?_
    show Steps p.tables e below (s₁.setTop (mkF m 7 #[.val (.long q1), .second, .val (.int (((q1.toUInt64 >>> ((32 : Int32) &&& 0x3f).toInt64.toUInt64).toInt64).toInt32))] [(.int (((q1.toUInt64 >>> ((32 : Int32) &&& 0x3f).toInt64.toUInt64).toInt64).toInt32))])) _
    refine XS.ifYes X0.here hx rfl (pc0 := 7) (pc' := 21) rfl (hb hby d4_7) rfl ((if0 _ _).trans (feq hc0).2) (by decide) (by decide) ?_
    show Steps p.tables e below (s₁.setTop (mkF m 21 #[.val (.long q1), .second, .val (.int (((q1.toUInt64 >>> ((32 : Int32) &&& 0x3f).toInt64.toUInt64).toInt64).toInt32))] [])) _
    refine XS.iloadN X0.here hx rfl (hb hby d4_21) rfl ?_
    show Steps p.tables e below (s₁.setTop (mkF m 22 #[.val (.long q1), .second, .val (.int (((q1.toUInt64 >>> ((32 : Int32) &&& 0x3f).toInt64.toUInt64).toInt64).toInt32))] [(.int (((q1.toUInt64 >>> ((32 : Int32) &&& 0x3f).toInt64.toUInt64).toInt64).toInt32))])) _
    refine st1 _ ?_
    show Steps p.tables e below (T1.setTop (mkF m 25 #[.val (.long q1), .second, .val (.int (((q1.toUInt64 >>> ((32 : Int32) &&& 0x3f).toInt64.toUInt64).toInt64).toInt32))] [(.int (f_inlz (((q1.toUInt64 >>> ((32 : Int32) &&& 0x3f).toInt64.toUInt64).toInt64).toInt32)))])) _
    exact retI X1 hx Bd.returns (hb hby d4_25) hr
  · show Q_lnlz Z q1 h0 n0 _ T1.heap _
    rw [e1]
    exact ⟨by rw [hret], N2, rfl⟩
set_option maxRecDepth 65536 in
set_option maxHeartbeats 40000000 in
theorem rm_lnlz_f (l : Launch) (Z : State) (a0 : Array Value) (hw : ∀ d ∈ tables_1, d.before a0 Z = true) (ws : List Jvm.Cond) (q1 : Int64) (h0 : Heap) (n0 : Nat) (Z0 : n0 ≤ h0.size) (hc0 : (((q1.toUInt64 >>> ((32 : Int32) &&& 0x3f).toInt64.toUInt64).toInt64).toInt32) = (0 : Int32)) (hret : (f_lnlz q1) = ((32 : Int32) + (f_inlz (q1.toInt32)))) :
    MetFree l (⟨"java/lang/Long", "numberOfLeadingZeros", "(J)I"⟩ : MethodName) (head1 (Jvm.Cond.code (⟨"java/lang/Long", "numberOfLeadingZeros", "(J)I"⟩ : MethodName) jdk_35_method_48_code 3 (some .int) :: ws) ({ frames := 1, cells := 0, slots := 0, locals := 14 } : Room)) (fun a U => a = #[(.long q1)] ∧ Z.Warmed39 U.vm ∧ U.heap = h0) (fun _ _ _ _ _ => True) (fun _ U o U' => ∃ v L, o = .returned v ∧ Q_lnlz Z q1 h0 n0 v U'.heap L ∧ FrameEnd U o U' L ({ frames := 1, cells := 0, slots := 0, locals := 14 } : Room).cells ({ frames := 1, cells := 0, slots := 0, locals := 14 } : Room).slots) := by
  refine MetFree.of_bodySF (plainFor_of_name pn_java_lang_Long) hisR ?_
  intro p e s m args below meth c s₁ Bd hml0 hP hK
  obtain ⟨rfl, hZ, hh⟩ := hP
  have hx := Bd.exec
  have hby := Bd.bytes
  have hml : c.maxLocals = 3 := hml0
  have hown : s.vm.findClass "java/lang/Long" = some m.cls := findClass_of_methodNamed Bd.named
  have hnm := (name_of_methodNamed Bd.named Bd.method).1
  have X0 : Stand p l e ({ frames := 1, cells := 0, slots := 0, locals := 14 } : Room) s m #[(.long q1)] below meth c s₁ [] 0 0 := Stand.of_body Bd
  have e0 : s₁.heap = h0 := by rw [← hh, Bd.state]; rfl
  have N0 := Fr.nil n0
  have pre0 : ∀ t, Steps p.tables e below (s₁.setTop (mkF m 0 #[.val (.long q1), .second, .unset] [])) t → Steps p.tables e below (s₁.setTop (entryFrame m #[(.long q1)] 3)) t := fun t k => castTop (ef_4_J m q1) k
  obtain ⟨_, _, ⟨T1, L1, k1, n1⟩, -, X1, ⟨Lc1, hQ1, l1, y1, z1⟩, st1⟩ := Jvm.LawKit.callS X0 hx (y := (⟨"java/lang/Integer", "numberOfLeadingZeros", "(I)I"⟩ : MethodName)) hown (mvT hZ (hw _ (List.mem_of_getElem? (i := 22) rfl))) (mvT hZ (hw _ (List.mem_of_getElem? (i := 23) rfl))) (mvT hZ (hw _ (List.mem_of_getElem? (i := 24) rfl))) (mvT hZ (hw _ (List.mem_of_getElem? (i := 25) rfl))) (by decide) (backOf (W := 1) (rm_inlz l Z a0 hw [] (q1.toInt32) h0 n0 Z0 ) hZ (hw _ (List.mem_of_getElem? (i := 25) rfl)) (hw _ (List.mem_of_getElem? (i := 24) rfl)) (by decide) (by decide)) (g := (mkF m 14 #[.val (.long q1), .second, .val (.int (((q1.toUInt64 >>> ((32 : Int32) &&& 0x3f).toInt64.toUInt64).toInt64).toInt32))] [(.int (q1.toInt32)), (.int (32 : Int32))])) rfl (by rw [hml]; rfl) (argsL := [(.int (q1.toInt32))]) (rest := [(.int (32 : Int32))]) (lenOf pd_0 rfl) rfl (by show 2 * 0 + _ ≤ _; exact Nat.le_of_eq rfl) (hb hby d4_14) (fun _ _ => ⟨rfl, e0, (by decide : 0 + 0 ≤ _), (by decide : 0 + 0 ≤ _)⟩)
  dsimp only [Pt.U, Pt.locs, Pt.cells, Pt.slots] at X1 l1 y1 z1 st1 hQ1
  subst l1 y1 z1
  obtain ⟨rfl, Nq1, e1⟩ := hQ1
  have N2 := Fr.app N0 Nq1
  obtain ⟨fs, hr, hrun, hended, hW, hsame⟩ := X1.leave (v := some (.int ((32 : Int32) + (f_inlz (q1.toInt32))))) (fun h => by rw [Bd.returns] at h; cases h) Bd.notSynchronized
  refine ⟨_, _, pre0 _ ?_, hrun, hended, _, _, rfl, ?_, ⟨_, rfl⟩, hW, hsame.mono (by decide) (by decide)⟩
  · show Steps p.tables e below (s₁.setTop (mkF m 0 #[.val (.long q1), .second, .unset] [])) _
    refine XS.lloadN X0.here hx rfl (hb hby d4_0) rfl ?_
    show Steps p.tables e below (s₁.setTop (mkF m 1 #[.val (.long q1), .second, .unset] [(.long q1)])) _
    refine XS.bipush X0.here hx rfl (hb hby d4_1) ?_
    show Steps p.tables e below (s₁.setTop (mkF m 3 #[.val (.long q1), .second, .unset] [(.int (32 : Int32)), (.long q1)])) _
    refine XS.lushr X0.here hx rfl (hb hby d4_3) rfl ?_
    show Steps p.tables e below (s₁.setTop (mkF m 4 #[.val (.long q1), .second, .unset] [(.long ((q1.toUInt64 >>> ((32 : Int32) &&& 0x3f).toInt64.toUInt64).toInt64))])) _
    refine XS.l2i X0.here hx rfl (hb hby d4_4) rfl ?_
    show Steps p.tables e below (s₁.setTop (mkF m 5 #[.val (.long q1), .second, .unset] [(.int (((q1.toUInt64 >>> ((32 : Int32) &&& 0x3f).toInt64.toUInt64).toInt64).toInt32))])) _
    refine XS.istoreN X0.here hx rfl (hb hby d4_5) rfl (l' := #[.val (.long q1), .second, .val (.int (((q1.toUInt64 >>> ((32 : Int32) &&& 0x3f).toInt64.toUInt64).toInt64).toInt32))]) rfl ?_
    show Steps p.tables e below (s₁.setTop (mkF m 6 #[.val (.long q1), .second, .val (.int (((q1.toUInt64 >>> ((32 : Int32) &&& 0x3f).toInt64.toUInt64).toInt64).toInt32))] [])) _
    refine XS.iloadN X0.here hx rfl (hb hby d4_6) rfl ?_
    show Steps p.tables e below (s₁.setTop (mkF m 7 #[.val (.long q1), .second, .val (.int (((q1.toUInt64 >>> ((32 : Int32) &&& 0x3f).toInt64.toUInt64).toInt64).toInt32))] [(.int (((q1.toUInt64 >>> ((32 : Int32) &&& 0x3f).toInt64.toUInt64).toInt64).toInt32))])) _
    refine XS.ifNo X0.here hx rfl (hb hby d4_7) rfl ((if0 _ _).trans (teq hc0).2) ?_
    show Steps p.tables e below (s₁.setTop (mkF m 10 #[.val (.long q1), .second, .val (.int (((q1.toUInt64 >>> ((32 : Int32) &&& 0x3f).toInt64.toUInt64).toInt64).toInt32))] [])) _
    refine XS.bipush X0.here hx rfl (hb hby d4_10) ?_
    show Steps p.tables e below (s₁.setTop (mkF m 12 #[.val (.long q1), .second, .val (.int (((q1.toUInt64 >>> ((32 : Int32) &&& 0x3f).toInt64.toUInt64).toInt64).toInt32))] [(.int (32 : Int32))])) _
    refine XS.lloadN X0.here hx rfl (hb hby d4_12) rfl ?_
    show Steps p.tables e below (s₁.setTop (mkF m 13 #[.val (.long q1), .second, .val (.int (((q1.toUInt64 >>> ((32 : Int32) &&& 0x3f).toInt64.toUInt64).toInt64).toInt32))] [(.long q1), (.int (32 : Int32))])) _
    refine XS.l2i X0.here hx rfl (hb hby d4_13) rfl ?_
    show Steps p.tables e below (s₁.setTop (mkF m 14 #[.val (.long q1), .second, .val (.int (((q1.toUInt64 >>> ((32 : Int32) &&& 0x3f).toInt64.toUInt64).toInt64).toInt32))] [(.int (q1.toInt32)), (.int (32 : Int32))])) _
    refine st1 _ ?_
    show Steps p.tables e below (T1.setTop (mkF m 17 #[.val (.long q1), .second, .val (.int (((q1.toUInt64 >>> ((32 : Int32) &&& 0x3f).toInt64.toUInt64).toInt64).toInt32))] [(.int (f_inlz (q1.toInt32))), (.int (32 : Int32))])) _
    refine XS.iadd X1.here hx rfl (hb hby d4_17) rfl ?_
    show Steps p.tables e below (T1.setTop (mkF m 18 #[.val (.long q1), .second, .val (.int (((q1.toUInt64 >>> ((32 : Int32) &&& 0x3f).toInt64.toUInt64).toInt64).toInt32))] [(.int ((32 : Int32) + (f_inlz (q1.toInt32))))])) _
    refine XS.goto X1.here hx rfl (pc0 := 18) (pc' := 25) rfl (hb hby d4_18) (by decide) (by decide) ?_
    show Steps p.tables e below (T1.setTop (mkF m 25 #[.val (.long q1), .second, .val (.int (((q1.toUInt64 >>> ((32 : Int32) &&& 0x3f).toInt64.toUInt64).toInt64).toInt32))] [(.int ((32 : Int32) + (f_inlz (q1.toInt32))))])) _
    exact retI X1 hx Bd.returns (hb hby d4_25) hr
  · show Q_lnlz Z q1 h0 n0 _ T1.heap _
    rw [e1]
    exact ⟨by rw [hret], N2, rfl⟩
set_option maxRecDepth 65536 in
set_option maxHeartbeats 40000000 in
theorem rm_lnlz (l : Launch) (Z : State) (a0 : Array Value) (hw : ∀ d ∈ tables_1, d.before a0 Z = true) (ws : List Jvm.Cond) (q1 : Int64) (h0 : Heap) (n0 : Nat) (Z0 : n0 ≤ h0.size) :
    MetFree l (⟨"java/lang/Long", "numberOfLeadingZeros", "(J)I"⟩ : MethodName) (head1 (Jvm.Cond.code (⟨"java/lang/Long", "numberOfLeadingZeros", "(J)I"⟩ : MethodName) jdk_35_method_48_code 3 (some .int) :: ws) ({ frames := 1, cells := 0, slots := 0, locals := 14 } : Room)) (fun a U => a = #[(.long q1)] ∧ Z.Warmed39 U.vm ∧ U.heap = h0) (fun _ _ _ _ _ => True) (fun _ U o U' => ∃ v L, o = .returned v ∧ Q_lnlz Z q1 h0 n0 v U'.heap L ∧ FrameEnd U o U' L ({ frames := 1, cells := 0, slots := 0, locals := 14 } : Room).cells ({ frames := 1, cells := 0, slots := 0, locals := 14 } : Room).slots) := by
  by_cases c0 : (((q1.toUInt64 >>> ((32 : Int32) &&& 0x3f).toInt64.toUInt64).toInt64).toInt32) = (0 : Int32)
  · skip
    exact rm_lnlz_f l Z a0 hw ws q1 h0 n0 Z0  c0 (by unfold f_lnlz; rw [if_pos c0])
  · skip
    exact rm_lnlz_t l Z a0 hw ws q1 h0 n0 Z0  c0 (by unfold f_lnlz; rw [if_neg c0])
theorem pd_1 : parseMethodDescriptor "(J)I" = some ⟨[.long], some .int⟩ := by decide +kernel
theorem d2_0 : decode prog_19_method_1_code 0 = .ok (.aload_n 0, 1) := by decide +kernel
theorem d2_1 : decode prog_19_method_1_code 1 = .ok (.invokespecial 1, 3) := by decide +kernel
theorem d2_4 : decode prog_19_method_1_code 4 = .ok (.aload_n 0, 1) := by decide +kernel
theorem d2_5 : decode prog_19_method_1_code 5 = .ok (.lload_n 1, 1) := by decide +kernel
theorem d2_6 : decode prog_19_method_1_code 6 = .ok (.putfield 7, 3) := by decide +kernel
theorem d2_9 : decode prog_19_method_1_code 9 = .ok (.aload_n 0, 1) := by decide +kernel
theorem d2_10 : decode prog_19_method_1_code 10 = .ok (.bipush 63, 2) := by decide +kernel
theorem d2_12 : decode prog_19_method_1_code 12 = .ok (.lload_n 1, 1) := by decide +kernel
theorem d2_13 : decode prog_19_method_1_code 13 = .ok (.invokestatic 15, 3) := by decide +kernel
theorem d2_16 : decode prog_19_method_1_code 16 = .ok (.isub, 1) := by decide +kernel
theorem d2_17 : decode prog_19_method_1_code 17 = .ok (.putfield 19, 3) := by decide +kernel
theorem d2_20 : decode prog_19_method_1_code 20 = .ok (.aload_n 0, 1) := by decide +kernel
theorem d2_21 : decode prog_19_method_1_code 21 = .ok (.ldc2_w 23, 3) := by decide +kernel
theorem d2_24 : decode prog_19_method_1_code 24 = .ok (.aload_n 0, 1) := by decide +kernel
theorem d2_25 : decode prog_19_method_1_code 25 = .ok (.getfield 19, 3) := by decide +kernel
theorem d2_28 : decode prog_19_method_1_code 28 = .ok (.lshl, 1) := by decide +kernel
theorem d2_29 : decode prog_19_method_1_code 29 = .ok (.lload_n 1, 1) := by decide +kernel
theorem d2_30 : decode prog_19_method_1_code 30 = .ok (.lsub, 1) := by decide +kernel
theorem d2_31 : decode prog_19_method_1_code 31 = .ok (.putfield 25, 3) := by decide +kernel
theorem d2_34 : decode prog_19_method_1_code 34 = .ok (.return_, 1) := by decide +kernel
theorem pn_com_example_libmaybe_libmaybe_GolombCode : plainName "com/example/libmaybe/libmaybe/GolombCode" = true := by first | (simp [plainName, overriddenIn]; done) | decide +kernel
theorem ef_2_RJ (m : MethodId) (x0 : Addr) (x1 : Int64) : entryFrame m #[(.ref x0), (.long x1)] 3 = mkF m 0 #[.val (.ref x0), .val (.long x1), .second] [] := by first | (simp [entryFrame, mkF, argsToLocals, Value.category]; done) | rfl
def Q_init (Z : State) (a1 : Addr) (q2 : Int64) (h0 : Heap) (n0 : Nat) (v : Option Value) (h : Heap) (L : List Loc) : Prop := v = none ∧ Fr n0 L ∧ Keep h0 h [a1] ∧ Exa Z h a1 "com/example/libmaybe/libmaybe/GolombCode" ∧ Fld Z h a1 "com/example/libmaybe/libmaybe/GolombCode" "parameter" "J" (.long q2) ∧ Fld Z h a1 "com/example/libmaybe/libmaybe/GolombCode" "shortBits" "I" (.int ((63 : Int32) - (f_lnlz q2))) ∧ Fld Z h a1 "com/example/libmaybe/libmaybe/GolombCode" "shortCount" "J" (.long (((2 : Int64) <<< (((63 : Int32) - (f_lnlz q2)) &&& 0x3f).toInt64) - q2))
set_option maxRecDepth 65536 in
set_option maxHeartbeats 40000000 in
theorem rm_init (l : Launch) (Z : State) (a0 : Array Value) (hw : ∀ d ∈ tables_1, d.before a0 Z = true) (ws : List Jvm.Cond) (a1 : Addr) (q2 : Int64) (h0 : Heap) (n0 : Nat) (Z0 : n0 ≤ h0.size) (E_a1 : Exa Z h0 a1 "com/example/libmaybe/libmaybe/GolombCode") (F_parameter_a1 : Fld Z h0 a1 "com/example/libmaybe/libmaybe/GolombCode" "parameter" "J" (.long (0 : Int64))) (g_a1 : n0 ≤ a1) (F_shortBits_a1 : Fld Z h0 a1 "com/example/libmaybe/libmaybe/GolombCode" "shortBits" "I" (.int (0 : Int32))) (F_shortCount_a1 : Fld Z h0 a1 "com/example/libmaybe/libmaybe/GolombCode" "shortCount" "J" (.long (0 : Int64))) :
    MetFree l (⟨"com/example/libmaybe/libmaybe/GolombCode", "<init>", "(J)V"⟩ : MethodName) (head1 (Jvm.Cond.code (⟨"com/example/libmaybe/libmaybe/GolombCode", "<init>", "(J)V"⟩ : MethodName) prog_19_method_1_code 3 none :: ws) ({ frames := 2, cells := 0, slots := 0, locals := 30 } : Room)) (fun a U => a = #[(.ref a1), (.long q2)] ∧ Z.Warmed39 U.vm ∧ U.heap = h0) (fun _ _ _ _ _ => True) (fun _ U o U' => ∃ v L, o = .returned v ∧ Q_init Z a1 q2 h0 n0 v U'.heap L ∧ FrameEnd U o U' L ({ frames := 2, cells := 0, slots := 0, locals := 30 } : Room).cells ({ frames := 2, cells := 0, slots := 0, locals := 30 } : Room).slots) := by
  refine MetFree.of_bodySF (plainFor_of_name pn_com_example_libmaybe_libmaybe_GolombCode) hisR ?_
  intro p e s m args below meth c s₁ Bd hml0 hP hK
  obtain ⟨rfl, hZ, hh⟩ := hP
  have hx := Bd.exec
  have hby := Bd.bytes
  have hml : c.maxLocals = 3 := hml0
  have hown : s.vm.findClass "com/example/libmaybe/libmaybe/GolombCode" = some m.cls := findClass_of_methodNamed Bd.named
  have hnm := (name_of_methodNamed Bd.named Bd.method).1
  have X0 : Stand p l e ({ frames := 2, cells := 0, slots := 0, locals := 30 } : Room) s m #[(.ref a1), (.long q2)] below meth c s₁ [] 0 0 := Stand.of_body Bd
  have e0 : s₁.heap = h0 := by rw [← hh, Bd.state]; rfl
  have N0 := Fr.nil n0
  have pre0 : ∀ t, Steps p.tables e below (s₁.setTop (mkF m 0 #[.val (.ref a1), .val (.long q2), .second] [])) t → Steps p.tables e below (s₁.setTop (entryFrame m #[(.ref a1), (.long q2)] 3)) t := fun t k => castTop (ef_2_RJ m a1 q2) k
  obtain ⟨T1, X1, e1, st1⟩ := initO X0 hx hZ hown (hw _ (List.mem_of_getElem? (i := 13) rfl)) (hw _ (List.mem_of_getElem? (i := 14) rfl)) (hw _ (List.mem_of_getElem? (i := 15) rfl)) e0 (g := (mkF m 1 #[.val (.ref a1), .val (.long q2), .second] [(.ref a1)])) rfl (by rw [hml]; rfl) rfl (hb hby d2_1) (by decide) (W := 0) (by show 2 * 0 + _ ≤ _; exact Nat.le_of_eq rfl) (by decide)
  obtain ⟨T2, h2, X2, e2, W2, st2⟩ := putF X1 hx hZ hown (host := "") (Or.inl (hw _ (List.mem_of_getElem? (i := 16) rfl))) Via.refl e1 F_parameter_a1 E_a1 (Or.inr ⟨(hw _ (List.mem_of_getElem? (i := 17) rfl)), rfl, hnm⟩) (hw _ (List.mem_of_getElem? (i := 8) rfl)) (ty := .long) (by decide) rfl rfl (g := (mkF m 6 #[.val (.ref a1), .val (.long q2), .second] [(.long q2), (.ref a1)])) rfl rfl (hb hby d2_6)
  have f3 : Exa Z h2 a1 "com/example/libmaybe/libmaybe/GolombCode" := E_a1.wr W2
  have f4 : Fld Z h2 a1 "com/example/libmaybe/libmaybe/GolombCode" "parameter" "J" (.long q2) := F_parameter_a1.same W2
  have f5 : Fld Z h2 a1 "com/example/libmaybe/libmaybe/GolombCode" "shortBits" "I" (.int (0 : Int32)) := F_shortBits_a1.other W2 (Or.inr (slot_ne (Or.inr (hw _ (List.mem_of_getElem? (i := 28) rfl))) (Or.inr (hw _ (List.mem_of_getElem? (i := 17) rfl))) (by decide) (t := .int) (t' := .long) (by decide) (by decide)))
  have f6 : Fld Z h2 a1 "com/example/libmaybe/libmaybe/GolombCode" "shortCount" "J" (.long (0 : Int64)) := F_shortCount_a1.other W2 (Or.inr (slot_ne (Or.inr (hw _ (List.mem_of_getElem? (i := 31) rfl))) (Or.inr (hw _ (List.mem_of_getElem? (i := 17) rfl))) (by decide) (t := .long) (t' := .long) (by decide) (by decide)))
  have K7 : Keep h0 h2 [a1] := (Keep.refl h0 [a1]).wr W2 (Or.inl (List.mem_of_getElem? (i := 0) rfl))
  have N8 := Fr.snoc X2 N0 g_a1
  have Zs9 : n0 ≤ h2.size := Nat.le_trans Z0 (Keep.of_wr W2).1
  obtain ⟨_, _, ⟨T10, L10, k10, n10⟩, -, X10, ⟨Lc10, hQ10, l10, y10, z10⟩, st10⟩ := Jvm.LawKit.callS X2 hx (y := (⟨"java/lang/Long", "numberOfLeadingZeros", "(J)I"⟩ : MethodName)) hown (mvT hZ (hw _ (List.mem_of_getElem? (i := 18) rfl))) (mvT hZ (hw _ (List.mem_of_getElem? (i := 19) rfl))) (mvT hZ (hw _ (List.mem_of_getElem? (i := 20) rfl))) (mvT hZ (hw _ (List.mem_of_getElem? (i := 21) rfl))) (by decide) (backOf (W := 2) (rm_lnlz l Z a0 hw [] q2 h2 n0 Zs9 ) hZ (hw _ (List.mem_of_getElem? (i := 21) rfl)) (hw _ (List.mem_of_getElem? (i := 20) rfl)) (by decide) (by decide)) (g := (mkF m 13 #[.val (.ref a1), .val (.long q2), .second] [(.long q2), (.int (63 : Int32)), (.ref a1)])) rfl (by rw [hml]; rfl) (argsL := [(.long q2)]) (rest := [(.int (63 : Int32)), (.ref a1)]) (lenOf pd_1 rfl) rfl (by show 2 * 0 + _ ≤ _; exact Nat.le_of_eq rfl) (hb hby d2_13) (fun _ _ => ⟨rfl, e2, (by decide : 0 + 0 ≤ _), (by decide : 0 + 0 ≤ _)⟩)
  dsimp only [Pt.U, Pt.locs, Pt.cells, Pt.slots] at X10 l10 y10 z10 st10 hQ10
  subst l10 y10 z10
  obtain ⟨rfl, Nq10, e10⟩ := hQ10
  have N11 := Fr.app N8 Nq10
  obtain ⟨T12, h12, X12, e12, W12, st12⟩ := putF X10 hx hZ hown (host := "") (Or.inl (hw _ (List.mem_of_getElem? (i := 27) rfl))) Via.refl e10 f5 f3 (Or.inr ⟨(hw _ (List.mem_of_getElem? (i := 28) rfl)), rfl, hnm⟩) (hw _ (List.mem_of_getElem? (i := 8) rfl)) (ty := .int) (by decide) rfl rfl (g := (mkF m 17 #[.val (.ref a1), .val (.long q2), .second] [(.int ((63 : Int32) - (f_lnlz q2))), (.ref a1)])) rfl rfl (hb hby d2_17)
  have f13 : Exa Z h12 a1 "com/example/libmaybe/libmaybe/GolombCode" := f3.wr W12
  have f14 : Fld Z h12 a1 "com/example/libmaybe/libmaybe/GolombCode" "parameter" "J" (.long q2) := f4.other W12 (Or.inr (slot_ne (Or.inr (hw _ (List.mem_of_getElem? (i := 17) rfl))) (Or.inr (hw _ (List.mem_of_getElem? (i := 28) rfl))) (by decide) (t := .long) (t' := .int) (by decide) (by decide)))
  have f15 : Fld Z h12 a1 "com/example/libmaybe/libmaybe/GolombCode" "shortBits" "I" (.int ((63 : Int32) - (f_lnlz q2))) := f5.same W12
  have f16 : Fld Z h12 a1 "com/example/libmaybe/libmaybe/GolombCode" "shortCount" "J" (.long (0 : Int64)) := f6.other W12 (Or.inr (slot_ne (Or.inr (hw _ (List.mem_of_getElem? (i := 31) rfl))) (Or.inr (hw _ (List.mem_of_getElem? (i := 28) rfl))) (by decide) (t := .long) (t' := .int) (by decide) (by decide)))
  have K17 : Keep h0 h12 [a1] := K7.wr W12 (Or.inl (List.mem_of_getElem? (i := 0) rfl))
  have N18 := Fr.snoc X12 N11 g_a1
  have Zs19 : n0 ≤ h12.size := Nat.le_trans Zs9 (Keep.of_wr W12).1
  obtain ⟨T20, X20, e20, st20⟩ := getF X12 hx hZ hown (host := "") (Or.inl (hw _ (List.mem_of_getElem? (i := 27) rfl))) Via.refl e12 f15 (g := (mkF m 25 #[.val (.ref a1), .val (.long q2), .second] [(.ref a1), (.long (2 : Int64)), (.ref a1)])) rfl rfl (hb hby d2_25)
  obtain ⟨T21, h21, X21, e21, W21, st21⟩ := putF X20 hx hZ hown (host := "") (Or.inl (hw _ (List.mem_of_getElem? (i := 30) rfl))) Via.refl e20 f16 f13 (Or.inr ⟨(hw _ (List.mem_of_getElem? (i := 31) rfl)), rfl, hnm⟩) (hw _ (List.mem_of_getElem? (i := 8) rfl)) (ty := .long) (by decide) rfl rfl (g := (mkF m 31 #[.val (.ref a1), .val (.long q2), .second] [(.long (((2 : Int64) <<< (((63 : Int32) - (f_lnlz q2)) &&& 0x3f).toInt64) - q2)), (.ref a1)])) rfl rfl (hb hby d2_31)
  have f22 : Exa Z h21 a1 "com/example/libmaybe/libmaybe/GolombCode" := f13.wr W21
  have f23 : Fld Z h21 a1 "com/example/libmaybe/libmaybe/GolombCode" "parameter" "J" (.long q2) := f14.other W21 (Or.inr (slot_ne (Or.inr (hw _ (List.mem_of_getElem? (i := 17) rfl))) (Or.inr (hw _ (List.mem_of_getElem? (i := 31) rfl))) (by decide) (t := .long) (t' := .long) (by decide) (by decide)))
  have f24 : Fld Z h21 a1 "com/example/libmaybe/libmaybe/GolombCode" "shortBits" "I" (.int ((63 : Int32) - (f_lnlz q2))) := f15.other W21 (Or.inr (slot_ne (Or.inr (hw _ (List.mem_of_getElem? (i := 28) rfl))) (Or.inr (hw _ (List.mem_of_getElem? (i := 31) rfl))) (by decide) (t := .int) (t' := .long) (by decide) (by decide)))
  have f25 : Fld Z h21 a1 "com/example/libmaybe/libmaybe/GolombCode" "shortCount" "J" (.long (((2 : Int64) <<< (((63 : Int32) - (f_lnlz q2)) &&& 0x3f).toInt64) - q2)) := f16.same W21
  have K26 : Keep h0 h21 [a1] := K17.wr W21 (Or.inl (List.mem_of_getElem? (i := 0) rfl))
  have N27 := Fr.snoc X21 N18 g_a1
  have Zs28 : n0 ≤ h21.size := Nat.le_trans Zs19 (Keep.of_wr W21).1
  obtain ⟨fs, hr, hrun, hended, hW, hsame⟩ := X21.leave (v := none) (fun _ => rfl) Bd.notSynchronized
  refine ⟨_, _, pre0 _ ?_, hrun, hended, _, _, rfl, ?_, ⟨_, rfl⟩, hW, hsame.mono (by decide) (by decide)⟩
  · show Steps p.tables e below (s₁.setTop (mkF m 0 #[.val (.ref a1), .val (.long q2), .second] [])) _
    refine XS.aloadN X0.here hx rfl (hb hby d2_0) rfl rfl ?_
    show Steps p.tables e below (s₁.setTop (mkF m 1 #[.val (.ref a1), .val (.long q2), .second] [(.ref a1)])) _
    refine st1 _ ?_
    show Steps p.tables e below (T1.setTop (mkF m 4 #[.val (.ref a1), .val (.long q2), .second] [])) _
    refine XS.aloadN X1.here hx rfl (hb hby d2_4) rfl rfl ?_
    show Steps p.tables e below (T1.setTop (mkF m 5 #[.val (.ref a1), .val (.long q2), .second] [(.ref a1)])) _
    refine XS.lloadN X1.here hx rfl (hb hby d2_5) rfl ?_
    show Steps p.tables e below (T1.setTop (mkF m 6 #[.val (.ref a1), .val (.long q2), .second] [(.long q2), (.ref a1)])) _
    refine st2 _ ?_
    show Steps p.tables e below (T2.setTop (mkF m 9 #[.val (.ref a1), .val (.long q2), .second] [])) _
    refine XS.aloadN X2.here hx rfl (hb hby d2_9) rfl rfl ?_
    show Steps p.tables e below (T2.setTop (mkF m 10 #[.val (.ref a1), .val (.long q2), .second] [(.ref a1)])) _
    refine XS.bipush X2.here hx rfl (hb hby d2_10) ?_
    show Steps p.tables e below (T2.setTop (mkF m 12 #[.val (.ref a1), .val (.long q2), .second] [(.int (63 : Int32)), (.ref a1)])) _
    refine XS.lloadN X2.here hx rfl (hb hby d2_12) rfl ?_
    show Steps p.tables e below (T2.setTop (mkF m 13 #[.val (.ref a1), .val (.long q2), .second] [(.long q2), (.int (63 : Int32)), (.ref a1)])) _
    refine st10 _ ?_
    show Steps p.tables e below (T10.setTop (mkF m 16 #[.val (.ref a1), .val (.long q2), .second] [(.int (f_lnlz q2)), (.int (63 : Int32)), (.ref a1)])) _
    refine XS.isub X10.here hx rfl (hb hby d2_16) rfl ?_
    show Steps p.tables e below (T10.setTop (mkF m 17 #[.val (.ref a1), .val (.long q2), .second] [(.int ((63 : Int32) - (f_lnlz q2))), (.ref a1)])) _
    refine st12 _ ?_
    show Steps p.tables e below (T12.setTop (mkF m 20 #[.val (.ref a1), .val (.long q2), .second] [])) _
    refine XS.aloadN X12.here hx rfl (hb hby d2_20) rfl rfl ?_
    show Steps p.tables e below (T12.setTop (mkF m 21 #[.val (.ref a1), .val (.long q2), .second] [(.ref a1)])) _
    refine X12.ldc2Long hx hown (mvT hZ (hw _ (List.mem_of_getElem? (i := 29) rfl))) (g := (mkF m 21 #[.val (.ref a1), .val (.long q2), .second] [(.ref a1)])) rfl (hb hby d2_21) _ ?_
    show Steps p.tables e below (T12.setTop (mkF m 24 #[.val (.ref a1), .val (.long q2), .second] [(.long (2 : Int64)), (.ref a1)])) _
    refine XS.aloadN X12.here hx rfl (hb hby d2_24) rfl rfl ?_
    show Steps p.tables e below (T12.setTop (mkF m 25 #[.val (.ref a1), .val (.long q2), .second] [(.ref a1), (.long (2 : Int64)), (.ref a1)])) _
    refine st20 _ ?_
    show Steps p.tables e below (T20.setTop (mkF m 28 #[.val (.ref a1), .val (.long q2), .second] [(.int ((63 : Int32) - (f_lnlz q2))), (.long (2 : Int64)), (.ref a1)])) _
    refine XS.lshl X20.here hx rfl (hb hby d2_28) rfl ?_
    show Steps p.tables e below (T20.setTop (mkF m 29 #[.val (.ref a1), .val (.long q2), .second] [(.long ((2 : Int64) <<< (((63 : Int32) - (f_lnlz q2)) &&& 0x3f).toInt64)), (.ref a1)])) _
    refine XS.lloadN X20.here hx rfl (hb hby d2_29) rfl ?_
    show Steps p.tables e below (T20.setTop (mkF m 30 #[.val (.ref a1), .val (.long q2), .second] [(.long q2), (.long ((2 : Int64) <<< (((63 : Int32) - (f_lnlz q2)) &&& 0x3f).toInt64)), (.ref a1)])) _
    refine XS.lsub X20.here hx rfl (hb hby d2_30) rfl ?_
    show Steps p.tables e below (T20.setTop (mkF m 31 #[.val (.ref a1), .val (.long q2), .second] [(.long (((2 : Int64) <<< (((63 : Int32) - (f_lnlz q2)) &&& 0x3f).toInt64) - q2)), (.ref a1)])) _
    refine st21 _ ?_
    show Steps p.tables e below (T21.setTop (mkF m 34 #[.val (.ref a1), .val (.long q2), .second] [])) _
    exact X21.returnOut hx Bd.returns (hb hby d2_34) hr
  · show Q_init Z a1 q2 h0 n0 _ T21.heap _
    rw [e21]
    exact ⟨rfl, N27, K26, f22, f23, f24, f25⟩
theorem d6_0 : decode prog_19_method_4_code 0 = .ok (.lload_n 1, 1) := by decide +kernel
theorem d6_1 : decode prog_19_method_4_code 1 = .ok (.aload_n 0, 1) := by decide +kernel
theorem d6_2 : decode prog_19_method_4_code 2 = .ok (.getfield 7, 3) := by decide +kernel
theorem d6_5 : decode prog_19_method_4_code 5 = .ok (.lrem, 1) := by decide +kernel
theorem d6_6 : decode prog_19_method_4_code 6 = .ok (.lstore_n 3, 1) := by decide +kernel
theorem d6_7 : decode prog_19_method_4_code 7 = .ok (.lload_n 1, 1) := by decide +kernel
theorem d6_8 : decode prog_19_method_4_code 8 = .ok (.aload_n 0, 1) := by decide +kernel
theorem d6_9 : decode prog_19_method_4_code 9 = .ok (.getfield 7, 3) := by decide +kernel
theorem d6_12 : decode prog_19_method_4_code 12 = .ok (.ldiv, 1) := by decide +kernel
theorem d6_13 : decode prog_19_method_4_code 13 = .ok (.lconst 1, 1) := by decide +kernel
theorem d6_14 : decode prog_19_method_4_code 14 = .ok (.ladd, 1) := by decide +kernel
theorem d6_15 : decode prog_19_method_4_code 15 = .ok (.aload_n 0, 1) := by decide +kernel
theorem d6_16 : decode prog_19_method_4_code 16 = .ok (.getfield 19, 3) := by decide +kernel
theorem d6_19 : decode prog_19_method_4_code 19 = .ok (.i2l, 1) := by decide +kernel
theorem d6_20 : decode prog_19_method_4_code 20 = .ok (.ladd, 1) := by decide +kernel
theorem d6_21 : decode prog_19_method_4_code 21 = .ok (.lload_n 3, 1) := by decide +kernel
theorem d6_22 : decode prog_19_method_4_code 22 = .ok (.aload_n 0, 1) := by decide +kernel
theorem d6_23 : decode prog_19_method_4_code 23 = .ok (.getfield 25, 3) := by decide +kernel
theorem d6_26 : decode prog_19_method_4_code 26 = .ok (.lcmp, 1) := by decide +kernel
theorem d6_27 : decode prog_19_method_4_code 27 = .ok (.ifCond .ge 7, 3) := by decide +kernel
theorem d6_34 : decode prog_19_method_4_code 34 = .ok (.iconst 1, 1) := by decide +kernel
theorem d6_35 : decode prog_19_method_4_code 35 = .ok (.i2l, 1) := by decide +kernel
theorem d6_36 : decode prog_19_method_4_code 36 = .ok (.ladd, 1) := by decide +kernel
theorem d6_37 : decode prog_19_method_4_code 37 = .ok (.lreturn, 1) := by decide +kernel
theorem d6_30 : decode prog_19_method_4_code 30 = .ok (.iconst 0, 1) := by decide +kernel
theorem d6_31 : decode prog_19_method_4_code 31 = .ok (.goto 4, 3) := by decide +kernel
theorem ef_6_RJ (m : MethodId) (x0 : Addr) (x1 : Int64) : entryFrame m #[(.ref x0), (.long x1)] 5 = mkF m 0 #[.val (.ref x0), .val (.long x1), .second, .unset, .unset] [] := by first | (simp [entryFrame, mkF, argsToLocals, Value.category]; done) | rfl
def f_length (q2 : Int64) (w_parameter_a1 : Int64) (w_shortBits_a1 : Int32) (w_shortCount_a1 : Int64) : Int64 := (if (q2 % w_parameter_a1) < w_shortCount_a1 then ((((q2 / w_parameter_a1) + (1 : Int64)) + (w_shortBits_a1.toInt64)) + ((0 : Int32).toInt64)) else ((((q2 / w_parameter_a1) + (1 : Int64)) + (w_shortBits_a1.toInt64)) + ((1 : Int32).toInt64)))
def Q_length (Z : State) (a1 : Addr) (q2 : Int64) (w_parameter_a1 : Int64) (w_shortBits_a1 : Int32) (w_shortCount_a1 : Int64) (h0 : Heap) (n0 : Nat) (v : Option Value) (h : Heap) (L : List Loc) : Prop := v = some (.long (f_length q2 w_parameter_a1 w_shortBits_a1 w_shortCount_a1)) ∧ Fr n0 L ∧ h = h0
set_option maxRecDepth 65536 in
set_option maxHeartbeats 40000000 in
theorem rm_length_t (l : Launch) (Z : State) (a0 : Array Value) (hw : ∀ d ∈ tables_1, d.before a0 Z = true) (ws : List Jvm.Cond) (a1 : Addr) (q2 : Int64) (w_parameter_a1 : Int64) (w_shortBits_a1 : Int32) (w_shortCount_a1 : Int64) (h0 : Heap) (n0 : Nat) (Z0 : n0 ≤ h0.size) (F_parameter_a1 : Fld Z h0 a1 "com/example/libmaybe/libmaybe/GolombCode" "parameter" "J" (.long w_parameter_a1)) (F_shortBits_a1 : Fld Z h0 a1 "com/example/libmaybe/libmaybe/GolombCode" "shortBits" "I" (.int w_shortBits_a1)) (F_shortCount_a1 : Fld Z h0 a1 "com/example/libmaybe/libmaybe/GolombCode" "shortCount" "J" (.long w_shortCount_a1)) (hnz0 : ¬ (w_parameter_a1 = (0 : Int64))) (hc0 : ¬ ((q2 % w_parameter_a1) < w_shortCount_a1)) (hret : (f_length q2 w_parameter_a1 w_shortBits_a1 w_shortCount_a1) = ((((q2 / w_parameter_a1) + (1 : Int64)) + (w_shortBits_a1.toInt64)) + ((1 : Int32).toInt64))) :
    MetFree l (⟨"com/example/libmaybe/libmaybe/GolombCode", "length", "(J)J"⟩ : MethodName) (head1 (Jvm.Cond.code (⟨"com/example/libmaybe/libmaybe/GolombCode", "length", "(J)J"⟩ : MethodName) prog_19_method_4_code 5 (some .long) :: ws) ({ frames := 0, cells := 0, slots := 0, locals := 0 } : Room)) (fun a U => a = #[(.ref a1), (.long q2)] ∧ Z.Warmed39 U.vm ∧ U.heap = h0) (fun _ _ _ _ _ => True) (fun _ U o U' => ∃ v L, o = .returned v ∧ Q_length Z a1 q2 w_parameter_a1 w_shortBits_a1 w_shortCount_a1 h0 n0 v U'.heap L ∧ FrameEnd U o U' L ({ frames := 0, cells := 0, slots := 0, locals := 0 } : Room).cells ({ frames := 0, cells := 0, slots := 0, locals := 0 } : Room).slots) := by
  refine MetFree.of_bodySF (plainFor_of_name pn_com_example_libmaybe_libmaybe_GolombCode) hisR ?_
  intro p e s m args below meth c s₁ Bd hml0 hP hK
  obtain ⟨rfl, hZ, hh⟩ := hP
  have hx := Bd.exec
  have hby := Bd.bytes
  have hml : c.maxLocals = 5 := hml0
  have hown : s.vm.findClass "com/example/libmaybe/libmaybe/GolombCode" = some m.cls := findClass_of_methodNamed Bd.named
  have hnm := (name_of_methodNamed Bd.named Bd.method).1
  have X0 : Stand p l e ({ frames := 0, cells := 0, slots := 0, locals := 0 } : Room) s m #[(.ref a1), (.long q2)] below meth c s₁ [] 0 0 := Stand.of_body Bd
  have e0 : s₁.heap = h0 := by rw [← hh, Bd.state]; rfl
  have N0 := Fr.nil n0
  have pre0 : ∀ t, Steps p.tables e below (s₁.setTop (mkF m 0 #[.val (.ref a1), .val (.long q2), .second, .unset, .unset] [])) t → Steps p.tables e below (s₁.setTop (entryFrame m #[(.ref a1), (.long q2)] 5)) t := fun t k => castTop (ef_6_RJ m a1 q2) k
  obtain ⟨T1, X1, e1, st1⟩ := getF X0 hx hZ hown (host := "") (Or.inl (hw _ (List.mem_of_getElem? (i := 16) rfl))) Via.refl e0 F_parameter_a1 (g := (mkF m 2 #[.val (.ref a1), .val (.long q2), .second, .unset, .unset] [(.ref a1), (.long q2)])) rfl rfl (hb hby d6_2)
  obtain ⟨T2, X2, e2, st2⟩ := getF X1 hx hZ hown (host := "") (Or.inl (hw _ (List.mem_of_getElem? (i := 16) rfl))) Via.refl e1 F_parameter_a1 (g := (mkF m 9 #[.val (.ref a1), .val (.long q2), .second, .val (.long (q2 % w_parameter_a1)), .second] [(.ref a1), (.long q2)])) rfl rfl (hb hby d6_9)
  obtain ⟨T3, X3, e3, st3⟩ := getF X2 hx hZ hown (host := "") (Or.inl (hw _ (List.mem_of_getElem? (i := 27) rfl))) Via.refl e2 F_shortBits_a1 (g := (mkF m 16 #[.val (.ref a1), .val (.long q2), .second, .val (.long (q2 % w_parameter_a1)), .second] [(.ref a1), (.long ((q2 / w_parameter_a1) + (1 : Int64)))])) rfl rfl (hb hby d6_16)
  obtain ⟨T4, X4, e4, st4⟩ := getF X3 hx hZ hown (host := "") (Or.inl (hw _ (List.mem_of_getElem? (i := 30) rfl))) Via.refl e3 F_shortCount_a1 (g := (mkF m 23 #[.val (.ref a1), .val (.long q2), .second, .val (.long (q2 % w_parameter_a1)), .second] [(.ref a1), (.long (q2 % w_parameter_a1)), (.long (((q2 / w_parameter_a1) + (1 : Int64)) + (w_shortBits_a1.toInt64)))])) rfl rfl (hb hby d6_23)
  obtain ⟨fs, hr, hrun, hended, hW, hsame⟩ := X4.leave (v := some (.long ((((q2 / w_parameter_a1) + (1 : Int64)) + (w_shortBits_a1.toInt64)) + ((1 : Int32).toInt64)))) (fun h => by rw [Bd.returns] at h; cases h) Bd.notSynchronized
  refine ⟨_, _, pre0 _ ?_, hrun, hended, _, _, rfl, ?_, ⟨_, rfl⟩, hW, hsame.mono (by decide) (by decide)⟩
  · show Steps p.tables e below (s₁.setTop (mkF m 0 #[.val (.ref a1), .val (.long q2), .second, .unset, .unset] [])) _
    refine XS.lloadN X0.here hx rfl (hb hby d6_0) rfl ?_
    show Steps p.tables e below (s₁.setTop (mkF m 1 #[.val (.ref a1), .val (.long q2), .second, .unset, .unset] [(.long q2)])) _
    refine XS.aloadN X0.here hx rfl (hb hby d6_1) rfl rfl ?_
    show Steps p.tables e below (s₁.setTop (mkF m 2 #[.val (.ref a1), .val (.long q2), .second, .unset, .unset] [(.ref a1), (.long q2)])) _
    refine st1 _ ?_
    show Steps p.tables e below (T1.setTop (mkF m 5 #[.val (.ref a1), .val (.long q2), .second, .unset, .unset] [(.long w_parameter_a1), (.long q2)])) _
    refine XS.lrem X1.here hx rfl (hb hby d6_5) rfl hnz0 ?_
    rw [lrem_mod]
    show Steps p.tables e below (T1.setTop (mkF m 6 #[.val (.ref a1), .val (.long q2), .second, .unset, .unset] [(.long (q2 % w_parameter_a1))])) _
    refine XS.lstoreN X1.here hx rfl (hb hby d6_6) rfl (l' := #[.val (.ref a1), .val (.long q2), .second, .val (.long (q2 % w_parameter_a1)), .second]) rfl ?_
    show Steps p.tables e below (T1.setTop (mkF m 7 #[.val (.ref a1), .val (.long q2), .second, .val (.long (q2 % w_parameter_a1)), .second] [])) _
    refine XS.lloadN X1.here hx rfl (hb hby d6_7) rfl ?_
    show Steps p.tables e below (T1.setTop (mkF m 8 #[.val (.ref a1), .val (.long q2), .second, .val (.long (q2 % w_parameter_a1)), .second] [(.long q2)])) _
    refine XS.aloadN X1.here hx rfl (hb hby d6_8) rfl rfl ?_
    show Steps p.tables e below (T1.setTop (mkF m 9 #[.val (.ref a1), .val (.long q2), .second, .val (.long (q2 % w_parameter_a1)), .second] [(.ref a1), (.long q2)])) _
    refine st2 _ ?_
    show Steps p.tables e below (T2.setTop (mkF m 12 #[.val (.ref a1), .val (.long q2), .second, .val (.long (q2 % w_parameter_a1)), .second] [(.long w_parameter_a1), (.long q2)])) _
    refine XS.ldiv X2.here hx rfl (hb hby d6_12) rfl hnz0 ?_
    show Steps p.tables e below (T2.setTop (mkF m 13 #[.val (.ref a1), .val (.long q2), .second, .val (.long (q2 % w_parameter_a1)), .second] [(.long (q2 / w_parameter_a1))])) _
    refine XS.lconst X2.here hx rfl (hb hby d6_13) ?_
    show Steps p.tables e below (T2.setTop (mkF m 14 #[.val (.ref a1), .val (.long q2), .second, .val (.long (q2 % w_parameter_a1)), .second] [(.long (1 : Int64)), (.long (q2 / w_parameter_a1))])) _
    refine XS.ladd X2.here hx rfl (hb hby d6_14) rfl ?_
    show Steps p.tables e below (T2.setTop (mkF m 15 #[.val (.ref a1), .val (.long q2), .second, .val (.long (q2 % w_parameter_a1)), .second] [(.long ((q2 / w_parameter_a1) + (1 : Int64)))])) _
    refine XS.aloadN X2.here hx rfl (hb hby d6_15) rfl rfl ?_
    show Steps p.tables e below (T2.setTop (mkF m 16 #[.val (.ref a1), .val (.long q2), .second, .val (.long (q2 % w_parameter_a1)), .second] [(.ref a1), (.long ((q2 / w_parameter_a1) + (1 : Int64)))])) _
    refine st3 _ ?_
    show Steps p.tables e below (T3.setTop (mkF m 19 #[.val (.ref a1), .val (.long q2), .second, .val (.long (q2 % w_parameter_a1)), .second] [(.int w_shortBits_a1), (.long ((q2 / w_parameter_a1) + (1 : Int64)))])) _
    refine XS.i2l X3.here hx rfl (hb hby d6_19) rfl ?_
    show Steps p.tables e below (T3.setTop (mkF m 20 #[.val (.ref a1), .val (.long q2), .second, .val (.long (q2 % w_parameter_a1)), .second] [(.long (w_shortBits_a1.toInt64)), (.long ((q2 / w_parameter_a1) + (1 : Int64)))])) _
    refine XS.ladd X3.here hx rfl (hb hby d6_20) rfl ?_
    show Steps p.tables e below (T3.setTop (mkF m 21 #[.val (.ref a1), .val (.long q2), .second, .val (.long (q2 % w_parameter_a1)), .second] [(.long (((q2 / w_parameter_a1) + (1 : Int64)) + (w_shortBits_a1.toInt64)))])) _
    refine XS.lloadN X3.here hx rfl (hb hby d6_21) rfl ?_
    show Steps p.tables e below (T3.setTop (mkF m 22 #[.val (.ref a1), .val (.long q2), .second, .val (.long (q2 % w_parameter_a1)), .second] [(.long (q2 % w_parameter_a1)), (.long (((q2 / w_parameter_a1) + (1 : Int64)) + (w_shortBits_a1.toInt64)))])) _
    refine XS.aloadN X3.here hx rfl (hb hby d6_22) rfl rfl ?_
    show Steps p.tables e below (T3.setTop (mkF m 23 #[.val (.ref a1), .val (.long q2), .second, .val (.long (q2 % w_parameter_a1)), .second] [(.ref a1), (.long (q2 % w_parameter_a1)), (.long (((q2 / w_parameter_a1) + (1 : Int64)) + (w_shortBits_a1.toInt64)))])) _
    refine st4 _ ?_
    show Steps p.tables e below (T4.setTop (mkF m 26 #[.val (.ref a1), .val (.long q2), .second, .val (.long (q2 % w_parameter_a1)), .second] [(.long w_shortCount_a1), (.long (q2 % w_parameter_a1)), (.long (((q2 / w_parameter_a1) + (1 : Int64)) + (w_shortBits_a1.toInt64)))])) _
    refine XS.lcmp X4.here hx rfl (hb hby d6_26) rfl ?_
    show Steps p.tables e below (T4.setTop (mkF m 27 #[.val (.ref a1), .val (.long q2), .second, .val (.long (q2 % w_parameter_a1)), .second] [(.int (lcmpW (q2 % w_parameter_a1) w_shortCount_a1)), (.long (((q2 / w_parameter_a1) + (1 : Int64)) + (w_shortBits_a1.toInt64)))])) _
    refine XS.ifYes X4.here hx rfl (pc0 := 27) (pc' := 34) rfl (hb hby d6_27) rfl ((if0 _ _).trans (flt (fun q => (hc0 : ¬ ((q2 % w_parameter_a1) < w_shortCount_a1)) ((lw_lt _ _).mp q))).2.1) (by decide) (by decide) ?_
    show Steps p.tables e below (T4.setTop (mkF m 34 #[.val (.ref a1), .val (.long q2), .second, .val (.long (q2 % w_parameter_a1)), .second] [(.long (((q2 / w_parameter_a1) + (1 : Int64)) + (w_shortBits_a1.toInt64)))])) _
    refine XS.iconst X4.here hx rfl (hb hby d6_34) ?_
    show Steps p.tables e below (T4.setTop (mkF m 35 #[.val (.ref a1), .val (.long q2), .second, .val (.long (q2 % w_parameter_a1)), .second] [(.int (1 : Int32)), (.long (((q2 / w_parameter_a1) + (1 : Int64)) + (w_shortBits_a1.toInt64)))])) _
    refine XS.i2l X4.here hx rfl (hb hby d6_35) rfl ?_
    show Steps p.tables e below (T4.setTop (mkF m 36 #[.val (.ref a1), .val (.long q2), .second, .val (.long (q2 % w_parameter_a1)), .second] [(.long ((1 : Int32).toInt64)), (.long (((q2 / w_parameter_a1) + (1 : Int64)) + (w_shortBits_a1.toInt64)))])) _
    refine XS.ladd X4.here hx rfl (hb hby d6_36) rfl ?_
    show Steps p.tables e below (T4.setTop (mkF m 37 #[.val (.ref a1), .val (.long q2), .second, .val (.long (q2 % w_parameter_a1)), .second] [(.long ((((q2 / w_parameter_a1) + (1 : Int64)) + (w_shortBits_a1.toInt64)) + ((1 : Int32).toInt64)))])) _
    exact retOut X4 hx (t := .long) (i := .lreturn) Bd.returns rfl (Or.inr (Or.inl ⟨rfl, rfl, _, rfl⟩)) (hb hby d6_37) hr
  · show Q_length Z a1 q2 w_parameter_a1 w_shortBits_a1 w_shortCount_a1 h0 n0 _ T4.heap _
    rw [e4]
    exact ⟨by rw [hret], N0, rfl⟩
set_option maxRecDepth 65536 in
set_option maxHeartbeats 40000000 in
theorem rm_length_f (l : Launch) (Z : State) (a0 : Array Value) (hw : ∀ d ∈ tables_1, d.before a0 Z = true) (ws : List Jvm.Cond) (a1 : Addr) (q2 : Int64) (w_parameter_a1 : Int64) (w_shortBits_a1 : Int32) (w_shortCount_a1 : Int64) (h0 : Heap) (n0 : Nat) (Z0 : n0 ≤ h0.size) (F_parameter_a1 : Fld Z h0 a1 "com/example/libmaybe/libmaybe/GolombCode" "parameter" "J" (.long w_parameter_a1)) (F_shortBits_a1 : Fld Z h0 a1 "com/example/libmaybe/libmaybe/GolombCode" "shortBits" "I" (.int w_shortBits_a1)) (F_shortCount_a1 : Fld Z h0 a1 "com/example/libmaybe/libmaybe/GolombCode" "shortCount" "J" (.long w_shortCount_a1)) (hnz0 : ¬ (w_parameter_a1 = (0 : Int64))) (hc0 : (q2 % w_parameter_a1) < w_shortCount_a1) (hret : (f_length q2 w_parameter_a1 w_shortBits_a1 w_shortCount_a1) = ((((q2 / w_parameter_a1) + (1 : Int64)) + (w_shortBits_a1.toInt64)) + ((0 : Int32).toInt64))) :
    MetFree l (⟨"com/example/libmaybe/libmaybe/GolombCode", "length", "(J)J"⟩ : MethodName) (head1 (Jvm.Cond.code (⟨"com/example/libmaybe/libmaybe/GolombCode", "length", "(J)J"⟩ : MethodName) prog_19_method_4_code 5 (some .long) :: ws) ({ frames := 0, cells := 0, slots := 0, locals := 0 } : Room)) (fun a U => a = #[(.ref a1), (.long q2)] ∧ Z.Warmed39 U.vm ∧ U.heap = h0) (fun _ _ _ _ _ => True) (fun _ U o U' => ∃ v L, o = .returned v ∧ Q_length Z a1 q2 w_parameter_a1 w_shortBits_a1 w_shortCount_a1 h0 n0 v U'.heap L ∧ FrameEnd U o U' L ({ frames := 0, cells := 0, slots := 0, locals := 0 } : Room).cells ({ frames := 0, cells := 0, slots := 0, locals := 0 } : Room).slots) := by
  refine MetFree.of_bodySF (plainFor_of_name pn_com_example_libmaybe_libmaybe_GolombCode) hisR ?_
  intro p e s m args below meth c s₁ Bd hml0 hP hK
  obtain ⟨rfl, hZ, hh⟩ := hP
  have hx := Bd.exec
  have hby := Bd.bytes
  have hml : c.maxLocals = 5 := hml0
  have hown : s.vm.findClass "com/example/libmaybe/libmaybe/GolombCode" = some m.cls := findClass_of_methodNamed Bd.named
  have hnm := (name_of_methodNamed Bd.named Bd.method).1
  have X0 : Stand p l e ({ frames := 0, cells := 0, slots := 0, locals := 0 } : Room) s m #[(.ref a1), (.long q2)] below meth c s₁ [] 0 0 := Stand.of_body Bd
  have e0 : s₁.heap = h0 := by rw [← hh, Bd.state]; rfl
  have N0 := Fr.nil n0
  have pre0 : ∀ t, Steps p.tables e below (s₁.setTop (mkF m 0 #[.val (.ref a1), .val (.long q2), .second, .unset, .unset] [])) t → Steps p.tables e below (s₁.setTop (entryFrame m #[(.ref a1), (.long q2)] 5)) t := fun t k => castTop (ef_6_RJ m a1 q2) k
  obtain ⟨T1, X1, e1, st1⟩ := getF X0 hx hZ hown (host := "") (Or.inl (hw _ (List.mem_of_getElem? (i := 16) rfl))) Via.refl e0 F_parameter_a1 (g := (mkF m 2 #[.val (.ref a1), .val (.long q2), .second, .unset, .unset] [(.ref a1), (.long q2)])) rfl rfl (hb hby d6_2)
  obtain ⟨T2, X2, e2, st2⟩ := getF X1 hx hZ hown (host := "") (Or.inl (hw _ (List.mem_of_getElem? (i := 16) rfl))) Via.refl e1 F_parameter_a1 (g := (mkF m 9 #[.val (.ref a1), .val (.long q2), .second, .val (.long (q2 % w_parameter_a1)), .second] [(.ref a1), (.long q2)])) rfl rfl (hb hby d6_9)
  obtain ⟨T3, X3, e3, st3⟩ := getF X2 hx hZ hown (host := "") (Or.inl (hw _ (List.mem_of_getElem? (i := 27) rfl))) Via.refl e2 F_shortBits_a1 (g := (mkF m 16 #[.val (.ref a1), .val (.long q2), .second, .val (.long (q2 % w_parameter_a1)), .second] [(.ref a1), (.long ((q2 / w_parameter_a1) + (1 : Int64)))])) rfl rfl (hb hby d6_16)
  obtain ⟨T4, X4, e4, st4⟩ := getF X3 hx hZ hown (host := "") (Or.inl (hw _ (List.mem_of_getElem? (i := 30) rfl))) Via.refl e3 F_shortCount_a1 (g := (mkF m 23 #[.val (.ref a1), .val (.long q2), .second, .val (.long (q2 % w_parameter_a1)), .second] [(.ref a1), (.long (q2 % w_parameter_a1)), (.long (((q2 / w_parameter_a1) + (1 : Int64)) + (w_shortBits_a1.toInt64)))])) rfl rfl (hb hby d6_23)
  obtain ⟨fs, hr, hrun, hended, hW, hsame⟩ := X4.leave (v := some (.long ((((q2 / w_parameter_a1) + (1 : Int64)) + (w_shortBits_a1.toInt64)) + ((0 : Int32).toInt64)))) (fun h => by rw [Bd.returns] at h; cases h) Bd.notSynchronized
  refine ⟨_, _, pre0 _ ?_, hrun, hended, _, _, rfl, ?_, ⟨_, rfl⟩, hW, hsame.mono (by decide) (by decide)⟩
  · show Steps p.tables e below (s₁.setTop (mkF m 0 #[.val (.ref a1), .val (.long q2), .second, .unset, .unset] [])) _
    refine XS.lloadN X0.here hx rfl (hb hby d6_0) rfl ?_
    show Steps p.tables e below (s₁.setTop (mkF m 1 #[.val (.ref a1), .val (.long q2), .second, .unset, .unset] [(.long q2)])) _
    refine XS.aloadN X0.here hx rfl (hb hby d6_1) rfl rfl ?_
    show Steps p.tables e below (s₁.setTop (mkF m 2 #[.val (.ref a1), .val (.long q2), .second, .unset, .unset] [(.ref a1), (.long q2)])) _
    refine st1 _ ?_
    show Steps p.tables e below (T1.setTop (mkF m 5 #[.val (.ref a1), .val (.long q2), .second, .unset, .unset] [(.long w_parameter_a1), (.long q2)])) _
    refine XS.lrem X1.here hx rfl (hb hby d6_5) rfl hnz0 ?_
    rw [lrem_mod]
    show Steps p.tables e below (T1.setTop (mkF m 6 #[.val (.ref a1), .val (.long q2), .second, .unset, .unset] [(.long (q2 % w_parameter_a1))])) _
    refine XS.lstoreN X1.here hx rfl (hb hby d6_6) rfl (l' := #[.val (.ref a1), .val (.long q2), .second, .val (.long (q2 % w_parameter_a1)), .second]) rfl ?_
    show Steps p.tables e below (T1.setTop (mkF m 7 #[.val (.ref a1), .val (.long q2), .second, .val (.long (q2 % w_parameter_a1)), .second] [])) _
    refine XS.lloadN X1.here hx rfl (hb hby d6_7) rfl ?_
    show Steps p.tables e below (T1.setTop (mkF m 8 #[.val (.ref a1), .val (.long q2), .second, .val (.long (q2 % w_parameter_a1)), .second] [(.long q2)])) _
    refine XS.aloadN X1.here hx rfl (hb hby d6_8) rfl rfl ?_
    show Steps p.tables e below (T1.setTop (mkF m 9 #[.val (.ref a1), .val (.long q2), .second, .val (.long (q2 % w_parameter_a1)), .second] [(.ref a1), (.long q2)])) _
    refine st2 _ ?_
    show Steps p.tables e below (T2.setTop (mkF m 12 #[.val (.ref a1), .val (.long q2), .second, .val (.long (q2 % w_parameter_a1)), .second] [(.long w_parameter_a1), (.long q2)])) _
    refine XS.ldiv X2.here hx rfl (hb hby d6_12) rfl hnz0 ?_
    show Steps p.tables e below (T2.setTop (mkF m 13 #[.val (.ref a1), .val (.long q2), .second, .val (.long (q2 % w_parameter_a1)), .second] [(.long (q2 / w_parameter_a1))])) _
    refine XS.lconst X2.here hx rfl (hb hby d6_13) ?_
    show Steps p.tables e below (T2.setTop (mkF m 14 #[.val (.ref a1), .val (.long q2), .second, .val (.long (q2 % w_parameter_a1)), .second] [(.long (1 : Int64)), (.long (q2 / w_parameter_a1))])) _
    refine XS.ladd X2.here hx rfl (hb hby d6_14) rfl ?_
    show Steps p.tables e below (T2.setTop (mkF m 15 #[.val (.ref a1), .val (.long q2), .second, .val (.long (q2 % w_parameter_a1)), .second] [(.long ((q2 / w_parameter_a1) + (1 : Int64)))])) _
    refine XS.aloadN X2.here hx rfl (hb hby d6_15) rfl rfl ?_
    show Steps p.tables e below (T2.setTop (mkF m 16 #[.val (.ref a1), .val (.long q2), .second, .val (.long (q2 % w_parameter_a1)), .second] [(.ref a1), (.long ((q2 / w_parameter_a1) + (1 : Int64)))])) _
    refine st3 _ ?_
    show Steps p.tables e below (T3.setTop (mkF m 19 #[.val (.ref a1), .val (.long q2), .second, .val (.long (q2 % w_parameter_a1)), .second] [(.int w_shortBits_a1), (.long ((q2 / w_parameter_a1) + (1 : Int64)))])) _
    refine XS.i2l X3.here hx rfl (hb hby d6_19) rfl ?_
    show Steps p.tables e below (T3.setTop (mkF m 20 #[.val (.ref a1), .val (.long q2), .second, .val (.long (q2 % w_parameter_a1)), .second] [(.long (w_shortBits_a1.toInt64)), (.long ((q2 / w_parameter_a1) + (1 : Int64)))])) _
    refine XS.ladd X3.here hx rfl (hb hby d6_20) rfl ?_
    show Steps p.tables e below (T3.setTop (mkF m 21 #[.val (.ref a1), .val (.long q2), .second, .val (.long (q2 % w_parameter_a1)), .second] [(.long (((q2 / w_parameter_a1) + (1 : Int64)) + (w_shortBits_a1.toInt64)))])) _
    refine XS.lloadN X3.here hx rfl (hb hby d6_21) rfl ?_
    show Steps p.tables e below (T3.setTop (mkF m 22 #[.val (.ref a1), .val (.long q2), .second, .val (.long (q2 % w_parameter_a1)), .second] [(.long (q2 % w_parameter_a1)), (.long (((q2 / w_parameter_a1) + (1 : Int64)) + (w_shortBits_a1.toInt64)))])) _
    refine XS.aloadN X3.here hx rfl (hb hby d6_22) rfl rfl ?_
    show Steps p.tables e below (T3.setTop (mkF m 23 #[.val (.ref a1), .val (.long q2), .second, .val (.long (q2 % w_parameter_a1)), .second] [(.ref a1), (.long (q2 % w_parameter_a1)), (.long (((q2 / w_parameter_a1) + (1 : Int64)) + (w_shortBits_a1.toInt64)))])) _
    refine st4 _ ?_
    show Steps p.tables e below (T4.setTop (mkF m 26 #[.val (.ref a1), .val (.long q2), .second, .val (.long (q2 % w_parameter_a1)), .second] [(.long w_shortCount_a1), (.long (q2 % w_parameter_a1)), (.long (((q2 / w_parameter_a1) + (1 : Int64)) + (w_shortBits_a1.toInt64)))])) _
    refine XS.lcmp X4.here hx rfl (hb hby d6_26) rfl ?_
    show Steps p.tables e below (T4.setTop (mkF m 27 #[.val (.ref a1), .val (.long q2), .second, .val (.long (q2 % w_parameter_a1)), .second] [(.int (lcmpW (q2 % w_parameter_a1) w_shortCount_a1)), (.long (((q2 / w_parameter_a1) + (1 : Int64)) + (w_shortBits_a1.toInt64)))])) _
    refine XS.ifNo X4.here hx rfl (hb hby d6_27) rfl ((if0 _ _).trans (tlt ((lw_lt _ _).mpr (hc0 : (q2 % w_parameter_a1) < w_shortCount_a1))).2.1) ?_
    show Steps p.tables e below (T4.setTop (mkF m 30 #[.val (.ref a1), .val (.long q2), .second, .val (.long (q2 % w_parameter_a1)), .second] [(.long (((q2 / w_parameter_a1) + (1 : Int64)) + (w_shortBits_a1.toInt64)))])) _
    refine XS.iconst X4.here hx rfl (hb hby d6_30) ?_
    show Steps p.tables e below (T4.setTop (mkF m 31 #[.val (.ref a1), .val (.long q2), .second, .val (.long (q2 % w_parameter_a1)), .second] [(.int (0 : Int32)), (.long (((q2 / w_parameter_a1) + (1 : Int64)) + (w_shortBits_a1.toInt64)))])) _
    refine XS.goto X4.here hx rfl (pc0 := 31) (pc' := 35) rfl (hb hby d6_31) (by decide) (by decide) ?_
    show Steps p.tables e below (T4.setTop (mkF m 35 #[.val (.ref a1), .val (.long q2), .second, .val (.long (q2 % w_parameter_a1)), .second] [(.int (0 : Int32)), (.long (((q2 / w_parameter_a1) + (1 : Int64)) + (w_shortBits_a1.toInt64)))])) _
    refine XS.i2l X4.here hx rfl (hb hby d6_35) rfl ?_
    show Steps p.tables e below (T4.setTop (mkF m 36 #[.val (.ref a1), .val (.long q2), .second, .val (.long (q2 % w_parameter_a1)), .second] [(.long ((0 : Int32).toInt64)), (.long (((q2 / w_parameter_a1) + (1 : Int64)) + (w_shortBits_a1.toInt64)))])) _
    refine XS.ladd X4.here hx rfl (hb hby d6_36) rfl ?_
    show Steps p.tables e below (T4.setTop (mkF m 37 #[.val (.ref a1), .val (.long q2), .second, .val (.long (q2 % w_parameter_a1)), .second] [(.long ((((q2 / w_parameter_a1) + (1 : Int64)) + (w_shortBits_a1.toInt64)) + ((0 : Int32).toInt64)))])) _
    exact retOut X4 hx (t := .long) (i := .lreturn) Bd.returns rfl (Or.inr (Or.inl ⟨rfl, rfl, _, rfl⟩)) (hb hby d6_37) hr
  · show Q_length Z a1 q2 w_parameter_a1 w_shortBits_a1 w_shortCount_a1 h0 n0 _ T4.heap _
    rw [e4]
    exact ⟨by rw [hret], N0, rfl⟩
set_option maxRecDepth 65536 in
set_option maxHeartbeats 40000000 in
theorem rm_length (l : Launch) (Z : State) (a0 : Array Value) (hw : ∀ d ∈ tables_1, d.before a0 Z = true) (ws : List Jvm.Cond) (a1 : Addr) (q2 : Int64) (w_parameter_a1 : Int64) (w_shortBits_a1 : Int32) (w_shortCount_a1 : Int64) (h0 : Heap) (n0 : Nat) (Z0 : n0 ≤ h0.size) (F_parameter_a1 : Fld Z h0 a1 "com/example/libmaybe/libmaybe/GolombCode" "parameter" "J" (.long w_parameter_a1)) (F_shortBits_a1 : Fld Z h0 a1 "com/example/libmaybe/libmaybe/GolombCode" "shortBits" "I" (.int w_shortBits_a1)) (F_shortCount_a1 : Fld Z h0 a1 "com/example/libmaybe/libmaybe/GolombCode" "shortCount" "J" (.long w_shortCount_a1)) (hnz0 : ¬ (w_parameter_a1 = (0 : Int64))) :
    MetFree l (⟨"com/example/libmaybe/libmaybe/GolombCode", "length", "(J)J"⟩ : MethodName) (head1 (Jvm.Cond.code (⟨"com/example/libmaybe/libmaybe/GolombCode", "length", "(J)J"⟩ : MethodName) prog_19_method_4_code 5 (some .long) :: ws) ({ frames := 0, cells := 0, slots := 0, locals := 0 } : Room)) (fun a U => a = #[(.ref a1), (.long q2)] ∧ Z.Warmed39 U.vm ∧ U.heap = h0) (fun _ _ _ _ _ => True) (fun _ U o U' => ∃ v L, o = .returned v ∧ Q_length Z a1 q2 w_parameter_a1 w_shortBits_a1 w_shortCount_a1 h0 n0 v U'.heap L ∧ FrameEnd U o U' L ({ frames := 0, cells := 0, slots := 0, locals := 0 } : Room).cells ({ frames := 0, cells := 0, slots := 0, locals := 0 } : Room).slots) := by
  by_cases c0 : (q2 % w_parameter_a1) < w_shortCount_a1
  · skip
    exact rm_length_f l Z a0 hw ws a1 q2 w_parameter_a1 w_shortBits_a1 w_shortCount_a1 h0 n0 Z0 F_parameter_a1 F_shortBits_a1 F_shortCount_a1 hnz0 c0 (by unfold f_length; rw [if_pos c0])
  · skip
    exact rm_length_t l Z a0 hw ws a1 q2 w_parameter_a1 w_shortBits_a1 w_shortCount_a1 h0 n0 Z0 F_parameter_a1 F_shortBits_a1 F_shortCount_a1 hnz0 c0 (by unfold f_length; rw [if_neg c0])
def own_k (p1 : Int32) : Int32 := ((p1 &&& (2147483647 : Int32)) % (62 : Int32))
def own_b (p1 : Int32) (q2 : Int64) : Int64 := (((1 : Int64) <<< ((own_k p1) &&& 0x3f).toInt64) ||| (q2 &&& (((1 : Int64) <<< ((own_k p1) &&& 0x3f).toInt64) - (1 : Int64))))
def own_r (p1 : Int32) (q2 : Int64) (q3 : Int64) : Int64 := ((q3 &&& (9223372036854775807 : Int64)) % (own_b p1 q2))
def own_bound (p1 : Int32) (q2 : Int64) (q3 : Int64) : Int64 := (((9223372036854775807 : Int64) - (own_r p1 q2 q3)) / (own_b p1 q2))
theorem pd_2 : parseMethodDescriptor "(JJ)J" = some ⟨[.long, .long], some .long⟩ := by decide +kernel
def own_q (p1 : Int32) (q2 : Int64) (q3 : Int64) (q4 : Int64) : Int64 := (f_min (q4 &&& (9223372036854775807 : Int64)) (own_bound p1 q2 q3))
def own_gap (p1 : Int32) (q2 : Int64) (q3 : Int64) (q4 : Int64) : Int64 := (((own_q p1 q2 q3 q4) * (own_b p1 q2)) + (own_r p1 q2 q3))
def own_exp (p1 : Int32) (q2 : Int64) (q3 : Int64) (q4 : Int64) : Int64 := ((((own_q p1 q2 q3 q4) + (1 : Int64)) + ((own_k p1).toInt64)) + (0 : Int64))
theorem pd_3 : parseMethodDescriptor "(J)V" = some ⟨[.long], none⟩ := by decide +kernel
theorem pd_4 : parseMethodDescriptor "(J)J" = some ⟨[.long], some .long⟩ := by decide +kernel
def own_exp_tff (p1 : Int32) (q2 : Int64) (q3 : Int64) (q4 : Int64) : Int64 := ((((own_q p1 q2 q3 q4) + (1 : Int64)) + ((own_k p1).toInt64)) + (1 : Int64))
def own_b_ftf (p1 : Int32) (q2 : Int64) : Int64 := (((1 : Int64) <<< ((own_k p1) &&& 0x3f).toInt64) ||| (q2 &&& (0 : Int64)))
def own_r_ftf (p1 : Int32) (q2 : Int64) (q3 : Int64) : Int64 := ((q3 &&& (9223372036854775807 : Int64)) % (own_b_ftf p1 q2))
def own_bound_ftf (p1 : Int32) (q2 : Int64) (q3 : Int64) : Int64 := (((9223372036854775807 : Int64) - (own_r_ftf p1 q2 q3)) / (own_b_ftf p1 q2))
def own_q_ftf (p1 : Int32) (q2 : Int64) (q3 : Int64) (q4 : Int64) : Int64 := (f_min (q4 &&& (9223372036854775807 : Int64)) (own_bound_ftf p1 q2 q3))
def own_gap_ftf (p1 : Int32) (q2 : Int64) (q3 : Int64) (q4 : Int64) : Int64 := (((own_q_ftf p1 q2 q3 q4) * (own_b_ftf p1 q2)) + (own_r_ftf p1 q2 q3))
def own_exp_ftf (p1 : Int32) (q2 : Int64) (q3 : Int64) (q4 : Int64) : Int64 := ((((own_q_ftf p1 q2 q3 q4) + (1 : Int64)) + ((own_k p1).toInt64)) + (0 : Int64))
def own_b_fff (p1 : Int32) (q2 : Int64) : Int64 := (((1 : Int64) <<< ((own_k p1) &&& 0x3f).toInt64) ||| (q2 &&& (0 : Int64)))
def own_r_fff (p1 : Int32) (q2 : Int64) (q3 : Int64) : Int64 := ((q3 &&& (9223372036854775807 : Int64)) % (own_b_fff p1 q2))
def own_bound_fff (p1 : Int32) (q2 : Int64) (q3 : Int64) : Int64 := (((9223372036854775807 : Int64) - (own_r_fff p1 q2 q3)) / (own_b_fff p1 q2))
def own_q_fff (p1 : Int32) (q2 : Int64) (q3 : Int64) (q4 : Int64) : Int64 := (f_min (q4 &&& (9223372036854775807 : Int64)) (own_bound_fff p1 q2 q3))
def own_gap_fff (p1 : Int32) (q2 : Int64) (q3 : Int64) (q4 : Int64) : Int64 := (((own_q_fff p1 q2 q3 q4) * (own_b_fff p1 q2)) + (own_r_fff p1 q2 q3))
def own_exp_fff (p1 : Int32) (q2 : Int64) (q3 : Int64) (q4 : Int64) : Int64 := ((((own_q_fff p1 q2 q3 q4) + (1 : Int64)) + ((own_k p1).toInt64)) + (1 : Int64))
theorem pn_com_example_libmaybe_libmaybe_GolombCodeLengthPinLaw : plainName "com/example/libmaybe/libmaybe/GolombCodeLengthPinLaw" = true := by first | (simp [plainName, overriddenIn]; done) | decide +kernel
theorem ef_0_IJJJ (m : MethodId) (x0 : Int32) (x1 : Int64) (x2 : Int64) (x3 : Int64) : entryFrame m #[(.int x0), (.long x1), (.long x2), (.long x3)] maxLocals = mkF m 0 #[.val (.int x0), .val (.long x1), .second, .val (.long x2), .second, .val (.long x3), .second, .unset, .unset, .unset, .unset, .unset, .unset, .unset, .unset, .unset, .unset, .unset, .unset, .unset, .unset, .unset, .unset, .unset, .unset] [] := by first | (simp [entryFrame, mkF, argsToLocals, Value.category, maxLocals]; done) | rfl
def Q_law (Z : State) (p1 : Int32) (q2 : Int64) (q3 : Int64) (q4 : Int64) (h0 : Heap) (n0 : Nat) (v : Option Value) (h : Heap) (L : List Loc) : Prop := v = some (.int (1 : Int32)) ∧ Fr n0 L
def Road_ttf (p1 : Int32) (q2 : Int64) (q3 : Int64) (q4 : Int64) : Prop := (¬ ((own_b p1 q2) = (0 : Int64))) ∧ (¬ ((own_k p1) = (61 : Int32))) ∧ (((own_r p1 q2 q3) + (own_b p1 q2)) < ((2 : Int64) <<< ((own_k p1) &&& 0x3f).toInt64)) ∧ ((f_length (own_gap p1 q2 q3 q4) (own_b p1 q2) ((63 : Int32) - (f_lnlz (own_b p1 q2))) (((2 : Int64) <<< (((63 : Int32) - (f_lnlz (own_b p1 q2))) &&& 0x3f).toInt64) - (own_b p1 q2))) = (own_exp p1 q2 q3 q4))
set_option maxRecDepth 65536 in
set_option maxHeartbeats 40000000 in
theorem rm_law_ttf (l : Launch) (Z : State) (a0 : Array Value) (hw : ∀ d ∈ tables_1, d.before a0 Z = true) (ws : List Jvm.Cond) (p1 : Int32) (q2 : Int64) (q3 : Int64) (q4 : Int64) (h0 : Heap) (n0 : Nat) (Z0 : n0 ≤ h0.size) (hroad : Road_ttf p1 q2 q3 q4) :
    MetFree l x (head1 (Jvm.Cond.code x code maxLocals ret :: ws) room_1) (fun a U => a = #[(.int p1), (.long q2), (.long q3), (.long q4)] ∧ Z.Warmed39 U.vm ∧ U.heap = h0) (fun _ _ _ _ _ => True) (fun _ U o U' => ∃ v L, o = .returned v ∧ Q_law Z p1 q2 q3 q4 h0 n0 v U'.heap L ∧ FrameEnd U o U' L room_1.cells room_1.slots) := by
  obtain ⟨hnz0, hc0, hc1, hc2⟩ := hroad
  refine MetFree.of_bodySF (plainFor_of_name pn_com_example_libmaybe_libmaybe_GolombCodeLengthPinLaw) hisR ?_
  intro p e s m args below meth c s₁ Bd hml0 hP hK
  obtain ⟨rfl, hZ, hh⟩ := hP
  have hx := Bd.exec
  have hby := Bd.bytes
  have hml : c.maxLocals = 25 := hml0
  have hown : s.vm.findClass "com/example/libmaybe/libmaybe/GolombCodeLengthPinLaw" = some m.cls := findClass_of_methodNamed Bd.named
  have hnm := (name_of_methodNamed Bd.named Bd.method).1
  have X0 : Stand p l e room_1 s m #[(.int p1), (.long q2), (.long q3), (.long q4)] below meth c s₁ [] 0 0 := Stand.of_body Bd
  have e0 : s₁.heap = h0 := by rw [← hh, Bd.state]; rfl
  have N0 := Fr.nil n0
  have pre0 : ∀ t, Steps p.tables e below (s₁.setTop (mkF m 0 #[.val (.int p1), .val (.long q2), .second, .val (.long q3), .second, .val (.long q4), .second, .unset, .unset, .unset, .unset, .unset, .unset, .unset, .unset, .unset, .unset, .unset, .unset, .unset, .unset, .unset, .unset, .unset, .unset] [])) t → Steps p.tables e below (s₁.setTop (entryFrame m #[(.int p1), (.long q2), (.long q3), (.long q4)] maxLocals)) t := fun t k => castTop (ef_0_IJJJ m p1 q2 q3 q4) k
  obtain ⟨_, _, ⟨T1, L1, k1, n1⟩, -, X1, ⟨Lc1, hQ1, l1, y1, z1⟩, st1⟩ := Jvm.LawKit.callS X0 hx (y := (⟨"java/lang/Math", "min", "(JJ)J"⟩ : MethodName)) hown (mvT hZ (hw _ (List.mem_of_getElem? (i := 2) rfl))) (mvT hZ (hw _ (List.mem_of_getElem? (i := 3) rfl))) (mvT hZ (hw _ (List.mem_of_getElem? (i := 4) rfl))) (mvT hZ (hw _ (List.mem_of_getElem? (i := 5) rfl))) (by decide) (backOf (W := 0) (rm_min l Z a0 hw [] (q4 &&& (9223372036854775807 : Int64)) (own_bound p1 q2 q3) h0 n0 Z0 ) hZ (hw _ (List.mem_of_getElem? (i := 5) rfl)) (hw _ (List.mem_of_getElem? (i := 4) rfl)) (by decide) (by decide)) (g := (mkF m 68 #[.val (.int p1), .val (.long q2), .second, .val (.long q3), .second, .val (.long q4), .second, .val (.int (own_k p1)), .val (.long (((1 : Int64) <<< ((own_k p1) &&& 0x3f).toInt64) - (1 : Int64))), .second, .val (.long (own_b p1 q2)), .second, .val (.long (own_r p1 q2 q3)), .second, .val (.long (own_bound p1 q2 q3)), .second, .unset, .unset, .unset, .unset, .unset, .unset, .unset, .unset, .unset] [(.long (own_bound p1 q2 q3)), (.long (q4 &&& (9223372036854775807 : Int64)))])) rfl (by rw [hml]; rfl) (argsL := [(.long (q4 &&& (9223372036854775807 : Int64))), (.long (own_bound p1 q2 q3))]) (rest := []) (lenOf pd_2 rfl) rfl (by show 2 * 0 + _ ≤ _; exact Nat.le_of_eq rfl) (hb hby at_68) (fun _ _ => ⟨rfl, e0, (by decide : 0 + 0 ≤ _), (by decide : 0 + 0 ≤ _)⟩)
  dsimp only [Pt.U, Pt.locs, Pt.cells, Pt.slots] at X1 l1 y1 z1 st1 hQ1
  subst l1 y1 z1
  obtain ⟨rfl, Nq1, e1⟩ := hQ1
  have N2 := Fr.app N0 Nq1
  obtain ⟨T3, h3, X3, e3, E3, A3, D3, -, st3⟩ := newO X1 hx hZ hown (hw _ (List.mem_of_getElem? (i := 7) rfl)) (hw _ (List.mem_of_getElem? (i := 8) rfl)) (hw _ (List.mem_of_getElem? (i := 9) rfl)) e1 (g := (mkF m 118 #[.val (.int p1), .val (.long q2), .second, .val (.long q3), .second, .val (.long q4), .second, .val (.int (own_k p1)), .val (.long (((1 : Int64) <<< ((own_k p1) &&& 0x3f).toInt64) - (1 : Int64))), .second, .val (.long (own_b p1 q2)), .second, .val (.long (own_r p1 q2 q3)), .second, .val (.long (own_bound p1 q2 q3)), .second, .val (.long (own_q p1 q2 q3 q4)), .second, .val (.long (own_gap p1 q2 q3 q4)), .second, .val (.long (0 : Int64)), .second, .val (.long (own_exp p1 q2 q3 q4)), .second, .unset] [])) rfl (hb hby at_118) (by decide) (by decide)
  obtain ⟨b3, g3⟩ : ∃ z, z = h0.size := ⟨_, rfl⟩
  rw [← g3] at A3 D3 st3
  have g_b3 : n0 ≤ b3 := Nat.le_trans Z0 (Nat.le_of_eq g3.symm)
  have Zs4 : n0 ≤ h3.size := Nat.le_trans Z0 E3.1
  have f5 : Fld Z h3 b3 "com/example/libmaybe/libmaybe/GolombCode" "parameter" "J" (.long (0 : Int64)) := D3 (Or.inr (hw _ (List.mem_of_getElem? (i := 17) rfl))) (ty := .long) (by decide)
  have f6 : Fld Z h3 b3 "com/example/libmaybe/libmaybe/GolombCode" "shortBits" "I" (.int (0 : Int32)) := D3 (Or.inr (hw _ (List.mem_of_getElem? (i := 28) rfl))) (ty := .int) (by decide)
  have f7 : Fld Z h3 b3 "com/example/libmaybe/libmaybe/GolombCode" "shortCount" "J" (.long (0 : Int64)) := D3 (Or.inr (hw _ (List.mem_of_getElem? (i := 31) rfl))) (ty := .long) (by decide)
  obtain ⟨_, _, ⟨T8, L8, k8, n8⟩, -, X8, ⟨Lc8, hQ8, l8, y8, z8⟩, st8⟩ := X3.specialBack hx (y := (⟨"com/example/libmaybe/libmaybe/GolombCode", "<init>", "(J)V"⟩ : MethodName)) rfl hown (mvT hZ (hw _ (List.mem_of_getElem? (i := 10) rfl))) (mvT hZ (hw _ (List.mem_of_getElem? (i := 11) rfl))) (mvT hZ (hw _ (List.mem_of_getElem? (i := 12) rfl))) (by decide) (backOf (W := 1) (rm_init l Z a0 hw [] b3 (own_b p1 q2) h3 n0 Zs4 A3 f5 g_b3 f6 f7) hZ (hw _ (List.mem_of_getElem? (i := 12) rfl)) (hw _ (List.mem_of_getElem? (i := 9) rfl)) (by decide) (by decide)) (g := (mkF m 124 #[.val (.int p1), .val (.long q2), .second, .val (.long q3), .second, .val (.long q4), .second, .val (.int (own_k p1)), .val (.long (((1 : Int64) <<< ((own_k p1) &&& 0x3f).toInt64) - (1 : Int64))), .second, .val (.long (own_b p1 q2)), .second, .val (.long (own_r p1 q2 q3)), .second, .val (.long (own_bound p1 q2 q3)), .second, .val (.long (own_q p1 q2 q3 q4)), .second, .val (.long (own_gap p1 q2 q3 q4)), .second, .val (.long (0 : Int64)), .second, .val (.long (own_exp p1 q2 q3 q4)), .second, .unset] [(.long (own_b p1 q2)), (.ref b3), (.ref b3)])) rfl (by rw [hml]; rfl) (Steps.refl _) (a := b3) (argsL := [(.long (own_b p1 q2))]) (rest := [(.ref b3)]) (lenOf pd_3 rfl) rfl (by show 2 * 0 + _ ≤ _; exact Nat.le_of_eq rfl) (hb hby at_124) (fun _ _ => ⟨rfl, e3, (by decide : 1 + 0 ≤ _), (by decide : 3 + 0 ≤ _)⟩)
  dsimp only [Pt.U, Pt.locs, Pt.cells, Pt.slots] at X8 l8 y8 z8 st8 hQ8
  subst l8 y8 z8
  obtain ⟨rfl, Nq8, Kc8, fq8_0, fq8_1, fq8_2, fq8_3⟩ := hQ8
  have f10 : Fld Z T8.heap b3 "com/example/libmaybe/libmaybe/GolombCode" "parameter" "J" (.long (own_b p1 q2)) := fq8_1
  have f11 : Fld Z T8.heap b3 "com/example/libmaybe/libmaybe/GolombCode" "shortBits" "I" (.int ((63 : Int32) - (f_lnlz (own_b p1 q2)))) := fq8_2
  have f12 : Fld Z T8.heap b3 "com/example/libmaybe/libmaybe/GolombCode" "shortCount" "J" (.long (((2 : Int64) <<< (((63 : Int32) - (f_lnlz (own_b p1 q2))) &&& 0x3f).toInt64) - (own_b p1 q2))) := fq8_3
  have Zs13 : n0 ≤ T8.heap.size := Nat.le_trans Zs4 Kc8.1
  have N9 := Fr.app N2 Nq8
  obtain ⟨cq14, kq14, q14a, q14b, q14c⟩ := isOf hZ rfl fq8_0
  obtain ⟨_, _, ⟨T14, L14, k14, n14⟩, -, X14, ⟨Lc14, hQ14, l14, y14, z14⟩, st14⟩ := X8.virtualBack hx (y := (⟨"com/example/libmaybe/libmaybe/GolombCode", "length", "(J)J"⟩ : MethodName)) (z := (⟨"com/example/libmaybe/libmaybe/GolombCode", "length", "(J)J"⟩ : MethodName)) hown (mvT hZ (hw _ (List.mem_of_getElem? (i := 32) rfl))) (mvT hZ (hw _ (List.mem_of_getElem? (i := 33) rfl))) (notFace_of_selects (args := #[]) (mvT hZ (hw _ (List.mem_of_getElem? (i := 35) rfl)))) (mvT hZ (hw _ (List.mem_of_getElem? (i := 35) rfl))) (mvT hZ (hw _ (List.mem_of_getElem? (i := 34) rfl))) (by decide) (backOf (W := 0) (rm_length l Z a0 hw [] b3 (own_gap p1 q2 q3 q4) (own_b p1 q2) ((63 : Int32) - (f_lnlz (own_b p1 q2))) (((2 : Int64) <<< (((63 : Int32) - (f_lnlz (own_b p1 q2))) &&& 0x3f).toInt64) - (own_b p1 q2)) T8.heap n0 Zs13 f10 f11 f12 hnz0) hZ (hw _ (List.mem_of_getElem? (i := 36) rfl)) (hw _ (List.mem_of_getElem? (i := 9) rfl)) (by decide) (by decide)) q14a q14c (g := (mkF m 133 #[.val (.int p1), .val (.long q2), .second, .val (.long q3), .second, .val (.long q4), .second, .val (.int (own_k p1)), .val (.long (((1 : Int64) <<< ((own_k p1) &&& 0x3f).toInt64) - (1 : Int64))), .second, .val (.long (own_b p1 q2)), .second, .val (.long (own_r p1 q2 q3)), .second, .val (.long (own_bound p1 q2 q3)), .second, .val (.long (own_q p1 q2 q3 q4)), .second, .val (.long (own_gap p1 q2 q3 q4)), .second, .val (.long (0 : Int64)), .second, .val (.long (own_exp p1 q2 q3 q4)), .second, .val (.ref b3)] [(.long (own_gap p1 q2 q3 q4)), (.ref b3)])) rfl (by rw [hml]; rfl) (Steps.refl _) (argsL := [(.long (own_gap p1 q2 q3 q4))]) (rest := []) (lenOf pd_4 rfl) rfl (by show 2 * 0 + _ ≤ _; exact Nat.le_of_eq rfl) (hb hby at_133) (fun _ _ => ⟨rfl, rfl, (by decide : 1 + 0 ≤ _), (by decide : 3 + 0 ≤ _)⟩)
  dsimp only [Pt.U, Pt.locs, Pt.cells, Pt.slots] at X14 l14 y14 z14 st14 hQ14
  subst l14 y14 z14
  obtain ⟨rfl, Nq14, e14⟩ := hQ14
  have N15 := Fr.app N9 Nq14
  obtain ⟨fs, hr, hrun, hended, hW, hsame⟩ := X14.leave (v := some (.int (1 : Int32))) (fun h => by rw [Bd.returns] at h; cases h) Bd.notSynchronized
  refine ⟨_, _, pre0 _ ?_, hrun, hended, _, _, rfl, ?_, ⟨_, rfl⟩, hW, hsame.mono (by decide) (by decide)⟩
  · show Steps p.tables e below (s₁.setTop (mkF m 0 #[.val (.int p1), .val (.long q2), .second, .val (.long q3), .second, .val (.long q4), .second, .unset, .unset, .unset, .unset, .unset, .unset, .unset, .unset, .unset, .unset, .unset, .unset, .unset, .unset, .unset, .unset, .unset, .unset] [])) _
    refine XS.iloadN X0.here hx rfl (hb hby at_0) rfl ?_
    show Steps p.tables e below (s₁.setTop (mkF m 1 #[.val (.int p1), .val (.long q2), .second, .val (.long q3), .second, .val (.long q4), .second, .unset, .unset, .unset, .unset, .unset, .unset, .unset, .unset, .unset, .unset, .unset, .unset, .unset, .unset, .unset, .unset, .unset, .unset] [(.int p1)])) _
    refine X0.ldcInt hx hown (mvT hZ (hw _ (List.mem_of_getElem? (i := 0) rfl))) (g := (mkF m 1 #[.val (.int p1), .val (.long q2), .second, .val (.long q3), .second, .val (.long q4), .second, .unset, .unset, .unset, .unset, .unset, .unset, .unset, .unset, .unset, .unset, .unset, .unset, .unset, .unset, .unset, .unset, .unset, .unset] [(.int p1)])) rfl (hb hby at_1) _ ?_
    show Steps p.tables e below (s₁.setTop (mkF m 3 #[.val (.int p1), .val (.long q2), .second, .val (.long q3), .second, .val (.long q4), .second, .unset, .unset, .unset, .unset, .unset, .unset, .unset, .unset, .unset, .unset, .unset, .unset, .unset, .unset, .unset, .unset, .unset, .unset] [(.int (2147483647 : Int32)), (.int p1)])) _
    refine XS.iand X0.here hx rfl (hb hby at_3) rfl ?_
    show Steps p.tables e below (s₁.setTop (mkF m 4 #[.val (.int p1), .val (.long q2), .second, .val (.long q3), .second, .val (.long q4), .second, .unset, .unset, .unset, .unset, .unset, .unset, .unset, .unset, .unset, .unset, .unset, .unset, .unset, .unset, .unset, .unset, .unset, .unset] [(.int (p1 &&& (2147483647 : Int32)))])) _
    refine XS.bipush X0.here hx rfl (hb hby at_4) ?_
    show Steps p.tables e below (s₁.setTop (mkF m 6 #[.val (.int p1), .val (.long q2), .second, .val (.long q3), .second, .val (.long q4), .second, .unset, .unset, .unset, .unset, .unset, .unset, .unset, .unset, .unset, .unset, .unset, .unset, .unset, .unset, .unset, .unset, .unset, .unset] [(.int (62 : Int32)), (.int (p1 &&& (2147483647 : Int32)))])) _
    refine iremM X0 hx rfl (hb hby at_6) rfl (by decide) ?_
    show Steps p.tables e below (s₁.setTop (mkF m 7 #[.val (.int p1), .val (.long q2), .second, .val (.long q3), .second, .val (.long q4), .second, .unset, .unset, .unset, .unset, .unset, .unset, .unset, .unset, .unset, .unset, .unset, .unset, .unset, .unset, .unset, .unset, .unset, .unset] [(.int ((p1 &&& (2147483647 : Int32)) % (62 : Int32)))])) _
    refine XS.istore X0.here hx rfl (hb hby at_7) rfl (l' := #[.val (.int p1), .val (.long q2), .second, .val (.long q3), .second, .val (.long q4), .second, .val (.int (own_k p1)), .unset, .unset, .unset, .unset, .unset, .unset, .unset, .unset, .unset, .unset, .unset, .unset, .unset, .unset, .unset, .unset, .unset]) rfl ?_
    show Steps p.tables e below (s₁.setTop (mkF m 9 #[.val (.int p1), .val (.long q2), .second, .val (.long q3), .second, .val (.long q4), .second, .val (.int (own_k p1)), .unset, .unset, .unset, .unset, .unset, .unset, .unset, .unset, .unset, .unset, .unset, .unset, .unset, .unset, .unset, .unset, .unset] [])) _
    refine XS.iload X0.here hx rfl (hb hby at_9) rfl ?_
    show Steps p.tables e below (s₁.setTop (mkF m 11 #[.val (.int p1), .val (.long q2), .second, .val (.long q3), .second, .val (.long q4), .second, .val (.int (own_k p1)), .unset, .unset, .unset, .unset, .unset, .unset, .unset, .unset, .unset, .unset, .unset, .unset, .unset, .unset, .unset, .unset, .unset] [(.int (own_k p1))])) _
    refine XS.bipush X0.here hx rfl (hb hby at_11) ?_
    show Steps p.tables e below (s₁.setTop (mkF m 13 #[.val (.int p1), .val (.long q2), .second, .val (.long q3), .second, .val (.long q4), .second, .val (.int (own_k p1)), .unset, .unset, .unset, .unset, .unset, .unset, .unset, .unset, .unset, .unset, .unset, .unset, .unset, .unset, .unset, .unset, .unset] [(.int (61 : Int32)), (.int (own_k p1))])) _
    refine XS.icmpYes X0.here hx rfl (pc0 := 13) (pc' := 20) rfl (hb hby at_13) rfl (feq hc0).2 (by decide) (by decide) ?_
    show Steps p.tables e below (s₁.setTop (mkF m 20 #[.val (.int p1), .val (.long q2), .second, .val (.long q3), .second, .val (.long q4), .second, .val (.int (own_k p1)), .unset, .unset, .unset, .unset, .unset, .unset, .unset, .unset, .unset, .unset, .unset, .unset, .unset, .unset, .unset, .unset, .unset] [])) _
    refine XS.lconst X0.here hx rfl (hb hby at_20) ?_
    show Steps p.tables e below (s₁.setTop (mkF m 21 #[.val (.int p1), .val (.long q2), .second, .val (.long q3), .second, .val (.long q4), .second, .val (.int (own_k p1)), .unset, .unset, .unset, .unset, .unset, .unset, .unset, .unset, .unset, .unset, .unset, .unset, .unset, .unset, .unset, .unset, .unset] [(.long (1 : Int64))])) _
    refine XS.iload X0.here hx rfl (hb hby at_21) rfl ?_
    show Steps p.tables e below (s₁.setTop (mkF m 23 #[.val (.int p1), .val (.long q2), .second, .val (.long q3), .second, .val (.long q4), .second, .val (.int (own_k p1)), .unset, .unset, .unset, .unset, .unset, .unset, .unset, .unset, .unset, .unset, .unset, .unset, .unset, .unset, .unset, .unset, .unset] [(.int (own_k p1)), (.long (1 : Int64))])) _
    refine XS.lshl X0.here hx rfl (hb hby at_23) rfl ?_
    show Steps p.tables e below (s₁.setTop (mkF m 24 #[.val (.int p1), .val (.long q2), .second, .val (.long q3), .second, .val (.long q4), .second, .val (.int (own_k p1)), .unset, .unset, .unset, .unset, .unset, .unset, .unset, .unset, .unset, .unset, .unset, .unset, .unset, .unset, .unset, .unset, .unset] [(.long ((1 : Int64) <<< ((own_k p1) &&& 0x3f).toInt64))])) _
    refine XS.lconst X0.here hx rfl (hb hby at_24) ?_
    show Steps p.tables e below (s₁.setTop (mkF m 25 #[.val (.int p1), .val (.long q2), .second, .val (.long q3), .second, .val (.long q4), .second, .val (.int (own_k p1)), .unset, .unset, .unset, .unset, .unset, .unset, .unset, .unset, .unset, .unset, .unset, .unset, .unset, .unset, .unset, .unset, .unset] [(.long (1 : Int64)), (.long ((1 : Int64) <<< ((own_k p1) &&& 0x3f).toInt64))])) _
    refine XS.lsub X0.here hx rfl (hb hby at_25) rfl ?_
    show Steps p.tables e below (s₁.setTop (mkF m 26 #[.val (.int p1), .val (.long q2), .second, .val (.long q3), .second, .val (.long q4), .second, .val (.int (own_k p1)), .unset, .unset, .unset, .unset, .unset, .unset, .unset, .unset, .unset, .unset, .unset, .unset, .unset, .unset, .unset, .unset, .unset] [(.long (((1 : Int64) <<< ((own_k p1) &&& 0x3f).toInt64) - (1 : Int64)))])) _
    refine XS.lstore X0.here hx rfl (hb hby at_26) rfl (l' := #[.val (.int p1), .val (.long q2), .second, .val (.long q3), .second, .val (.long q4), .second, .val (.int (own_k p1)), .val (.long (((1 : Int64) <<< ((own_k p1) &&& 0x3f).toInt64) - (1 : Int64))), .second, .unset, .unset, .unset, .unset, .unset, .unset, .unset, .unset, .unset, .unset, .unset, .unset, .unset, .unset, .unset]) rfl ?_
    show Steps p.tables e below (s₁.setTop (mkF m 28 #[.val (.int p1), .val (.long q2), .second, .val (.long q3), .second, .val (.long q4), .second, .val (.int (own_k p1)), .val (.long (((1 : Int64) <<< ((own_k p1) &&& 0x3f).toInt64) - (1 : Int64))), .second, .unset, .unset, .unset, .unset, .unset, .unset, .unset, .unset, .unset, .unset, .unset, .unset, .unset, .unset, .unset] [])) _
    refine XS.lconst X0.here hx rfl (hb hby at_28) ?_
    show Steps p.tables e below (s₁.setTop (mkF m 29 #[.val (.int p1), .val (.long q2), .second, .val (.long q3), .second, .val (.long q4), .second, .val (.int (own_k p1)), .val (.long (((1 : Int64) <<< ((own_k p1) &&& 0x3f).toInt64) - (1 : Int64))), .second, .unset, .unset, .unset, .unset, .unset, .unset, .unset, .unset, .unset, .unset, .unset, .unset, .unset, .unset, .unset] [(.long (1 : Int64))])) _
    refine XS.iload X0.here hx rfl (hb hby at_29) rfl ?_
    show Steps p.tables e below (s₁.setTop (mkF m 31 #[.val (.int p1), .val (.long q2), .second, .val (.long q3), .second, .val (.long q4), .second, .val (.int (own_k p1)), .val (.long (((1 : Int64) <<< ((own_k p1) &&& 0x3f).toInt64) - (1 : Int64))), .second, .unset, .unset, .unset, .unset, .unset, .unset, .unset, .unset, .unset, .unset, .unset, .unset, .unset, .unset, .unset] [(.int (own_k p1)), (.long (1 : Int64))])) _
    refine XS.lshl X0.here hx rfl (hb hby at_31) rfl ?_
    show Steps p.tables e below (s₁.setTop (mkF m 32 #[.val (.int p1), .val (.long q2), .second, .val (.long q3), .second, .val (.long q4), .second, .val (.int (own_k p1)), .val (.long (((1 : Int64) <<< ((own_k p1) &&& 0x3f).toInt64) - (1 : Int64))), .second, .unset, .unset, .unset, .unset, .unset, .unset, .unset, .unset, .unset, .unset, .unset, .unset, .unset, .unset, .unset] [(.long ((1 : Int64) <<< ((own_k p1) &&& 0x3f).toInt64))])) _
    refine XS.lloadN X0.here hx rfl (hb hby at_32) rfl ?_
    show Steps p.tables e below (s₁.setTop (mkF m 33 #[.val (.int p1), .val (.long q2), .second, .val (.long q3), .second, .val (.long q4), .second, .val (.int (own_k p1)), .val (.long (((1 : Int64) <<< ((own_k p1) &&& 0x3f).toInt64) - (1 : Int64))), .second, .unset, .unset, .unset, .unset, .unset, .unset, .unset, .unset, .unset, .unset, .unset, .unset, .unset, .unset, .unset] [(.long q2), (.long ((1 : Int64) <<< ((own_k p1) &&& 0x3f).toInt64))])) _
    refine XS.lload X0.here hx rfl (hb hby at_33) rfl ?_
    show Steps p.tables e below (s₁.setTop (mkF m 35 #[.val (.int p1), .val (.long q2), .second, .val (.long q3), .second, .val (.long q4), .second, .val (.int (own_k p1)), .val (.long (((1 : Int64) <<< ((own_k p1) &&& 0x3f).toInt64) - (1 : Int64))), .second, .unset, .unset, .unset, .unset, .unset, .unset, .unset, .unset, .unset, .unset, .unset, .unset, .unset, .unset, .unset] [(.long (((1 : Int64) <<< ((own_k p1) &&& 0x3f).toInt64) - (1 : Int64))), (.long q2), (.long ((1 : Int64) <<< ((own_k p1) &&& 0x3f).toInt64))])) _
    refine XS.land X0.here hx rfl (hb hby at_35) rfl ?_
    show Steps p.tables e below (s₁.setTop (mkF m 36 #[.val (.int p1), .val (.long q2), .second, .val (.long q3), .second, .val (.long q4), .second, .val (.int (own_k p1)), .val (.long (((1 : Int64) <<< ((own_k p1) &&& 0x3f).toInt64) - (1 : Int64))), .second, .unset, .unset, .unset, .unset, .unset, .unset, .unset, .unset, .unset, .unset, .unset, .unset, .unset, .unset, .unset] [(.long (q2 &&& (((1 : Int64) <<< ((own_k p1) &&& 0x3f).toInt64) - (1 : Int64)))), (.long ((1 : Int64) <<< ((own_k p1) &&& 0x3f).toInt64))])) _
    refine XS.lor X0.here hx rfl (hb hby at_36) rfl ?_
    show Steps p.tables e below (s₁.setTop (mkF m 37 #[.val (.int p1), .val (.long q2), .second, .val (.long q3), .second, .val (.long q4), .second, .val (.int (own_k p1)), .val (.long (((1 : Int64) <<< ((own_k p1) &&& 0x3f).toInt64) - (1 : Int64))), .second, .unset, .unset, .unset, .unset, .unset, .unset, .unset, .unset, .unset, .unset, .unset, .unset, .unset, .unset, .unset] [(.long (((1 : Int64) <<< ((own_k p1) &&& 0x3f).toInt64) ||| (q2 &&& (((1 : Int64) <<< ((own_k p1) &&& 0x3f).toInt64) - (1 : Int64)))))])) _
    refine XS.lstore X0.here hx rfl (hb hby at_37) rfl (l' := #[.val (.int p1), .val (.long q2), .second, .val (.long q3), .second, .val (.long q4), .second, .val (.int (own_k p1)), .val (.long (((1 : Int64) <<< ((own_k p1) &&& 0x3f).toInt64) - (1 : Int64))), .second, .val (.long (own_b p1 q2)), .second, .unset, .unset, .unset, .unset, .unset, .unset, .unset, .unset, .unset, .unset, .unset, .unset, .unset]) rfl ?_
    show Steps p.tables e below (s₁.setTop (mkF m 39 #[.val (.int p1), .val (.long q2), .second, .val (.long q3), .second, .val (.long q4), .second, .val (.int (own_k p1)), .val (.long (((1 : Int64) <<< ((own_k p1) &&& 0x3f).toInt64) - (1 : Int64))), .second, .val (.long (own_b p1 q2)), .second, .unset, .unset, .unset, .unset, .unset, .unset, .unset, .unset, .unset, .unset, .unset, .unset, .unset] [])) _
    refine XS.lloadN X0.here hx rfl (hb hby at_39) rfl ?_
    show Steps p.tables e below (s₁.setTop (mkF m 40 #[.val (.int p1), .val (.long q2), .second, .val (.long q3), .second, .val (.long q4), .second, .val (.int (own_k p1)), .val (.long (((1 : Int64) <<< ((own_k p1) &&& 0x3f).toInt64) - (1 : Int64))), .second, .val (.long (own_b p1 q2)), .second, .unset, .unset, .unset, .unset, .unset, .unset, .unset, .unset, .unset, .unset, .unset, .unset, .unset] [(.long q3)])) _
    refine X0.ldc2Long hx hown (mvT hZ (hw _ (List.mem_of_getElem? (i := 1) rfl))) (g := (mkF m 40 #[.val (.int p1), .val (.long q2), .second, .val (.long q3), .second, .val (.long q4), .second, .val (.int (own_k p1)), .val (.long (((1 : Int64) <<< ((own_k p1) &&& 0x3f).toInt64) - (1 : Int64))), .second, .val (.long (own_b p1 q2)), .second, .unset, .unset, .unset, .unset, .unset, .unset, .unset, .unset, .unset, .unset, .unset, .unset, .unset] [(.long q3)])) rfl (hb hby at_40) _ ?_
    show Steps p.tables e below (s₁.setTop (mkF m 43 #[.val (.int p1), .val (.long q2), .second, .val (.long q3), .second, .val (.long q4), .second, .val (.int (own_k p1)), .val (.long (((1 : Int64) <<< ((own_k p1) &&& 0x3f).toInt64) - (1 : Int64))), .second, .val (.long (own_b p1 q2)), .second, .unset, .unset, .unset, .unset, .unset, .unset, .unset, .unset, .unset, .unset, .unset, .unset, .unset] [(.long (9223372036854775807 : Int64)), (.long q3)])) _
    refine XS.land X0.here hx rfl (hb hby at_43) rfl ?_
    show Steps p.tables e below (s₁.setTop (mkF m 44 #[.val (.int p1), .val (.long q2), .second, .val (.long q3), .second, .val (.long q4), .second, .val (.int (own_k p1)), .val (.long (((1 : Int64) <<< ((own_k p1) &&& 0x3f).toInt64) - (1 : Int64))), .second, .val (.long (own_b p1 q2)), .second, .unset, .unset, .unset, .unset, .unset, .unset, .unset, .unset, .unset, .unset, .unset, .unset, .unset] [(.long (q3 &&& (9223372036854775807 : Int64)))])) _
    refine XS.lload X0.here hx rfl (hb hby at_44) rfl ?_
    show Steps p.tables e below (s₁.setTop (mkF m 46 #[.val (.int p1), .val (.long q2), .second, .val (.long q3), .second, .val (.long q4), .second, .val (.int (own_k p1)), .val (.long (((1 : Int64) <<< ((own_k p1) &&& 0x3f).toInt64) - (1 : Int64))), .second, .val (.long (own_b p1 q2)), .second, .unset, .unset, .unset, .unset, .unset, .unset, .unset, .unset, .unset, .unset, .unset, .unset, .unset] [(.long (own_b p1 q2)), (.long (q3 &&& (9223372036854775807 : Int64)))])) _
    refine XS.lrem X0.here hx rfl (hb hby at_46) rfl hnz0 ?_
    rw [lrem_mod]
    show Steps p.tables e below (s₁.setTop (mkF m 47 #[.val (.int p1), .val (.long q2), .second, .val (.long q3), .second, .val (.long q4), .second, .val (.int (own_k p1)), .val (.long (((1 : Int64) <<< ((own_k p1) &&& 0x3f).toInt64) - (1 : Int64))), .second, .val (.long (own_b p1 q2)), .second, .unset, .unset, .unset, .unset, .unset, .unset, .unset, .unset, .unset, .unset, .unset, .unset, .unset] [(.long ((q3 &&& (9223372036854775807 : Int64)) % (own_b p1 q2)))])) _
    refine XS.lstore X0.here hx rfl (hb hby at_47) rfl (l' := #[.val (.int p1), .val (.long q2), .second, .val (.long q3), .second, .val (.long q4), .second, .val (.int (own_k p1)), .val (.long (((1 : Int64) <<< ((own_k p1) &&& 0x3f).toInt64) - (1 : Int64))), .second, .val (.long (own_b p1 q2)), .second, .val (.long (own_r p1 q2 q3)), .second, .unset, .unset, .unset, .unset, .unset, .unset, .unset, .unset, .unset, .unset, .unset]) rfl ?_
    show Steps p.tables e below (s₁.setTop (mkF m 49 #[.val (.int p1), .val (.long q2), .second, .val (.long q3), .second, .val (.long q4), .second, .val (.int (own_k p1)), .val (.long (((1 : Int64) <<< ((own_k p1) &&& 0x3f).toInt64) - (1 : Int64))), .second, .val (.long (own_b p1 q2)), .second, .val (.long (own_r p1 q2 q3)), .second, .unset, .unset, .unset, .unset, .unset, .unset, .unset, .unset, .unset, .unset, .unset] [])) _
    refine X0.ldc2Long hx hown (mvT hZ (hw _ (List.mem_of_getElem? (i := 1) rfl))) (g := (mkF m 49 #[.val (.int p1), .val (.long q2), .second, .val (.long q3), .second, .val (.long q4), .second, .val (.int (own_k p1)), .val (.long (((1 : Int64) <<< ((own_k p1) &&& 0x3f).toInt64) - (1 : Int64))), .second, .val (.long (own_b p1 q2)), .second, .val (.long (own_r p1 q2 q3)), .second, .unset, .unset, .unset, .unset, .unset, .unset, .unset, .unset, .unset, .unset, .unset] [])) rfl (hb hby at_49) _ ?_
    show Steps p.tables e below (s₁.setTop (mkF m 52 #[.val (.int p1), .val (.long q2), .second, .val (.long q3), .second, .val (.long q4), .second, .val (.int (own_k p1)), .val (.long (((1 : Int64) <<< ((own_k p1) &&& 0x3f).toInt64) - (1 : Int64))), .second, .val (.long (own_b p1 q2)), .second, .val (.long (own_r p1 q2 q3)), .second, .unset, .unset, .unset, .unset, .unset, .unset, .unset, .unset, .unset, .unset, .unset] [(.long (9223372036854775807 : Int64))])) _
    refine XS.lload X0.here hx rfl (hb hby at_52) rfl ?_
    show Steps p.tables e below (s₁.setTop (mkF m 54 #[.val (.int p1), .val (.long q2), .second, .val (.long q3), .second, .val (.long q4), .second, .val (.int (own_k p1)), .val (.long (((1 : Int64) <<< ((own_k p1) &&& 0x3f).toInt64) - (1 : Int64))), .second, .val (.long (own_b p1 q2)), .second, .val (.long (own_r p1 q2 q3)), .second, .unset, .unset, .unset, .unset, .unset, .unset, .unset, .unset, .unset, .unset, .unset] [(.long (own_r p1 q2 q3)), (.long (9223372036854775807 : Int64))])) _
    refine XS.lsub X0.here hx rfl (hb hby at_54) rfl ?_
    show Steps p.tables e below (s₁.setTop (mkF m 55 #[.val (.int p1), .val (.long q2), .second, .val (.long q3), .second, .val (.long q4), .second, .val (.int (own_k p1)), .val (.long (((1 : Int64) <<< ((own_k p1) &&& 0x3f).toInt64) - (1 : Int64))), .second, .val (.long (own_b p1 q2)), .second, .val (.long (own_r p1 q2 q3)), .second, .unset, .unset, .unset, .unset, .unset, .unset, .unset, .unset, .unset, .unset, .unset] [(.long ((9223372036854775807 : Int64) - (own_r p1 q2 q3)))])) _
    refine XS.lload X0.here hx rfl (hb hby at_55) rfl ?_
    show Steps p.tables e below (s₁.setTop (mkF m 57 #[.val (.int p1), .val (.long q2), .second, .val (.long q3), .second, .val (.long q4), .second, .val (.int (own_k p1)), .val (.long (((1 : Int64) <<< ((own_k p1) &&& 0x3f).toInt64) - (1 : Int64))), .second, .val (.long (own_b p1 q2)), .second, .val (.long (own_r p1 q2 q3)), .second, .unset, .unset, .unset, .unset, .unset, .unset, .unset, .unset, .unset, .unset, .unset] [(.long (own_b p1 q2)), (.long ((9223372036854775807 : Int64) - (own_r p1 q2 q3)))])) _
    refine XS.ldiv X0.here hx rfl (hb hby at_57) rfl hnz0 ?_
    show Steps p.tables e below (s₁.setTop (mkF m 58 #[.val (.int p1), .val (.long q2), .second, .val (.long q3), .second, .val (.long q4), .second, .val (.int (own_k p1)), .val (.long (((1 : Int64) <<< ((own_k p1) &&& 0x3f).toInt64) - (1 : Int64))), .second, .val (.long (own_b p1 q2)), .second, .val (.long (own_r p1 q2 q3)), .second, .unset, .unset, .unset, .unset, .unset, .unset, .unset, .unset, .unset, .unset, .unset] [(.long (((9223372036854775807 : Int64) - (own_r p1 q2 q3)) / (own_b p1 q2)))])) _
    refine XS.lstore X0.here hx rfl (hb hby at_58) rfl (l' := #[.val (.int p1), .val (.long q2), .second, .val (.long q3), .second, .val (.long q4), .second, .val (.int (own_k p1)), .val (.long (((1 : Int64) <<< ((own_k p1) &&& 0x3f).toInt64) - (1 : Int64))), .second, .val (.long (own_b p1 q2)), .second, .val (.long (own_r p1 q2 q3)), .second, .val (.long (own_bound p1 q2 q3)), .second, .unset, .unset, .unset, .unset, .unset, .unset, .unset, .unset, .unset]) rfl ?_
    show Steps p.tables e below (s₁.setTop (mkF m 60 #[.val (.int p1), .val (.long q2), .second, .val (.long q3), .second, .val (.long q4), .second, .val (.int (own_k p1)), .val (.long (((1 : Int64) <<< ((own_k p1) &&& 0x3f).toInt64) - (1 : Int64))), .second, .val (.long (own_b p1 q2)), .second, .val (.long (own_r p1 q2 q3)), .second, .val (.long (own_bound p1 q2 q3)), .second, .unset, .unset, .unset, .unset, .unset, .unset, .unset, .unset, .unset] [])) _
    refine XS.lload X0.here hx rfl (hb hby at_60) rfl ?_
    show Steps p.tables e below (s₁.setTop (mkF m 62 #[.val (.int p1), .val (.long q2), .second, .val (.long q3), .second, .val (.long q4), .second, .val (.int (own_k p1)), .val (.long (((1 : Int64) <<< ((own_k p1) &&& 0x3f).toInt64) - (1 : Int64))), .second, .val (.long (own_b p1 q2)), .second, .val (.long (own_r p1 q2 q3)), .second, .val (.long (own_bound p1 q2 q3)), .second, .unset, .unset, .unset, .unset, .unset, .unset, .unset, .unset, .unset] [(.long q4)])) _
    refine X0.ldc2Long hx hown (mvT hZ (hw _ (List.mem_of_getElem? (i := 1) rfl))) (g := (mkF m 62 #[.val (.int p1), .val (.long q2), .second, .val (.long q3), .second, .val (.long q4), .second, .val (.int (own_k p1)), .val (.long (((1 : Int64) <<< ((own_k p1) &&& 0x3f).toInt64) - (1 : Int64))), .second, .val (.long (own_b p1 q2)), .second, .val (.long (own_r p1 q2 q3)), .second, .val (.long (own_bound p1 q2 q3)), .second, .unset, .unset, .unset, .unset, .unset, .unset, .unset, .unset, .unset] [(.long q4)])) rfl (hb hby at_62) _ ?_
    show Steps p.tables e below (s₁.setTop (mkF m 65 #[.val (.int p1), .val (.long q2), .second, .val (.long q3), .second, .val (.long q4), .second, .val (.int (own_k p1)), .val (.long (((1 : Int64) <<< ((own_k p1) &&& 0x3f).toInt64) - (1 : Int64))), .second, .val (.long (own_b p1 q2)), .second, .val (.long (own_r p1 q2 q3)), .second, .val (.long (own_bound p1 q2 q3)), .second, .unset, .unset, .unset, .unset, .unset, .unset, .unset, .unset, .unset] [(.long (9223372036854775807 : Int64)), (.long q4)])) _
    refine XS.land X0.here hx rfl (hb hby at_65) rfl ?_
    show Steps p.tables e below (s₁.setTop (mkF m 66 #[.val (.int p1), .val (.long q2), .second, .val (.long q3), .second, .val (.long q4), .second, .val (.int (own_k p1)), .val (.long (((1 : Int64) <<< ((own_k p1) &&& 0x3f).toInt64) - (1 : Int64))), .second, .val (.long (own_b p1 q2)), .second, .val (.long (own_r p1 q2 q3)), .second, .val (.long (own_bound p1 q2 q3)), .second, .unset, .unset, .unset, .unset, .unset, .unset, .unset, .unset, .unset] [(.long (q4 &&& (9223372036854775807 : Int64)))])) _
    refine XS.lload X0.here hx rfl (hb hby at_66) rfl ?_
    show Steps p.tables e below (s₁.setTop (mkF m 68 #[.val (.int p1), .val (.long q2), .second, .val (.long q3), .second, .val (.long q4), .second, .val (.int (own_k p1)), .val (.long (((1 : Int64) <<< ((own_k p1) &&& 0x3f).toInt64) - (1 : Int64))), .second, .val (.long (own_b p1 q2)), .second, .val (.long (own_r p1 q2 q3)), .second, .val (.long (own_bound p1 q2 q3)), .second, .unset, .unset, .unset, .unset, .unset, .unset, .unset, .unset, .unset] [(.long (own_bound p1 q2 q3)), (.long (q4 &&& (9223372036854775807 : Int64)))])) _
    refine st1 _ ?_
    show Steps p.tables e below (T1.setTop (mkF m 71 #[.val (.int p1), .val (.long q2), .second, .val (.long q3), .second, .val (.long q4), .second, .val (.int (own_k p1)), .val (.long (((1 : Int64) <<< ((own_k p1) &&& 0x3f).toInt64) - (1 : Int64))), .second, .val (.long (own_b p1 q2)), .second, .val (.long (own_r p1 q2 q3)), .second, .val (.long (own_bound p1 q2 q3)), .second, .unset, .unset, .unset, .unset, .unset, .unset, .unset, .unset, .unset] [(.long (f_min (q4 &&& (9223372036854775807 : Int64)) (own_bound p1 q2 q3)))])) _
    refine XS.lstore X1.here hx rfl (hb hby at_71) rfl (l' := #[.val (.int p1), .val (.long q2), .second, .val (.long q3), .second, .val (.long q4), .second, .val (.int (own_k p1)), .val (.long (((1 : Int64) <<< ((own_k p1) &&& 0x3f).toInt64) - (1 : Int64))), .second, .val (.long (own_b p1 q2)), .second, .val (.long (own_r p1 q2 q3)), .second, .val (.long (own_bound p1 q2 q3)), .second, .val (.long (own_q p1 q2 q3 q4)), .second, .unset, .unset, .unset, .unset, .unset, .unset, .unset]) rfl ?_
    show Steps p.tables e below (T1.setTop (mkF m 73 #[.val (.int p1), .val (.long q2), .second, .val (.long q3), .second, .val (.long q4), .second, .val (.int (own_k p1)), .val (.long (((1 : Int64) <<< ((own_k p1) &&& 0x3f).toInt64) - (1 : Int64))), .second, .val (.long (own_b p1 q2)), .second, .val (.long (own_r p1 q2 q3)), .second, .val (.long (own_bound p1 q2 q3)), .second, .val (.long (own_q p1 q2 q3 q4)), .second, .unset, .unset, .unset, .unset, .unset, .unset, .unset] [])) _
    refine XS.lload X1.here hx rfl (hb hby at_73) rfl ?_
    show Steps p.tables e below (T1.setTop (mkF m 75 #[.val (.int p1), .val (.long q2), .second, .val (.long q3), .second, .val (.long q4), .second, .val (.int (own_k p1)), .val (.long (((1 : Int64) <<< ((own_k p1) &&& 0x3f).toInt64) - (1 : Int64))), .second, .val (.long (own_b p1 q2)), .second, .val (.long (own_r p1 q2 q3)), .second, .val (.long (own_bound p1 q2 q3)), .second, .val (.long (own_q p1 q2 q3 q4)), .second, .unset, .unset, .unset, .unset, .unset, .unset, .unset] [(.long (own_q p1 q2 q3 q4))])) _
    refine XS.lload X1.here hx rfl (hb hby at_75) rfl ?_
    show Steps p.tables e below (T1.setTop (mkF m 77 #[.val (.int p1), .val (.long q2), .second, .val (.long q3), .second, .val (.long q4), .second, .val (.int (own_k p1)), .val (.long (((1 : Int64) <<< ((own_k p1) &&& 0x3f).toInt64) - (1 : Int64))), .second, .val (.long (own_b p1 q2)), .second, .val (.long (own_r p1 q2 q3)), .second, .val (.long (own_bound p1 q2 q3)), .second, .val (.long (own_q p1 q2 q3 q4)), .second, .unset, .unset, .unset, .unset, .unset, .unset, .unset] [(.long (own_b p1 q2)), (.long (own_q p1 q2 q3 q4))])) _
    refine XS.lmul X1.here hx rfl (hb hby at_77) rfl ?_
    show Steps p.tables e below (T1.setTop (mkF m 78 #[.val (.int p1), .val (.long q2), .second, .val (.long q3), .second, .val (.long q4), .second, .val (.int (own_k p1)), .val (.long (((1 : Int64) <<< ((own_k p1) &&& 0x3f).toInt64) - (1 : Int64))), .second, .val (.long (own_b p1 q2)), .second, .val (.long (own_r p1 q2 q3)), .second, .val (.long (own_bound p1 q2 q3)), .second, .val (.long (own_q p1 q2 q3 q4)), .second, .unset, .unset, .unset, .unset, .unset, .unset, .unset] [(.long ((own_q p1 q2 q3 q4) * (own_b p1 q2)))])) _
    refine XS.lload X1.here hx rfl (hb hby at_78) rfl ?_
    show Steps p.tables e below (T1.setTop (mkF m 80 #[.val (.int p1), .val (.long q2), .second, .val (.long q3), .second, .val (.long q4), .second, .val (.int (own_k p1)), .val (.long (((1 : Int64) <<< ((own_k p1) &&& 0x3f).toInt64) - (1 : Int64))), .second, .val (.long (own_b p1 q2)), .second, .val (.long (own_r p1 q2 q3)), .second, .val (.long (own_bound p1 q2 q3)), .second, .val (.long (own_q p1 q2 q3 q4)), .second, .unset, .unset, .unset, .unset, .unset, .unset, .unset] [(.long (own_r p1 q2 q3)), (.long ((own_q p1 q2 q3 q4) * (own_b p1 q2)))])) _
    refine XS.ladd X1.here hx rfl (hb hby at_80) rfl ?_
    show Steps p.tables e below (T1.setTop (mkF m 81 #[.val (.int p1), .val (.long q2), .second, .val (.long q3), .second, .val (.long q4), .second, .val (.int (own_k p1)), .val (.long (((1 : Int64) <<< ((own_k p1) &&& 0x3f).toInt64) - (1 : Int64))), .second, .val (.long (own_b p1 q2)), .second, .val (.long (own_r p1 q2 q3)), .second, .val (.long (own_bound p1 q2 q3)), .second, .val (.long (own_q p1 q2 q3 q4)), .second, .unset, .unset, .unset, .unset, .unset, .unset, .unset] [(.long (((own_q p1 q2 q3 q4) * (own_b p1 q2)) + (own_r p1 q2 q3)))])) _
    refine XS.lstore X1.here hx rfl (hb hby at_81) rfl (l' := #[.val (.int p1), .val (.long q2), .second, .val (.long q3), .second, .val (.long q4), .second, .val (.int (own_k p1)), .val (.long (((1 : Int64) <<< ((own_k p1) &&& 0x3f).toInt64) - (1 : Int64))), .second, .val (.long (own_b p1 q2)), .second, .val (.long (own_r p1 q2 q3)), .second, .val (.long (own_bound p1 q2 q3)), .second, .val (.long (own_q p1 q2 q3 q4)), .second, .val (.long (own_gap p1 q2 q3 q4)), .second, .unset, .unset, .unset, .unset, .unset]) rfl ?_
    show Steps p.tables e below (T1.setTop (mkF m 83 #[.val (.int p1), .val (.long q2), .second, .val (.long q3), .second, .val (.long q4), .second, .val (.int (own_k p1)), .val (.long (((1 : Int64) <<< ((own_k p1) &&& 0x3f).toInt64) - (1 : Int64))), .second, .val (.long (own_b p1 q2)), .second, .val (.long (own_r p1 q2 q3)), .second, .val (.long (own_bound p1 q2 q3)), .second, .val (.long (own_q p1 q2 q3 q4)), .second, .val (.long (own_gap p1 q2 q3 q4)), .second, .unset, .unset, .unset, .unset, .unset] [])) _
    refine XS.lload X1.here hx rfl (hb hby at_83) rfl ?_
    show Steps p.tables e below (T1.setTop (mkF m 85 #[.val (.int p1), .val (.long q2), .second, .val (.long q3), .second, .val (.long q4), .second, .val (.int (own_k p1)), .val (.long (((1 : Int64) <<< ((own_k p1) &&& 0x3f).toInt64) - (1 : Int64))), .second, .val (.long (own_b p1 q2)), .second, .val (.long (own_r p1 q2 q3)), .second, .val (.long (own_bound p1 q2 q3)), .second, .val (.long (own_q p1 q2 q3 q4)), .second, .val (.long (own_gap p1 q2 q3 q4)), .second, .unset, .unset, .unset, .unset, .unset] [(.long (own_r p1 q2 q3))])) _
    refine XS.lload X1.here hx rfl (hb hby at_85) rfl ?_
    show Steps p.tables e below (T1.setTop (mkF m 87 #[.val (.int p1), .val (.long q2), .second, .val (.long q3), .second, .val (.long q4), .second, .val (.int (own_k p1)), .val (.long (((1 : Int64) <<< ((own_k p1) &&& 0x3f).toInt64) - (1 : Int64))), .second, .val (.long (own_b p1 q2)), .second, .val (.long (own_r p1 q2 q3)), .second, .val (.long (own_bound p1 q2 q3)), .second, .val (.long (own_q p1 q2 q3 q4)), .second, .val (.long (own_gap p1 q2 q3 q4)), .second, .unset, .unset, .unset, .unset, .unset] [(.long (own_b p1 q2)), (.long (own_r p1 q2 q3))])) _
    refine XS.ladd X1.here hx rfl (hb hby at_87) rfl ?_
    show Steps p.tables e below (T1.setTop (mkF m 88 #[.val (.int p1), .val (.long q2), .second, .val (.long q3), .second, .val (.long q4), .second, .val (.int (own_k p1)), .val (.long (((1 : Int64) <<< ((own_k p1) &&& 0x3f).toInt64) - (1 : Int64))), .second, .val (.long (own_b p1 q2)), .second, .val (.long (own_r p1 q2 q3)), .second, .val (.long (own_bound p1 q2 q3)), .second, .val (.long (own_q p1 q2 q3 q4)), .second, .val (.long (own_gap p1 q2 q3 q4)), .second, .unset, .unset, .unset, .unset, .unset] [(.long ((own_r p1 q2 q3) + (own_b p1 q2)))])) _
    refine X1.ldc2Long hx hown (mvT hZ (hw _ (List.mem_of_getElem? (i := 6) rfl))) (g := (mkF m 88 #[.val (.int p1), .val (.long q2), .second, .val (.long q3), .second, .val (.long q4), .second, .val (.int (own_k p1)), .val (.long (((1 : Int64) <<< ((own_k p1) &&& 0x3f).toInt64) - (1 : Int64))), .second, .val (.long (own_b p1 q2)), .second, .val (.long (own_r p1 q2 q3)), .second, .val (.long (own_bound p1 q2 q3)), .second, .val (.long (own_q p1 q2 q3 q4)), .second, .val (.long (own_gap p1 q2 q3 q4)), .second, .unset, .unset, .unset, .unset, .unset] [(.long ((own_r p1 q2 q3) + (own_b p1 q2)))])) rfl (hb hby at_88) _ ?_
    show Steps p.tables e below (T1.setTop (mkF m 91 #[.val (.int p1), .val (.long q2), .second, .val (.long q3), .second, .val (.long q4), .second, .val (.int (own_k p1)), .val (.long (((1 : Int64) <<< ((own_k p1) &&& 0x3f).toInt64) - (1 : Int64))), .second, .val (.long (own_b p1 q2)), .second, .val (.long (own_r p1 q2 q3)), .second, .val (.long (own_bound p1 q2 q3)), .second, .val (.long (own_q p1 q2 q3 q4)), .second, .val (.long (own_gap p1 q2 q3 q4)), .second, .unset, .unset, .unset, .unset, .unset] [(.long (2 : Int64)), (.long ((own_r p1 q2 q3) + (own_b p1 q2)))])) _
    refine XS.iload X1.here hx rfl (hb hby at_91) rfl ?_
    show Steps p.tables e below (T1.setTop (mkF m 93 #[.val (.int p1), .val (.long q2), .second, .val (.long q3), .second, .val (.long q4), .second, .val (.int (own_k p1)), .val (.long (((1 : Int64) <<< ((own_k p1) &&& 0x3f).toInt64) - (1 : Int64))), .second, .val (.long (own_b p1 q2)), .second, .val (.long (own_r p1 q2 q3)), .second, .val (.long (own_bound p1 q2 q3)), .second, .val (.long (own_q p1 q2 q3 q4)), .second, .val (.long (own_gap p1 q2 q3 q4)), .second, .unset, .unset, .unset, .unset, .unset] [(.int (own_k p1)), (.long (2 : Int64)), (.long ((own_r p1 q2 q3) + (own_b p1 q2)))])) _
    refine XS.lshl X1.here hx rfl (hb hby at_93) rfl ?_
    show Steps p.tables e below (T1.setTop (mkF m 94 #[.val (.int p1), .val (.long q2), .second, .val (.long q3), .second, .val (.long q4), .second, .val (.int (own_k p1)), .val (.long (((1 : Int64) <<< ((own_k p1) &&& 0x3f).toInt64) - (1 : Int64))), .second, .val (.long (own_b p1 q2)), .second, .val (.long (own_r p1 q2 q3)), .second, .val (.long (own_bound p1 q2 q3)), .second, .val (.long (own_q p1 q2 q3 q4)), .second, .val (.long (own_gap p1 q2 q3 q4)), .second, .unset, .unset, .unset, .unset, .unset] [(.long ((2 : Int64) <<< ((own_k p1) &&& 0x3f).toInt64)), (.long ((own_r p1 q2 q3) + (own_b p1 q2)))])) _
    refine XS.lcmp X1.here hx rfl (hb hby at_94) rfl ?_
    show Steps p.tables e below (T1.setTop (mkF m 95 #[.val (.int p1), .val (.long q2), .second, .val (.long q3), .second, .val (.long q4), .second, .val (.int (own_k p1)), .val (.long (((1 : Int64) <<< ((own_k p1) &&& 0x3f).toInt64) - (1 : Int64))), .second, .val (.long (own_b p1 q2)), .second, .val (.long (own_r p1 q2 q3)), .second, .val (.long (own_bound p1 q2 q3)), .second, .val (.long (own_q p1 q2 q3 q4)), .second, .val (.long (own_gap p1 q2 q3 q4)), .second, .unset, .unset, .unset, .unset, .unset] [(.int (lcmpW ((own_r p1 q2 q3) + (own_b p1 q2)) ((2 : Int64) <<< ((own_k p1) &&& 0x3f).toInt64)))])) _
    refine XS.ifYes X1.here hx rfl (pc0 := 95) (pc' := 102) rfl (hb hby at_95) rfl ((if0 _ _).trans (tlt ((lw_lt _ _).mpr (hc1 : ((own_r p1 q2 q3) + (own_b p1 q2)) < ((2 : Int64) <<< ((own_k p1) &&& 0x3f).toInt64)))).1) (by decide) (by decide) ?_
    show Steps p.tables e below (T1.setTop (mkF m 102 #[.val (.int p1), .val (.long q2), .second, .val (.long q3), .second, .val (.long q4), .second, .val (.int (own_k p1)), .val (.long (((1 : Int64) <<< ((own_k p1) &&& 0x3f).toInt64) - (1 : Int64))), .second, .val (.long (own_b p1 q2)), .second, .val (.long (own_r p1 q2 q3)), .second, .val (.long (own_bound p1 q2 q3)), .second, .val (.long (own_q p1 q2 q3 q4)), .second, .val (.long (own_gap p1 q2 q3 q4)), .second, .unset, .unset, .unset, .unset, .unset] [])) _
    refine XS.lconst X1.here hx rfl (hb hby at_102) ?_
    show Steps p.tables e below (T1.setTop (mkF m 103 #[.val (.int p1), .val (.long q2), .second, .val (.long q3), .second, .val (.long q4), .second, .val (.int (own_k p1)), .val (.long (((1 : Int64) <<< ((own_k p1) &&& 0x3f).toInt64) - (1 : Int64))), .second, .val (.long (own_b p1 q2)), .second, .val (.long (own_r p1 q2 q3)), .second, .val (.long (own_bound p1 q2 q3)), .second, .val (.long (own_q p1 q2 q3 q4)), .second, .val (.long (own_gap p1 q2 q3 q4)), .second, .unset, .unset, .unset, .unset, .unset] [(.long (0 : Int64))])) _
    refine XS.lstore X1.here hx rfl (hb hby at_103) rfl (l' := #[.val (.int p1), .val (.long q2), .second, .val (.long q3), .second, .val (.long q4), .second, .val (.int (own_k p1)), .val (.long (((1 : Int64) <<< ((own_k p1) &&& 0x3f).toInt64) - (1 : Int64))), .second, .val (.long (own_b p1 q2)), .second, .val (.long (own_r p1 q2 q3)), .second, .val (.long (own_bound p1 q2 q3)), .second, .val (.long (own_q p1 q2 q3 q4)), .second, .val (.long (own_gap p1 q2 q3 q4)), .second, .val (.long (0 : Int64)), .second, .unset, .unset, .unset]) rfl ?_
    show Steps p.tables e below (T1.setTop (mkF m 105 #[.val (.int p1), .val (.long q2), .second, .val (.long q3), .second, .val (.long q4), .second, .val (.int (own_k p1)), .val (.long (((1 : Int64) <<< ((own_k p1) &&& 0x3f).toInt64) - (1 : Int64))), .second, .val (.long (own_b p1 q2)), .second, .val (.long (own_r p1 q2 q3)), .second, .val (.long (own_bound p1 q2 q3)), .second, .val (.long (own_q p1 q2 q3 q4)), .second, .val (.long (own_gap p1 q2 q3 q4)), .second, .val (.long (0 : Int64)), .second, .unset, .unset, .unset] [])) _
    refine XS.lload X1.here hx rfl (hb hby at_105) rfl ?_
    show Steps p.tables e below (T1.setTop (mkF m 107 #[.val (.int p1), .val (.long q2), .second, .val (.long q3), .second, .val (.long q4), .second, .val (.int (own_k p1)), .val (.long (((1 : Int64) <<< ((own_k p1) &&& 0x3f).toInt64) - (1 : Int64))), .second, .val (.long (own_b p1 q2)), .second, .val (.long (own_r p1 q2 q3)), .second, .val (.long (own_bound p1 q2 q3)), .second, .val (.long (own_q p1 q2 q3 q4)), .second, .val (.long (own_gap p1 q2 q3 q4)), .second, .val (.long (0 : Int64)), .second, .unset, .unset, .unset] [(.long (own_q p1 q2 q3 q4))])) _
    refine XS.lconst X1.here hx rfl (hb hby at_107) ?_
    show Steps p.tables e below (T1.setTop (mkF m 108 #[.val (.int p1), .val (.long q2), .second, .val (.long q3), .second, .val (.long q4), .second, .val (.int (own_k p1)), .val (.long (((1 : Int64) <<< ((own_k p1) &&& 0x3f).toInt64) - (1 : Int64))), .second, .val (.long (own_b p1 q2)), .second, .val (.long (own_r p1 q2 q3)), .second, .val (.long (own_bound p1 q2 q3)), .second, .val (.long (own_q p1 q2 q3 q4)), .second, .val (.long (own_gap p1 q2 q3 q4)), .second, .val (.long (0 : Int64)), .second, .unset, .unset, .unset] [(.long (1 : Int64)), (.long (own_q p1 q2 q3 q4))])) _
    refine XS.ladd X1.here hx rfl (hb hby at_108) rfl ?_
    show Steps p.tables e below (T1.setTop (mkF m 109 #[.val (.int p1), .val (.long q2), .second, .val (.long q3), .second, .val (.long q4), .second, .val (.int (own_k p1)), .val (.long (((1 : Int64) <<< ((own_k p1) &&& 0x3f).toInt64) - (1 : Int64))), .second, .val (.long (own_b p1 q2)), .second, .val (.long (own_r p1 q2 q3)), .second, .val (.long (own_bound p1 q2 q3)), .second, .val (.long (own_q p1 q2 q3 q4)), .second, .val (.long (own_gap p1 q2 q3 q4)), .second, .val (.long (0 : Int64)), .second, .unset, .unset, .unset] [(.long ((own_q p1 q2 q3 q4) + (1 : Int64)))])) _
    refine XS.iload X1.here hx rfl (hb hby at_109) rfl ?_
    show Steps p.tables e below (T1.setTop (mkF m 111 #[.val (.int p1), .val (.long q2), .second, .val (.long q3), .second, .val (.long q4), .second, .val (.int (own_k p1)), .val (.long (((1 : Int64) <<< ((own_k p1) &&& 0x3f).toInt64) - (1 : Int64))), .second, .val (.long (own_b p1 q2)), .second, .val (.long (own_r p1 q2 q3)), .second, .val (.long (own_bound p1 q2 q3)), .second, .val (.long (own_q p1 q2 q3 q4)), .second, .val (.long (own_gap p1 q2 q3 q4)), .second, .val (.long (0 : Int64)), .second, .unset, .unset, .unset] [(.int (own_k p1)), (.long ((own_q p1 q2 q3 q4) + (1 : Int64)))])) _
    refine XS.i2l X1.here hx rfl (hb hby at_111) rfl ?_
    show Steps p.tables e below (T1.setTop (mkF m 112 #[.val (.int p1), .val (.long q2), .second, .val (.long q3), .second, .val (.long q4), .second, .val (.int (own_k p1)), .val (.long (((1 : Int64) <<< ((own_k p1) &&& 0x3f).toInt64) - (1 : Int64))), .second, .val (.long (own_b p1 q2)), .second, .val (.long (own_r p1 q2 q3)), .second, .val (.long (own_bound p1 q2 q3)), .second, .val (.long (own_q p1 q2 q3 q4)), .second, .val (.long (own_gap p1 q2 q3 q4)), .second, .val (.long (0 : Int64)), .second, .unset, .unset, .unset] [(.long ((own_k p1).toInt64)), (.long ((own_q p1 q2 q3 q4) + (1 : Int64)))])) _
    refine XS.ladd X1.here hx rfl (hb hby at_112) rfl ?_
    show Steps p.tables e below (T1.setTop (mkF m 113 #[.val (.int p1), .val (.long q2), .second, .val (.long q3), .second, .val (.long q4), .second, .val (.int (own_k p1)), .val (.long (((1 : Int64) <<< ((own_k p1) &&& 0x3f).toInt64) - (1 : Int64))), .second, .val (.long (own_b p1 q2)), .second, .val (.long (own_r p1 q2 q3)), .second, .val (.long (own_bound p1 q2 q3)), .second, .val (.long (own_q p1 q2 q3 q4)), .second, .val (.long (own_gap p1 q2 q3 q4)), .second, .val (.long (0 : Int64)), .second, .unset, .unset, .unset] [(.long (((own_q p1 q2 q3 q4) + (1 : Int64)) + ((own_k p1).toInt64)))])) _
    refine XS.lload X1.here hx rfl (hb hby at_113) rfl ?_
    show Steps p.tables e below (T1.setTop (mkF m 115 #[.val (.int p1), .val (.long q2), .second, .val (.long q3), .second, .val (.long q4), .second, .val (.int (own_k p1)), .val (.long (((1 : Int64) <<< ((own_k p1) &&& 0x3f).toInt64) - (1 : Int64))), .second, .val (.long (own_b p1 q2)), .second, .val (.long (own_r p1 q2 q3)), .second, .val (.long (own_bound p1 q2 q3)), .second, .val (.long (own_q p1 q2 q3 q4)), .second, .val (.long (own_gap p1 q2 q3 q4)), .second, .val (.long (0 : Int64)), .second, .unset, .unset, .unset] [(.long (0 : Int64)), (.long (((own_q p1 q2 q3 q4) + (1 : Int64)) + ((own_k p1).toInt64)))])) _
    refine XS.ladd X1.here hx rfl (hb hby at_115) rfl ?_
    show Steps p.tables e below (T1.setTop (mkF m 116 #[.val (.int p1), .val (.long q2), .second, .val (.long q3), .second, .val (.long q4), .second, .val (.int (own_k p1)), .val (.long (((1 : Int64) <<< ((own_k p1) &&& 0x3f).toInt64) - (1 : Int64))), .second, .val (.long (own_b p1 q2)), .second, .val (.long (own_r p1 q2 q3)), .second, .val (.long (own_bound p1 q2 q3)), .second, .val (.long (own_q p1 q2 q3 q4)), .second, .val (.long (own_gap p1 q2 q3 q4)), .second, .val (.long (0 : Int64)), .second, .unset, .unset, .unset] [(.long ((((own_q p1 q2 q3 q4) + (1 : Int64)) + ((own_k p1).toInt64)) + (0 : Int64)))])) _
    refine XS.lstore X1.here hx rfl (hb hby at_116) rfl (l' := #[.val (.int p1), .val (.long q2), .second, .val (.long q3), .second, .val (.long q4), .second, .val (.int (own_k p1)), .val (.long (((1 : Int64) <<< ((own_k p1) &&& 0x3f).toInt64) - (1 : Int64))), .second, .val (.long (own_b p1 q2)), .second, .val (.long (own_r p1 q2 q3)), .second, .val (.long (own_bound p1 q2 q3)), .second, .val (.long (own_q p1 q2 q3 q4)), .second, .val (.long (own_gap p1 q2 q3 q4)), .second, .val (.long (0 : Int64)), .second, .val (.long (own_exp p1 q2 q3 q4)), .second, .unset]) rfl ?_
    show Steps p.tables e below (T1.setTop (mkF m 118 #[.val (.int p1), .val (.long q2), .second, .val (.long q3), .second, .val (.long q4), .second, .val (.int (own_k p1)), .val (.long (((1 : Int64) <<< ((own_k p1) &&& 0x3f).toInt64) - (1 : Int64))), .second, .val (.long (own_b p1 q2)), .second, .val (.long (own_r p1 q2 q3)), .second, .val (.long (own_bound p1 q2 q3)), .second, .val (.long (own_q p1 q2 q3 q4)), .second, .val (.long (own_gap p1 q2 q3 q4)), .second, .val (.long (0 : Int64)), .second, .val (.long (own_exp p1 q2 q3 q4)), .second, .unset] [])) _
    refine st3 _ ?_
    show Steps p.tables e below (T3.setTop (mkF m 121 #[.val (.int p1), .val (.long q2), .second, .val (.long q3), .second, .val (.long q4), .second, .val (.int (own_k p1)), .val (.long (((1 : Int64) <<< ((own_k p1) &&& 0x3f).toInt64) - (1 : Int64))), .second, .val (.long (own_b p1 q2)), .second, .val (.long (own_r p1 q2 q3)), .second, .val (.long (own_bound p1 q2 q3)), .second, .val (.long (own_q p1 q2 q3 q4)), .second, .val (.long (own_gap p1 q2 q3 q4)), .second, .val (.long (0 : Int64)), .second, .val (.long (own_exp p1 q2 q3 q4)), .second, .unset] [(.ref b3)])) _
    refine XS.dup X3.here hx rfl (hb hby at_121) rfl rfl ?_
    show Steps p.tables e below (T3.setTop (mkF m 122 #[.val (.int p1), .val (.long q2), .second, .val (.long q3), .second, .val (.long q4), .second, .val (.int (own_k p1)), .val (.long (((1 : Int64) <<< ((own_k p1) &&& 0x3f).toInt64) - (1 : Int64))), .second, .val (.long (own_b p1 q2)), .second, .val (.long (own_r p1 q2 q3)), .second, .val (.long (own_bound p1 q2 q3)), .second, .val (.long (own_q p1 q2 q3 q4)), .second, .val (.long (own_gap p1 q2 q3 q4)), .second, .val (.long (0 : Int64)), .second, .val (.long (own_exp p1 q2 q3 q4)), .second, .unset] [(.ref b3), (.ref b3)])) _
    refine XS.lload X3.here hx rfl (hb hby at_122) rfl ?_
    show Steps p.tables e below (T3.setTop (mkF m 124 #[.val (.int p1), .val (.long q2), .second, .val (.long q3), .second, .val (.long q4), .second, .val (.int (own_k p1)), .val (.long (((1 : Int64) <<< ((own_k p1) &&& 0x3f).toInt64) - (1 : Int64))), .second, .val (.long (own_b p1 q2)), .second, .val (.long (own_r p1 q2 q3)), .second, .val (.long (own_bound p1 q2 q3)), .second, .val (.long (own_q p1 q2 q3 q4)), .second, .val (.long (own_gap p1 q2 q3 q4)), .second, .val (.long (0 : Int64)), .second, .val (.long (own_exp p1 q2 q3 q4)), .second, .unset] [(.long (own_b p1 q2)), (.ref b3), (.ref b3)])) _
    refine st8.trans ?_
    show Steps p.tables e below (T8.setTop (mkF m 127 #[.val (.int p1), .val (.long q2), .second, .val (.long q3), .second, .val (.long q4), .second, .val (.int (own_k p1)), .val (.long (((1 : Int64) <<< ((own_k p1) &&& 0x3f).toInt64) - (1 : Int64))), .second, .val (.long (own_b p1 q2)), .second, .val (.long (own_r p1 q2 q3)), .second, .val (.long (own_bound p1 q2 q3)), .second, .val (.long (own_q p1 q2 q3 q4)), .second, .val (.long (own_gap p1 q2 q3 q4)), .second, .val (.long (0 : Int64)), .second, .val (.long (own_exp p1 q2 q3 q4)), .second, .unset] [(.ref b3)])) _
    refine XS.astore X8.here hx rfl (hb hby at_127) rfl rfl (l' := #[.val (.int p1), .val (.long q2), .second, .val (.long q3), .second, .val (.long q4), .second, .val (.int (own_k p1)), .val (.long (((1 : Int64) <<< ((own_k p1) &&& 0x3f).toInt64) - (1 : Int64))), .second, .val (.long (own_b p1 q2)), .second, .val (.long (own_r p1 q2 q3)), .second, .val (.long (own_bound p1 q2 q3)), .second, .val (.long (own_q p1 q2 q3 q4)), .second, .val (.long (own_gap p1 q2 q3 q4)), .second, .val (.long (0 : Int64)), .second, .val (.long (own_exp p1 q2 q3 q4)), .second, .val (.ref b3)]) rfl ?_
    show Steps p.tables e below (T8.setTop (mkF m 129 #[.val (.int p1), .val (.long q2), .second, .val (.long q3), .second, .val (.long q4), .second, .val (.int (own_k p1)), .val (.long (((1 : Int64) <<< ((own_k p1) &&& 0x3f).toInt64) - (1 : Int64))), .second, .val (.long (own_b p1 q2)), .second, .val (.long (own_r p1 q2 q3)), .second, .val (.long (own_bound p1 q2 q3)), .second, .val (.long (own_q p1 q2 q3 q4)), .second, .val (.long (own_gap p1 q2 q3 q4)), .second, .val (.long (0 : Int64)), .second, .val (.long (own_exp p1 q2 q3 q4)), .second, .val (.ref b3)] [])) _
    refine XS.aload X8.here hx rfl (hb hby at_129) rfl rfl ?_
    show Steps p.tables e below (T8.setTop (mkF m 131 #[.val (.int p1), .val (.long q2), .second, .val (.long q3), .second, .val (.long q4), .second, .val (.int (own_k p1)), .val (.long (((1 : Int64) <<< ((own_k p1) &&& 0x3f).toInt64) - (1 : Int64))), .second, .val (.long (own_b p1 q2)), .second, .val (.long (own_r p1 q2 q3)), .second, .val (.long (own_bound p1 q2 q3)), .second, .val (.long (own_q p1 q2 q3 q4)), .second, .val (.long (own_gap p1 q2 q3 q4)), .second, .val (.long (0 : Int64)), .second, .val (.long (own_exp p1 q2 q3 q4)), .second, .val (.ref b3)] [(.ref b3)])) _
    refine XS.lload X8.here hx rfl (hb hby at_131) rfl ?_
    show Steps p.tables e below (T8.setTop (mkF m 133 #[.val (.int p1), .val (.long q2), .second, .val (.long q3), .second, .val (.long q4), .second, .val (.int (own_k p1)), .val (.long (((1 : Int64) <<< ((own_k p1) &&& 0x3f).toInt64) - (1 : Int64))), .second, .val (.long (own_b p1 q2)), .second, .val (.long (own_r p1 q2 q3)), .second, .val (.long (own_bound p1 q2 q3)), .second, .val (.long (own_q p1 q2 q3 q4)), .second, .val (.long (own_gap p1 q2 q3 q4)), .second, .val (.long (0 : Int64)), .second, .val (.long (own_exp p1 q2 q3 q4)), .second, .val (.ref b3)] [(.long (own_gap p1 q2 q3 q4)), (.ref b3)])) _
    refine st14.trans ?_
    show Steps p.tables e below (T14.setTop (mkF m 136 #[.val (.int p1), .val (.long q2), .second, .val (.long q3), .second, .val (.long q4), .second, .val (.int (own_k p1)), .val (.long (((1 : Int64) <<< ((own_k p1) &&& 0x3f).toInt64) - (1 : Int64))), .second, .val (.long (own_b p1 q2)), .second, .val (.long (own_r p1 q2 q3)), .second, .val (.long (own_bound p1 q2 q3)), .second, .val (.long (own_q p1 q2 q3 q4)), .second, .val (.long (own_gap p1 q2 q3 q4)), .second, .val (.long (0 : Int64)), .second, .val (.long (own_exp p1 q2 q3 q4)), .second, .val (.ref b3)] [(.long (f_length (own_gap p1 q2 q3 q4) (own_b p1 q2) ((63 : Int32) - (f_lnlz (own_b p1 q2))) (((2 : Int64) <<< (((63 : Int32) - (f_lnlz (own_b p1 q2))) &&& 0x3f).toInt64) - (own_b p1 q2))))])) _
    refine XS.lload X14.here hx rfl (hb hby at_136) rfl ?_
    show Steps p.tables e below (T14.setTop (mkF m 138 #[.val (.int p1), .val (.long q2), .second, .val (.long q3), .second, .val (.long q4), .second, .val (.int (own_k p1)), .val (.long (((1 : Int64) <<< ((own_k p1) &&& 0x3f).toInt64) - (1 : Int64))), .second, .val (.long (own_b p1 q2)), .second, .val (.long (own_r p1 q2 q3)), .second, .val (.long (own_bound p1 q2 q3)), .second, .val (.long (own_q p1 q2 q3 q4)), .second, .val (.long (own_gap p1 q2 q3 q4)), .second, .val (.long (0 : Int64)), .second, .val (.long (own_exp p1 q2 q3 q4)), .second, .val (.ref b3)] [(.long (own_exp p1 q2 q3 q4)), (.long (f_length (own_gap p1 q2 q3 q4) (own_b p1 q2) ((63 : Int32) - (f_lnlz (own_b p1 q2))) (((2 : Int64) <<< (((63 : Int32) - (f_lnlz (own_b p1 q2))) &&& 0x3f).toInt64) - (own_b p1 q2))))])) _
    refine XS.lcmp X14.here hx rfl (hb hby at_138) rfl ?_
    show Steps p.tables e below (T14.setTop (mkF m 139 #[.val (.int p1), .val (.long q2), .second, .val (.long q3), .second, .val (.long q4), .second, .val (.int (own_k p1)), .val (.long (((1 : Int64) <<< ((own_k p1) &&& 0x3f).toInt64) - (1 : Int64))), .second, .val (.long (own_b p1 q2)), .second, .val (.long (own_r p1 q2 q3)), .second, .val (.long (own_bound p1 q2 q3)), .second, .val (.long (own_q p1 q2 q3 q4)), .second, .val (.long (own_gap p1 q2 q3 q4)), .second, .val (.long (0 : Int64)), .second, .val (.long (own_exp p1 q2 q3 q4)), .second, .val (.ref b3)] [(.int (lcmpW (f_length (own_gap p1 q2 q3 q4) (own_b p1 q2) ((63 : Int32) - (f_lnlz (own_b p1 q2))) (((2 : Int64) <<< (((63 : Int32) - (f_lnlz (own_b p1 q2))) &&& 0x3f).toInt64) - (own_b p1 q2))) (own_exp p1 q2 q3 q4)))])) _
    refine XS.ifNo X14.here hx rfl (hb hby at_139) rfl ((if0 _ _).trans (teq ((lw_eq _ _).mpr (hc2 : (f_length (own_gap p1 q2 q3 q4) (own_b p1 q2) ((63 : Int32) - (f_lnlz (own_b p1 q2))) (((2 : Int64) <<< (((63 : Int32) - (f_lnlz (own_b p1 q2))) &&& 0x3f).toInt64) - (own_b p1 q2))) = (own_exp p1 q2 q3 q4)))).2) ?_
    show Steps p.tables e below (T14.setTop (mkF m 142 #[.val (.int p1), .val (.long q2), .second, .val (.long q3), .second, .val (.long q4), .second, .val (.int (own_k p1)), .val (.long (((1 : Int64) <<< ((own_k p1) &&& 0x3f).toInt64) - (1 : Int64))), .second, .val (.long (own_b p1 q2)), .second, .val (.long (own_r p1 q2 q3)), .second, .val (.long (own_bound p1 q2 q3)), .second, .val (.long (own_q p1 q2 q3 q4)), .second, .val (.long (own_gap p1 q2 q3 q4)), .second, .val (.long (0 : Int64)), .second, .val (.long (own_exp p1 q2 q3 q4)), .second, .val (.ref b3)] [])) _
    refine XS.iconst X14.here hx rfl (hb hby at_142) ?_
    show Steps p.tables e below (T14.setTop (mkF m 143 #[.val (.int p1), .val (.long q2), .second, .val (.long q3), .second, .val (.long q4), .second, .val (.int (own_k p1)), .val (.long (((1 : Int64) <<< ((own_k p1) &&& 0x3f).toInt64) - (1 : Int64))), .second, .val (.long (own_b p1 q2)), .second, .val (.long (own_r p1 q2 q3)), .second, .val (.long (own_bound p1 q2 q3)), .second, .val (.long (own_q p1 q2 q3 q4)), .second, .val (.long (own_gap p1 q2 q3 q4)), .second, .val (.long (0 : Int64)), .second, .val (.long (own_exp p1 q2 q3 q4)), .second, .val (.ref b3)] [(.int (1 : Int32))])) _
    refine XS.goto X14.here hx rfl (pc0 := 143) (pc' := 147) rfl (hb hby at_143) (by decide) (by decide) ?_
    show Steps p.tables e below (T14.setTop (mkF m 147 #[.val (.int p1), .val (.long q2), .second, .val (.long q3), .second, .val (.long q4), .second, .val (.int (own_k p1)), .val (.long (((1 : Int64) <<< ((own_k p1) &&& 0x3f).toInt64) - (1 : Int64))), .second, .val (.long (own_b p1 q2)), .second, .val (.long (own_r p1 q2 q3)), .second, .val (.long (own_bound p1 q2 q3)), .second, .val (.long (own_q p1 q2 q3 q4)), .second, .val (.long (own_gap p1 q2 q3 q4)), .second, .val (.long (0 : Int64)), .second, .val (.long (own_exp p1 q2 q3 q4)), .second, .val (.ref b3)] [(.int (1 : Int32))])) _
    exact retN X14 hx (t := .boolean) Bd.returns (by simp) (hb hby at_147) hr
  · show Q_law Z p1 q2 q3 q4 h0 n0 _ T14.heap _
    rw [e14]
    exact ⟨rfl, N15⟩
def Road_tff (p1 : Int32) (q2 : Int64) (q3 : Int64) (q4 : Int64) : Prop := (¬ ((own_b p1 q2) = (0 : Int64))) ∧ (¬ ((own_k p1) = (61 : Int32))) ∧ (¬ (((own_r p1 q2 q3) + (own_b p1 q2)) < ((2 : Int64) <<< ((own_k p1) &&& 0x3f).toInt64))) ∧ ((f_length (own_gap p1 q2 q3 q4) (own_b p1 q2) ((63 : Int32) - (f_lnlz (own_b p1 q2))) (((2 : Int64) <<< (((63 : Int32) - (f_lnlz (own_b p1 q2))) &&& 0x3f).toInt64) - (own_b p1 q2))) = (own_exp_tff p1 q2 q3 q4))
set_option maxRecDepth 65536 in
set_option maxHeartbeats 40000000 in
theorem rm_law_tff (l : Launch) (Z : State) (a0 : Array Value) (hw : ∀ d ∈ tables_1, d.before a0 Z = true) (ws : List Jvm.Cond) (p1 : Int32) (q2 : Int64) (q3 : Int64) (q4 : Int64) (h0 : Heap) (n0 : Nat) (Z0 : n0 ≤ h0.size) (hroad : Road_tff p1 q2 q3 q4) :
    MetFree l x (head1 (Jvm.Cond.code x code maxLocals ret :: ws) room_1) (fun a U => a = #[(.int p1), (.long q2), (.long q3), (.long q4)] ∧ Z.Warmed39 U.vm ∧ U.heap = h0) (fun _ _ _ _ _ => True) (fun _ U o U' => ∃ v L, o = .returned v ∧ Q_law Z p1 q2 q3 q4 h0 n0 v U'.heap L ∧ FrameEnd U o U' L room_1.cells room_1.slots) := by
  obtain ⟨hnz0, hc0, hc1, hc2⟩ := hroad
  refine MetFree.of_bodySF (plainFor_of_name pn_com_example_libmaybe_libmaybe_GolombCodeLengthPinLaw) hisR ?_
  intro p e s m args below meth c s₁ Bd hml0 hP hK
  obtain ⟨rfl, hZ, hh⟩ := hP
  have hx := Bd.exec
  have hby := Bd.bytes
  have hml : c.maxLocals = 25 := hml0
  have hown : s.vm.findClass "com/example/libmaybe/libmaybe/GolombCodeLengthPinLaw" = some m.cls := findClass_of_methodNamed Bd.named
  have hnm := (name_of_methodNamed Bd.named Bd.method).1
  have X0 : Stand p l e room_1 s m #[(.int p1), (.long q2), (.long q3), (.long q4)] below meth c s₁ [] 0 0 := Stand.of_body Bd
  have e0 : s₁.heap = h0 := by rw [← hh, Bd.state]; rfl
  have N0 := Fr.nil n0
  have pre0 : ∀ t, Steps p.tables e below (s₁.setTop (mkF m 0 #[.val (.int p1), .val (.long q2), .second, .val (.long q3), .second, .val (.long q4), .second, .unset, .unset, .unset, .unset, .unset, .unset, .unset, .unset, .unset, .unset, .unset, .unset, .unset, .unset, .unset, .unset, .unset, .unset] [])) t → Steps p.tables e below (s₁.setTop (entryFrame m #[(.int p1), (.long q2), (.long q3), (.long q4)] maxLocals)) t := fun t k => castTop (ef_0_IJJJ m p1 q2 q3 q4) k
  obtain ⟨_, _, ⟨T1, L1, k1, n1⟩, -, X1, ⟨Lc1, hQ1, l1, y1, z1⟩, st1⟩ := Jvm.LawKit.callS X0 hx (y := (⟨"java/lang/Math", "min", "(JJ)J"⟩ : MethodName)) hown (mvT hZ (hw _ (List.mem_of_getElem? (i := 2) rfl))) (mvT hZ (hw _ (List.mem_of_getElem? (i := 3) rfl))) (mvT hZ (hw _ (List.mem_of_getElem? (i := 4) rfl))) (mvT hZ (hw _ (List.mem_of_getElem? (i := 5) rfl))) (by decide) (backOf (W := 0) (rm_min l Z a0 hw [] (q4 &&& (9223372036854775807 : Int64)) (own_bound p1 q2 q3) h0 n0 Z0 ) hZ (hw _ (List.mem_of_getElem? (i := 5) rfl)) (hw _ (List.mem_of_getElem? (i := 4) rfl)) (by decide) (by decide)) (g := (mkF m 68 #[.val (.int p1), .val (.long q2), .second, .val (.long q3), .second, .val (.long q4), .second, .val (.int (own_k p1)), .val (.long (((1 : Int64) <<< ((own_k p1) &&& 0x3f).toInt64) - (1 : Int64))), .second, .val (.long (own_b p1 q2)), .second, .val (.long (own_r p1 q2 q3)), .second, .val (.long (own_bound p1 q2 q3)), .second, .unset, .unset, .unset, .unset, .unset, .unset, .unset, .unset, .unset] [(.long (own_bound p1 q2 q3)), (.long (q4 &&& (9223372036854775807 : Int64)))])) rfl (by rw [hml]; rfl) (argsL := [(.long (q4 &&& (9223372036854775807 : Int64))), (.long (own_bound p1 q2 q3))]) (rest := []) (lenOf pd_2 rfl) rfl (by show 2 * 0 + _ ≤ _; exact Nat.le_of_eq rfl) (hb hby at_68) (fun _ _ => ⟨rfl, e0, (by decide : 0 + 0 ≤ _), (by decide : 0 + 0 ≤ _)⟩)
  dsimp only [Pt.U, Pt.locs, Pt.cells, Pt.slots] at X1 l1 y1 z1 st1 hQ1
  subst l1 y1 z1
  obtain ⟨rfl, Nq1, e1⟩ := hQ1
  have N2 := Fr.app N0 Nq1
  obtain ⟨T3, h3, X3, e3, E3, A3, D3, -, st3⟩ := newO X1 hx hZ hown (hw _ (List.mem_of_getElem? (i := 7) rfl)) (hw _ (List.mem_of_getElem? (i := 8) rfl)) (hw _ (List.mem_of_getElem? (i := 9) rfl)) e1 (g := (mkF m 118 #[.val (.int p1), .val (.long q2), .second, .val (.long q3), .second, .val (.long q4), .second, .val (.int (own_k p1)), .val (.long (((1 : Int64) <<< ((own_k p1) &&& 0x3f).toInt64) - (1 : Int64))), .second, .val (.long (own_b p1 q2)), .second, .val (.long (own_r p1 q2 q3)), .second, .val (.long (own_bound p1 q2 q3)), .second, .val (.long (own_q p1 q2 q3 q4)), .second, .val (.long (own_gap p1 q2 q3 q4)), .second, .val (.long (1 : Int64)), .second, .val (.long (own_exp_tff p1 q2 q3 q4)), .second, .unset] [])) rfl (hb hby at_118) (by decide) (by decide)
  obtain ⟨b3, g3⟩ : ∃ z, z = h0.size := ⟨_, rfl⟩
  rw [← g3] at A3 D3 st3
  have g_b3 : n0 ≤ b3 := Nat.le_trans Z0 (Nat.le_of_eq g3.symm)
  have Zs4 : n0 ≤ h3.size := Nat.le_trans Z0 E3.1
  have f5 : Fld Z h3 b3 "com/example/libmaybe/libmaybe/GolombCode" "parameter" "J" (.long (0 : Int64)) := D3 (Or.inr (hw _ (List.mem_of_getElem? (i := 17) rfl))) (ty := .long) (by decide)
  have f6 : Fld Z h3 b3 "com/example/libmaybe/libmaybe/GolombCode" "shortBits" "I" (.int (0 : Int32)) := D3 (Or.inr (hw _ (List.mem_of_getElem? (i := 28) rfl))) (ty := .int) (by decide)
  have f7 : Fld Z h3 b3 "com/example/libmaybe/libmaybe/GolombCode" "shortCount" "J" (.long (0 : Int64)) := D3 (Or.inr (hw _ (List.mem_of_getElem? (i := 31) rfl))) (ty := .long) (by decide)
  obtain ⟨_, _, ⟨T8, L8, k8, n8⟩, -, X8, ⟨Lc8, hQ8, l8, y8, z8⟩, st8⟩ := X3.specialBack hx (y := (⟨"com/example/libmaybe/libmaybe/GolombCode", "<init>", "(J)V"⟩ : MethodName)) rfl hown (mvT hZ (hw _ (List.mem_of_getElem? (i := 10) rfl))) (mvT hZ (hw _ (List.mem_of_getElem? (i := 11) rfl))) (mvT hZ (hw _ (List.mem_of_getElem? (i := 12) rfl))) (by decide) (backOf (W := 1) (rm_init l Z a0 hw [] b3 (own_b p1 q2) h3 n0 Zs4 A3 f5 g_b3 f6 f7) hZ (hw _ (List.mem_of_getElem? (i := 12) rfl)) (hw _ (List.mem_of_getElem? (i := 9) rfl)) (by decide) (by decide)) (g := (mkF m 124 #[.val (.int p1), .val (.long q2), .second, .val (.long q3), .second, .val (.long q4), .second, .val (.int (own_k p1)), .val (.long (((1 : Int64) <<< ((own_k p1) &&& 0x3f).toInt64) - (1 : Int64))), .second, .val (.long (own_b p1 q2)), .second, .val (.long (own_r p1 q2 q3)), .second, .val (.long (own_bound p1 q2 q3)), .second, .val (.long (own_q p1 q2 q3 q4)), .second, .val (.long (own_gap p1 q2 q3 q4)), .second, .val (.long (1 : Int64)), .second, .val (.long (own_exp_tff p1 q2 q3 q4)), .second, .unset] [(.long (own_b p1 q2)), (.ref b3), (.ref b3)])) rfl (by rw [hml]; rfl) (Steps.refl _) (a := b3) (argsL := [(.long (own_b p1 q2))]) (rest := [(.ref b3)]) (lenOf pd_3 rfl) rfl (by show 2 * 0 + _ ≤ _; exact Nat.le_of_eq rfl) (hb hby at_124) (fun _ _ => ⟨rfl, e3, (by decide : 1 + 0 ≤ _), (by decide : 3 + 0 ≤ _)⟩)
  dsimp only [Pt.U, Pt.locs, Pt.cells, Pt.slots] at X8 l8 y8 z8 st8 hQ8
  subst l8 y8 z8
  obtain ⟨rfl, Nq8, Kc8, fq8_0, fq8_1, fq8_2, fq8_3⟩ := hQ8
  have f10 : Fld Z T8.heap b3 "com/example/libmaybe/libmaybe/GolombCode" "parameter" "J" (.long (own_b p1 q2)) := fq8_1
  have f11 : Fld Z T8.heap b3 "com/example/libmaybe/libmaybe/GolombCode" "shortBits" "I" (.int ((63 : Int32) - (f_lnlz (own_b p1 q2)))) := fq8_2
  have f12 : Fld Z T8.heap b3 "com/example/libmaybe/libmaybe/GolombCode" "shortCount" "J" (.long (((2 : Int64) <<< (((63 : Int32) - (f_lnlz (own_b p1 q2))) &&& 0x3f).toInt64) - (own_b p1 q2))) := fq8_3
  have Zs13 : n0 ≤ T8.heap.size := Nat.le_trans Zs4 Kc8.1
  have N9 := Fr.app N2 Nq8
  obtain ⟨cq14, kq14, q14a, q14b, q14c⟩ := isOf hZ rfl fq8_0
  obtain ⟨_, _, ⟨T14, L14, k14, n14⟩, -, X14, ⟨Lc14, hQ14, l14, y14, z14⟩, st14⟩ := X8.virtualBack hx (y := (⟨"com/example/libmaybe/libmaybe/GolombCode", "length", "(J)J"⟩ : MethodName)) (z := (⟨"com/example/libmaybe/libmaybe/GolombCode", "length", "(J)J"⟩ : MethodName)) hown (mvT hZ (hw _ (List.mem_of_getElem? (i := 32) rfl))) (mvT hZ (hw _ (List.mem_of_getElem? (i := 33) rfl))) (notFace_of_selects (args := #[]) (mvT hZ (hw _ (List.mem_of_getElem? (i := 35) rfl)))) (mvT hZ (hw _ (List.mem_of_getElem? (i := 35) rfl))) (mvT hZ (hw _ (List.mem_of_getElem? (i := 34) rfl))) (by decide) (backOf (W := 0) (rm_length l Z a0 hw [] b3 (own_gap p1 q2 q3 q4) (own_b p1 q2) ((63 : Int32) - (f_lnlz (own_b p1 q2))) (((2 : Int64) <<< (((63 : Int32) - (f_lnlz (own_b p1 q2))) &&& 0x3f).toInt64) - (own_b p1 q2)) T8.heap n0 Zs13 f10 f11 f12 hnz0) hZ (hw _ (List.mem_of_getElem? (i := 36) rfl)) (hw _ (List.mem_of_getElem? (i := 9) rfl)) (by decide) (by decide)) q14a q14c (g := (mkF m 133 #[.val (.int p1), .val (.long q2), .second, .val (.long q3), .second, .val (.long q4), .second, .val (.int (own_k p1)), .val (.long (((1 : Int64) <<< ((own_k p1) &&& 0x3f).toInt64) - (1 : Int64))), .second, .val (.long (own_b p1 q2)), .second, .val (.long (own_r p1 q2 q3)), .second, .val (.long (own_bound p1 q2 q3)), .second, .val (.long (own_q p1 q2 q3 q4)), .second, .val (.long (own_gap p1 q2 q3 q4)), .second, .val (.long (1 : Int64)), .second, .val (.long (own_exp_tff p1 q2 q3 q4)), .second, .val (.ref b3)] [(.long (own_gap p1 q2 q3 q4)), (.ref b3)])) rfl (by rw [hml]; rfl) (Steps.refl _) (argsL := [(.long (own_gap p1 q2 q3 q4))]) (rest := []) (lenOf pd_4 rfl) rfl (by show 2 * 0 + _ ≤ _; exact Nat.le_of_eq rfl) (hb hby at_133) (fun _ _ => ⟨rfl, rfl, (by decide : 1 + 0 ≤ _), (by decide : 3 + 0 ≤ _)⟩)
  dsimp only [Pt.U, Pt.locs, Pt.cells, Pt.slots] at X14 l14 y14 z14 st14 hQ14
  subst l14 y14 z14
  obtain ⟨rfl, Nq14, e14⟩ := hQ14
  have N15 := Fr.app N9 Nq14
  obtain ⟨fs, hr, hrun, hended, hW, hsame⟩ := X14.leave (v := some (.int (1 : Int32))) (fun h => by rw [Bd.returns] at h; cases h) Bd.notSynchronized
  refine ⟨_, _, pre0 _ ?_, hrun, hended, _, _, rfl, ?_, ⟨_, rfl⟩, hW, hsame.mono (by decide) (by decide)⟩
  · show Steps p.tables e below (s₁.setTop (mkF m 0 #[.val (.int p1), .val (.long q2), .second, .val (.long q3), .second, .val (.long q4), .second, .unset, .unset, .unset, .unset, .unset, .unset, .unset, .unset, .unset, .unset, .unset, .unset, .unset, .unset, .unset, .unset, .unset, .unset] [])) _
    refine XS.iloadN X0.here hx rfl (hb hby at_0) rfl ?_
    show Steps p.tables e below (s₁.setTop (mkF m 1 #[.val (.int p1), .val (.long q2), .second, .val (.long q3), .second, .val (.long q4), .second, .unset, .unset, .unset, .unset, .unset, .unset, .unset, .unset, .unset, .unset, .unset, .unset, .unset, .unset, .unset, .unset, .unset, .unset] [(.int p1)])) _
    refine X0.ldcInt hx hown (mvT hZ (hw _ (List.mem_of_getElem? (i := 0) rfl))) (g := (mkF m 1 #[.val (.int p1), .val (.long q2), .second, .val (.long q3), .second, .val (.long q4), .second, .unset, .unset, .unset, .unset, .unset, .unset, .unset, .unset, .unset, .unset, .unset, .unset, .unset, .unset, .unset, .unset, .unset, .unset] [(.int p1)])) rfl (hb hby at_1) _ ?_
    show Steps p.tables e below (s₁.setTop (mkF m 3 #[.val (.int p1), .val (.long q2), .second, .val (.long q3), .second, .val (.long q4), .second, .unset, .unset, .unset, .unset, .unset, .unset, .unset, .unset, .unset, .unset, .unset, .unset, .unset, .unset, .unset, .unset, .unset, .unset] [(.int (2147483647 : Int32)), (.int p1)])) _
    refine XS.iand X0.here hx rfl (hb hby at_3) rfl ?_
    show Steps p.tables e below (s₁.setTop (mkF m 4 #[.val (.int p1), .val (.long q2), .second, .val (.long q3), .second, .val (.long q4), .second, .unset, .unset, .unset, .unset, .unset, .unset, .unset, .unset, .unset, .unset, .unset, .unset, .unset, .unset, .unset, .unset, .unset, .unset] [(.int (p1 &&& (2147483647 : Int32)))])) _
    refine XS.bipush X0.here hx rfl (hb hby at_4) ?_
    show Steps p.tables e below (s₁.setTop (mkF m 6 #[.val (.int p1), .val (.long q2), .second, .val (.long q3), .second, .val (.long q4), .second, .unset, .unset, .unset, .unset, .unset, .unset, .unset, .unset, .unset, .unset, .unset, .unset, .unset, .unset, .unset, .unset, .unset, .unset] [(.int (62 : Int32)), (.int (p1 &&& (2147483647 : Int32)))])) _
    refine iremM X0 hx rfl (hb hby at_6) rfl (by decide) ?_
    show Steps p.tables e below (s₁.setTop (mkF m 7 #[.val (.int p1), .val (.long q2), .second, .val (.long q3), .second, .val (.long q4), .second, .unset, .unset, .unset, .unset, .unset, .unset, .unset, .unset, .unset, .unset, .unset, .unset, .unset, .unset, .unset, .unset, .unset, .unset] [(.int ((p1 &&& (2147483647 : Int32)) % (62 : Int32)))])) _
    refine XS.istore X0.here hx rfl (hb hby at_7) rfl (l' := #[.val (.int p1), .val (.long q2), .second, .val (.long q3), .second, .val (.long q4), .second, .val (.int (own_k p1)), .unset, .unset, .unset, .unset, .unset, .unset, .unset, .unset, .unset, .unset, .unset, .unset, .unset, .unset, .unset, .unset, .unset]) rfl ?_
    show Steps p.tables e below (s₁.setTop (mkF m 9 #[.val (.int p1), .val (.long q2), .second, .val (.long q3), .second, .val (.long q4), .second, .val (.int (own_k p1)), .unset, .unset, .unset, .unset, .unset, .unset, .unset, .unset, .unset, .unset, .unset, .unset, .unset, .unset, .unset, .unset, .unset] [])) _
    refine XS.iload X0.here hx rfl (hb hby at_9) rfl ?_
    show Steps p.tables e below (s₁.setTop (mkF m 11 #[.val (.int p1), .val (.long q2), .second, .val (.long q3), .second, .val (.long q4), .second, .val (.int (own_k p1)), .unset, .unset, .unset, .unset, .unset, .unset, .unset, .unset, .unset, .unset, .unset, .unset, .unset, .unset, .unset, .unset, .unset] [(.int (own_k p1))])) _
    refine XS.bipush X0.here hx rfl (hb hby at_11) ?_
    show Steps p.tables e below (s₁.setTop (mkF m 13 #[.val (.int p1), .val (.long q2), .second, .val (.long q3), .second, .val (.long q4), .second, .val (.int (own_k p1)), .unset, .unset, .unset, .unset, .unset, .unset, .unset, .unset, .unset, .unset, .unset, .unset, .unset, .unset, .unset, .unset, .unset] [(.int (61 : Int32)), (.int (own_k p1))])) _
    refine XS.icmpYes X0.here hx rfl (pc0 := 13) (pc' := 20) rfl (hb hby at_13) rfl (feq hc0).2 (by decide) (by decide) ?_
    show Steps p.tables e below (s₁.setTop (mkF m 20 #[.val (.int p1), .val (.long q2), .second, .val (.long q3), .second, .val (.long q4), .second, .val (.int (own_k p1)), .unset, .unset, .unset, .unset, .unset, .unset, .unset, .unset, .unset, .unset, .unset, .unset, .unset, .unset, .unset, .unset, .unset] [])) _
    refine XS.lconst X0.here hx rfl (hb hby at_20) ?_
    show Steps p.tables e below (s₁.setTop (mkF m 21 #[.val (.int p1), .val (.long q2), .second, .val (.long q3), .second, .val (.long q4), .second, .val (.int (own_k p1)), .unset, .unset, .unset, .unset, .unset, .unset, .unset, .unset, .unset, .unset, .unset, .unset, .unset, .unset, .unset, .unset, .unset] [(.long (1 : Int64))])) _
    refine XS.iload X0.here hx rfl (hb hby at_21) rfl ?_
    show Steps p.tables e below (s₁.setTop (mkF m 23 #[.val (.int p1), .val (.long q2), .second, .val (.long q3), .second, .val (.long q4), .second, .val (.int (own_k p1)), .unset, .unset, .unset, .unset, .unset, .unset, .unset, .unset, .unset, .unset, .unset, .unset, .unset, .unset, .unset, .unset, .unset] [(.int (own_k p1)), (.long (1 : Int64))])) _
    refine XS.lshl X0.here hx rfl (hb hby at_23) rfl ?_
    show Steps p.tables e below (s₁.setTop (mkF m 24 #[.val (.int p1), .val (.long q2), .second, .val (.long q3), .second, .val (.long q4), .second, .val (.int (own_k p1)), .unset, .unset, .unset, .unset, .unset, .unset, .unset, .unset, .unset, .unset, .unset, .unset, .unset, .unset, .unset, .unset, .unset] [(.long ((1 : Int64) <<< ((own_k p1) &&& 0x3f).toInt64))])) _
    refine XS.lconst X0.here hx rfl (hb hby at_24) ?_
    show Steps p.tables e below (s₁.setTop (mkF m 25 #[.val (.int p1), .val (.long q2), .second, .val (.long q3), .second, .val (.long q4), .second, .val (.int (own_k p1)), .unset, .unset, .unset, .unset, .unset, .unset, .unset, .unset, .unset, .unset, .unset, .unset, .unset, .unset, .unset, .unset, .unset] [(.long (1 : Int64)), (.long ((1 : Int64) <<< ((own_k p1) &&& 0x3f).toInt64))])) _
    refine XS.lsub X0.here hx rfl (hb hby at_25) rfl ?_
    show Steps p.tables e below (s₁.setTop (mkF m 26 #[.val (.int p1), .val (.long q2), .second, .val (.long q3), .second, .val (.long q4), .second, .val (.int (own_k p1)), .unset, .unset, .unset, .unset, .unset, .unset, .unset, .unset, .unset, .unset, .unset, .unset, .unset, .unset, .unset, .unset, .unset] [(.long (((1 : Int64) <<< ((own_k p1) &&& 0x3f).toInt64) - (1 : Int64)))])) _
    refine XS.lstore X0.here hx rfl (hb hby at_26) rfl (l' := #[.val (.int p1), .val (.long q2), .second, .val (.long q3), .second, .val (.long q4), .second, .val (.int (own_k p1)), .val (.long (((1 : Int64) <<< ((own_k p1) &&& 0x3f).toInt64) - (1 : Int64))), .second, .unset, .unset, .unset, .unset, .unset, .unset, .unset, .unset, .unset, .unset, .unset, .unset, .unset, .unset, .unset]) rfl ?_
    show Steps p.tables e below (s₁.setTop (mkF m 28 #[.val (.int p1), .val (.long q2), .second, .val (.long q3), .second, .val (.long q4), .second, .val (.int (own_k p1)), .val (.long (((1 : Int64) <<< ((own_k p1) &&& 0x3f).toInt64) - (1 : Int64))), .second, .unset, .unset, .unset, .unset, .unset, .unset, .unset, .unset, .unset, .unset, .unset, .unset, .unset, .unset, .unset] [])) _
    refine XS.lconst X0.here hx rfl (hb hby at_28) ?_
    show Steps p.tables e below (s₁.setTop (mkF m 29 #[.val (.int p1), .val (.long q2), .second, .val (.long q3), .second, .val (.long q4), .second, .val (.int (own_k p1)), .val (.long (((1 : Int64) <<< ((own_k p1) &&& 0x3f).toInt64) - (1 : Int64))), .second, .unset, .unset, .unset, .unset, .unset, .unset, .unset, .unset, .unset, .unset, .unset, .unset, .unset, .unset, .unset] [(.long (1 : Int64))])) _
    refine XS.iload X0.here hx rfl (hb hby at_29) rfl ?_
    show Steps p.tables e below (s₁.setTop (mkF m 31 #[.val (.int p1), .val (.long q2), .second, .val (.long q3), .second, .val (.long q4), .second, .val (.int (own_k p1)), .val (.long (((1 : Int64) <<< ((own_k p1) &&& 0x3f).toInt64) - (1 : Int64))), .second, .unset, .unset, .unset, .unset, .unset, .unset, .unset, .unset, .unset, .unset, .unset, .unset, .unset, .unset, .unset] [(.int (own_k p1)), (.long (1 : Int64))])) _
    refine XS.lshl X0.here hx rfl (hb hby at_31) rfl ?_
    show Steps p.tables e below (s₁.setTop (mkF m 32 #[.val (.int p1), .val (.long q2), .second, .val (.long q3), .second, .val (.long q4), .second, .val (.int (own_k p1)), .val (.long (((1 : Int64) <<< ((own_k p1) &&& 0x3f).toInt64) - (1 : Int64))), .second, .unset, .unset, .unset, .unset, .unset, .unset, .unset, .unset, .unset, .unset, .unset, .unset, .unset, .unset, .unset] [(.long ((1 : Int64) <<< ((own_k p1) &&& 0x3f).toInt64))])) _
    refine XS.lloadN X0.here hx rfl (hb hby at_32) rfl ?_
    show Steps p.tables e below (s₁.setTop (mkF m 33 #[.val (.int p1), .val (.long q2), .second, .val (.long q3), .second, .val (.long q4), .second, .val (.int (own_k p1)), .val (.long (((1 : Int64) <<< ((own_k p1) &&& 0x3f).toInt64) - (1 : Int64))), .second, .unset, .unset, .unset, .unset, .unset, .unset, .unset, .unset, .unset, .unset, .unset, .unset, .unset, .unset, .unset] [(.long q2), (.long ((1 : Int64) <<< ((own_k p1) &&& 0x3f).toInt64))])) _
    refine XS.lload X0.here hx rfl (hb hby at_33) rfl ?_
    show Steps p.tables e below (s₁.setTop (mkF m 35 #[.val (.int p1), .val (.long q2), .second, .val (.long q3), .second, .val (.long q4), .second, .val (.int (own_k p1)), .val (.long (((1 : Int64) <<< ((own_k p1) &&& 0x3f).toInt64) - (1 : Int64))), .second, .unset, .unset, .unset, .unset, .unset, .unset, .unset, .unset, .unset, .unset, .unset, .unset, .unset, .unset, .unset] [(.long (((1 : Int64) <<< ((own_k p1) &&& 0x3f).toInt64) - (1 : Int64))), (.long q2), (.long ((1 : Int64) <<< ((own_k p1) &&& 0x3f).toInt64))])) _
    refine XS.land X0.here hx rfl (hb hby at_35) rfl ?_
    show Steps p.tables e below (s₁.setTop (mkF m 36 #[.val (.int p1), .val (.long q2), .second, .val (.long q3), .second, .val (.long q4), .second, .val (.int (own_k p1)), .val (.long (((1 : Int64) <<< ((own_k p1) &&& 0x3f).toInt64) - (1 : Int64))), .second, .unset, .unset, .unset, .unset, .unset, .unset, .unset, .unset, .unset, .unset, .unset, .unset, .unset, .unset, .unset] [(.long (q2 &&& (((1 : Int64) <<< ((own_k p1) &&& 0x3f).toInt64) - (1 : Int64)))), (.long ((1 : Int64) <<< ((own_k p1) &&& 0x3f).toInt64))])) _
    refine XS.lor X0.here hx rfl (hb hby at_36) rfl ?_
    show Steps p.tables e below (s₁.setTop (mkF m 37 #[.val (.int p1), .val (.long q2), .second, .val (.long q3), .second, .val (.long q4), .second, .val (.int (own_k p1)), .val (.long (((1 : Int64) <<< ((own_k p1) &&& 0x3f).toInt64) - (1 : Int64))), .second, .unset, .unset, .unset, .unset, .unset, .unset, .unset, .unset, .unset, .unset, .unset, .unset, .unset, .unset, .unset] [(.long (((1 : Int64) <<< ((own_k p1) &&& 0x3f).toInt64) ||| (q2 &&& (((1 : Int64) <<< ((own_k p1) &&& 0x3f).toInt64) - (1 : Int64)))))])) _
    refine XS.lstore X0.here hx rfl (hb hby at_37) rfl (l' := #[.val (.int p1), .val (.long q2), .second, .val (.long q3), .second, .val (.long q4), .second, .val (.int (own_k p1)), .val (.long (((1 : Int64) <<< ((own_k p1) &&& 0x3f).toInt64) - (1 : Int64))), .second, .val (.long (own_b p1 q2)), .second, .unset, .unset, .unset, .unset, .unset, .unset, .unset, .unset, .unset, .unset, .unset, .unset, .unset]) rfl ?_
    show Steps p.tables e below (s₁.setTop (mkF m 39 #[.val (.int p1), .val (.long q2), .second, .val (.long q3), .second, .val (.long q4), .second, .val (.int (own_k p1)), .val (.long (((1 : Int64) <<< ((own_k p1) &&& 0x3f).toInt64) - (1 : Int64))), .second, .val (.long (own_b p1 q2)), .second, .unset, .unset, .unset, .unset, .unset, .unset, .unset, .unset, .unset, .unset, .unset, .unset, .unset] [])) _
    refine XS.lloadN X0.here hx rfl (hb hby at_39) rfl ?_
    show Steps p.tables e below (s₁.setTop (mkF m 40 #[.val (.int p1), .val (.long q2), .second, .val (.long q3), .second, .val (.long q4), .second, .val (.int (own_k p1)), .val (.long (((1 : Int64) <<< ((own_k p1) &&& 0x3f).toInt64) - (1 : Int64))), .second, .val (.long (own_b p1 q2)), .second, .unset, .unset, .unset, .unset, .unset, .unset, .unset, .unset, .unset, .unset, .unset, .unset, .unset] [(.long q3)])) _
    refine X0.ldc2Long hx hown (mvT hZ (hw _ (List.mem_of_getElem? (i := 1) rfl))) (g := (mkF m 40 #[.val (.int p1), .val (.long q2), .second, .val (.long q3), .second, .val (.long q4), .second, .val (.int (own_k p1)), .val (.long (((1 : Int64) <<< ((own_k p1) &&& 0x3f).toInt64) - (1 : Int64))), .second, .val (.long (own_b p1 q2)), .second, .unset, .unset, .unset, .unset, .unset, .unset, .unset, .unset, .unset, .unset, .unset, .unset, .unset] [(.long q3)])) rfl (hb hby at_40) _ ?_
    show Steps p.tables e below (s₁.setTop (mkF m 43 #[.val (.int p1), .val (.long q2), .second, .val (.long q3), .second, .val (.long q4), .second, .val (.int (own_k p1)), .val (.long (((1 : Int64) <<< ((own_k p1) &&& 0x3f).toInt64) - (1 : Int64))), .second, .val (.long (own_b p1 q2)), .second, .unset, .unset, .unset, .unset, .unset, .unset, .unset, .unset, .unset, .unset, .unset, .unset, .unset] [(.long (9223372036854775807 : Int64)), (.long q3)])) _
    refine XS.land X0.here hx rfl (hb hby at_43) rfl ?_
    show Steps p.tables e below (s₁.setTop (mkF m 44 #[.val (.int p1), .val (.long q2), .second, .val (.long q3), .second, .val (.long q4), .second, .val (.int (own_k p1)), .val (.long (((1 : Int64) <<< ((own_k p1) &&& 0x3f).toInt64) - (1 : Int64))), .second, .val (.long (own_b p1 q2)), .second, .unset, .unset, .unset, .unset, .unset, .unset, .unset, .unset, .unset, .unset, .unset, .unset, .unset] [(.long (q3 &&& (9223372036854775807 : Int64)))])) _
    refine XS.lload X0.here hx rfl (hb hby at_44) rfl ?_
    show Steps p.tables e below (s₁.setTop (mkF m 46 #[.val (.int p1), .val (.long q2), .second, .val (.long q3), .second, .val (.long q4), .second, .val (.int (own_k p1)), .val (.long (((1 : Int64) <<< ((own_k p1) &&& 0x3f).toInt64) - (1 : Int64))), .second, .val (.long (own_b p1 q2)), .second, .unset, .unset, .unset, .unset, .unset, .unset, .unset, .unset, .unset, .unset, .unset, .unset, .unset] [(.long (own_b p1 q2)), (.long (q3 &&& (9223372036854775807 : Int64)))])) _
    refine XS.lrem X0.here hx rfl (hb hby at_46) rfl hnz0 ?_
    rw [lrem_mod]
    show Steps p.tables e below (s₁.setTop (mkF m 47 #[.val (.int p1), .val (.long q2), .second, .val (.long q3), .second, .val (.long q4), .second, .val (.int (own_k p1)), .val (.long (((1 : Int64) <<< ((own_k p1) &&& 0x3f).toInt64) - (1 : Int64))), .second, .val (.long (own_b p1 q2)), .second, .unset, .unset, .unset, .unset, .unset, .unset, .unset, .unset, .unset, .unset, .unset, .unset, .unset] [(.long ((q3 &&& (9223372036854775807 : Int64)) % (own_b p1 q2)))])) _
    refine XS.lstore X0.here hx rfl (hb hby at_47) rfl (l' := #[.val (.int p1), .val (.long q2), .second, .val (.long q3), .second, .val (.long q4), .second, .val (.int (own_k p1)), .val (.long (((1 : Int64) <<< ((own_k p1) &&& 0x3f).toInt64) - (1 : Int64))), .second, .val (.long (own_b p1 q2)), .second, .val (.long (own_r p1 q2 q3)), .second, .unset, .unset, .unset, .unset, .unset, .unset, .unset, .unset, .unset, .unset, .unset]) rfl ?_
    show Steps p.tables e below (s₁.setTop (mkF m 49 #[.val (.int p1), .val (.long q2), .second, .val (.long q3), .second, .val (.long q4), .second, .val (.int (own_k p1)), .val (.long (((1 : Int64) <<< ((own_k p1) &&& 0x3f).toInt64) - (1 : Int64))), .second, .val (.long (own_b p1 q2)), .second, .val (.long (own_r p1 q2 q3)), .second, .unset, .unset, .unset, .unset, .unset, .unset, .unset, .unset, .unset, .unset, .unset] [])) _
    refine X0.ldc2Long hx hown (mvT hZ (hw _ (List.mem_of_getElem? (i := 1) rfl))) (g := (mkF m 49 #[.val (.int p1), .val (.long q2), .second, .val (.long q3), .second, .val (.long q4), .second, .val (.int (own_k p1)), .val (.long (((1 : Int64) <<< ((own_k p1) &&& 0x3f).toInt64) - (1 : Int64))), .second, .val (.long (own_b p1 q2)), .second, .val (.long (own_r p1 q2 q3)), .second, .unset, .unset, .unset, .unset, .unset, .unset, .unset, .unset, .unset, .unset, .unset] [])) rfl (hb hby at_49) _ ?_
    show Steps p.tables e below (s₁.setTop (mkF m 52 #[.val (.int p1), .val (.long q2), .second, .val (.long q3), .second, .val (.long q4), .second, .val (.int (own_k p1)), .val (.long (((1 : Int64) <<< ((own_k p1) &&& 0x3f).toInt64) - (1 : Int64))), .second, .val (.long (own_b p1 q2)), .second, .val (.long (own_r p1 q2 q3)), .second, .unset, .unset, .unset, .unset, .unset, .unset, .unset, .unset, .unset, .unset, .unset] [(.long (9223372036854775807 : Int64))])) _
    refine XS.lload X0.here hx rfl (hb hby at_52) rfl ?_
    show Steps p.tables e below (s₁.setTop (mkF m 54 #[.val (.int p1), .val (.long q2), .second, .val (.long q3), .second, .val (.long q4), .second, .val (.int (own_k p1)), .val (.long (((1 : Int64) <<< ((own_k p1) &&& 0x3f).toInt64) - (1 : Int64))), .second, .val (.long (own_b p1 q2)), .second, .val (.long (own_r p1 q2 q3)), .second, .unset, .unset, .unset, .unset, .unset, .unset, .unset, .unset, .unset, .unset, .unset] [(.long (own_r p1 q2 q3)), (.long (9223372036854775807 : Int64))])) _
    refine XS.lsub X0.here hx rfl (hb hby at_54) rfl ?_
    show Steps p.tables e below (s₁.setTop (mkF m 55 #[.val (.int p1), .val (.long q2), .second, .val (.long q3), .second, .val (.long q4), .second, .val (.int (own_k p1)), .val (.long (((1 : Int64) <<< ((own_k p1) &&& 0x3f).toInt64) - (1 : Int64))), .second, .val (.long (own_b p1 q2)), .second, .val (.long (own_r p1 q2 q3)), .second, .unset, .unset, .unset, .unset, .unset, .unset, .unset, .unset, .unset, .unset, .unset] [(.long ((9223372036854775807 : Int64) - (own_r p1 q2 q3)))])) _
    refine XS.lload X0.here hx rfl (hb hby at_55) rfl ?_
    show Steps p.tables e below (s₁.setTop (mkF m 57 #[.val (.int p1), .val (.long q2), .second, .val (.long q3), .second, .val (.long q4), .second, .val (.int (own_k p1)), .val (.long (((1 : Int64) <<< ((own_k p1) &&& 0x3f).toInt64) - (1 : Int64))), .second, .val (.long (own_b p1 q2)), .second, .val (.long (own_r p1 q2 q3)), .second, .unset, .unset, .unset, .unset, .unset, .unset, .unset, .unset, .unset, .unset, .unset] [(.long (own_b p1 q2)), (.long ((9223372036854775807 : Int64) - (own_r p1 q2 q3)))])) _
    refine XS.ldiv X0.here hx rfl (hb hby at_57) rfl hnz0 ?_
    show Steps p.tables e below (s₁.setTop (mkF m 58 #[.val (.int p1), .val (.long q2), .second, .val (.long q3), .second, .val (.long q4), .second, .val (.int (own_k p1)), .val (.long (((1 : Int64) <<< ((own_k p1) &&& 0x3f).toInt64) - (1 : Int64))), .second, .val (.long (own_b p1 q2)), .second, .val (.long (own_r p1 q2 q3)), .second, .unset, .unset, .unset, .unset, .unset, .unset, .unset, .unset, .unset, .unset, .unset] [(.long (((9223372036854775807 : Int64) - (own_r p1 q2 q3)) / (own_b p1 q2)))])) _
    refine XS.lstore X0.here hx rfl (hb hby at_58) rfl (l' := #[.val (.int p1), .val (.long q2), .second, .val (.long q3), .second, .val (.long q4), .second, .val (.int (own_k p1)), .val (.long (((1 : Int64) <<< ((own_k p1) &&& 0x3f).toInt64) - (1 : Int64))), .second, .val (.long (own_b p1 q2)), .second, .val (.long (own_r p1 q2 q3)), .second, .val (.long (own_bound p1 q2 q3)), .second, .unset, .unset, .unset, .unset, .unset, .unset, .unset, .unset, .unset]) rfl ?_
    show Steps p.tables e below (s₁.setTop (mkF m 60 #[.val (.int p1), .val (.long q2), .second, .val (.long q3), .second, .val (.long q4), .second, .val (.int (own_k p1)), .val (.long (((1 : Int64) <<< ((own_k p1) &&& 0x3f).toInt64) - (1 : Int64))), .second, .val (.long (own_b p1 q2)), .second, .val (.long (own_r p1 q2 q3)), .second, .val (.long (own_bound p1 q2 q3)), .second, .unset, .unset, .unset, .unset, .unset, .unset, .unset, .unset, .unset] [])) _
    refine XS.lload X0.here hx rfl (hb hby at_60) rfl ?_
    show Steps p.tables e below (s₁.setTop (mkF m 62 #[.val (.int p1), .val (.long q2), .second, .val (.long q3), .second, .val (.long q4), .second, .val (.int (own_k p1)), .val (.long (((1 : Int64) <<< ((own_k p1) &&& 0x3f).toInt64) - (1 : Int64))), .second, .val (.long (own_b p1 q2)), .second, .val (.long (own_r p1 q2 q3)), .second, .val (.long (own_bound p1 q2 q3)), .second, .unset, .unset, .unset, .unset, .unset, .unset, .unset, .unset, .unset] [(.long q4)])) _
    refine X0.ldc2Long hx hown (mvT hZ (hw _ (List.mem_of_getElem? (i := 1) rfl))) (g := (mkF m 62 #[.val (.int p1), .val (.long q2), .second, .val (.long q3), .second, .val (.long q4), .second, .val (.int (own_k p1)), .val (.long (((1 : Int64) <<< ((own_k p1) &&& 0x3f).toInt64) - (1 : Int64))), .second, .val (.long (own_b p1 q2)), .second, .val (.long (own_r p1 q2 q3)), .second, .val (.long (own_bound p1 q2 q3)), .second, .unset, .unset, .unset, .unset, .unset, .unset, .unset, .unset, .unset] [(.long q4)])) rfl (hb hby at_62) _ ?_
    show Steps p.tables e below (s₁.setTop (mkF m 65 #[.val (.int p1), .val (.long q2), .second, .val (.long q3), .second, .val (.long q4), .second, .val (.int (own_k p1)), .val (.long (((1 : Int64) <<< ((own_k p1) &&& 0x3f).toInt64) - (1 : Int64))), .second, .val (.long (own_b p1 q2)), .second, .val (.long (own_r p1 q2 q3)), .second, .val (.long (own_bound p1 q2 q3)), .second, .unset, .unset, .unset, .unset, .unset, .unset, .unset, .unset, .unset] [(.long (9223372036854775807 : Int64)), (.long q4)])) _
    refine XS.land X0.here hx rfl (hb hby at_65) rfl ?_
    show Steps p.tables e below (s₁.setTop (mkF m 66 #[.val (.int p1), .val (.long q2), .second, .val (.long q3), .second, .val (.long q4), .second, .val (.int (own_k p1)), .val (.long (((1 : Int64) <<< ((own_k p1) &&& 0x3f).toInt64) - (1 : Int64))), .second, .val (.long (own_b p1 q2)), .second, .val (.long (own_r p1 q2 q3)), .second, .val (.long (own_bound p1 q2 q3)), .second, .unset, .unset, .unset, .unset, .unset, .unset, .unset, .unset, .unset] [(.long (q4 &&& (9223372036854775807 : Int64)))])) _
    refine XS.lload X0.here hx rfl (hb hby at_66) rfl ?_
    show Steps p.tables e below (s₁.setTop (mkF m 68 #[.val (.int p1), .val (.long q2), .second, .val (.long q3), .second, .val (.long q4), .second, .val (.int (own_k p1)), .val (.long (((1 : Int64) <<< ((own_k p1) &&& 0x3f).toInt64) - (1 : Int64))), .second, .val (.long (own_b p1 q2)), .second, .val (.long (own_r p1 q2 q3)), .second, .val (.long (own_bound p1 q2 q3)), .second, .unset, .unset, .unset, .unset, .unset, .unset, .unset, .unset, .unset] [(.long (own_bound p1 q2 q3)), (.long (q4 &&& (9223372036854775807 : Int64)))])) _
    refine st1 _ ?_
    show Steps p.tables e below (T1.setTop (mkF m 71 #[.val (.int p1), .val (.long q2), .second, .val (.long q3), .second, .val (.long q4), .second, .val (.int (own_k p1)), .val (.long (((1 : Int64) <<< ((own_k p1) &&& 0x3f).toInt64) - (1 : Int64))), .second, .val (.long (own_b p1 q2)), .second, .val (.long (own_r p1 q2 q3)), .second, .val (.long (own_bound p1 q2 q3)), .second, .unset, .unset, .unset, .unset, .unset, .unset, .unset, .unset, .unset] [(.long (f_min (q4 &&& (9223372036854775807 : Int64)) (own_bound p1 q2 q3)))])) _
    refine XS.lstore X1.here hx rfl (hb hby at_71) rfl (l' := #[.val (.int p1), .val (.long q2), .second, .val (.long q3), .second, .val (.long q4), .second, .val (.int (own_k p1)), .val (.long (((1 : Int64) <<< ((own_k p1) &&& 0x3f).toInt64) - (1 : Int64))), .second, .val (.long (own_b p1 q2)), .second, .val (.long (own_r p1 q2 q3)), .second, .val (.long (own_bound p1 q2 q3)), .second, .val (.long (own_q p1 q2 q3 q4)), .second, .unset, .unset, .unset, .unset, .unset, .unset, .unset]) rfl ?_
    show Steps p.tables e below (T1.setTop (mkF m 73 #[.val (.int p1), .val (.long q2), .second, .val (.long q3), .second, .val (.long q4), .second, .val (.int (own_k p1)), .val (.long (((1 : Int64) <<< ((own_k p1) &&& 0x3f).toInt64) - (1 : Int64))), .second, .val (.long (own_b p1 q2)), .second, .val (.long (own_r p1 q2 q3)), .second, .val (.long (own_bound p1 q2 q3)), .second, .val (.long (own_q p1 q2 q3 q4)), .second, .unset, .unset, .unset, .unset, .unset, .unset, .unset] [])) _
    refine XS.lload X1.here hx rfl (hb hby at_73) rfl ?_
    show Steps p.tables e below (T1.setTop (mkF m 75 #[.val (.int p1), .val (.long q2), .second, .val (.long q3), .second, .val (.long q4), .second, .val (.int (own_k p1)), .val (.long (((1 : Int64) <<< ((own_k p1) &&& 0x3f).toInt64) - (1 : Int64))), .second, .val (.long (own_b p1 q2)), .second, .val (.long (own_r p1 q2 q3)), .second, .val (.long (own_bound p1 q2 q3)), .second, .val (.long (own_q p1 q2 q3 q4)), .second, .unset, .unset, .unset, .unset, .unset, .unset, .unset] [(.long (own_q p1 q2 q3 q4))])) _
    refine XS.lload X1.here hx rfl (hb hby at_75) rfl ?_
    show Steps p.tables e below (T1.setTop (mkF m 77 #[.val (.int p1), .val (.long q2), .second, .val (.long q3), .second, .val (.long q4), .second, .val (.int (own_k p1)), .val (.long (((1 : Int64) <<< ((own_k p1) &&& 0x3f).toInt64) - (1 : Int64))), .second, .val (.long (own_b p1 q2)), .second, .val (.long (own_r p1 q2 q3)), .second, .val (.long (own_bound p1 q2 q3)), .second, .val (.long (own_q p1 q2 q3 q4)), .second, .unset, .unset, .unset, .unset, .unset, .unset, .unset] [(.long (own_b p1 q2)), (.long (own_q p1 q2 q3 q4))])) _
    refine XS.lmul X1.here hx rfl (hb hby at_77) rfl ?_
    show Steps p.tables e below (T1.setTop (mkF m 78 #[.val (.int p1), .val (.long q2), .second, .val (.long q3), .second, .val (.long q4), .second, .val (.int (own_k p1)), .val (.long (((1 : Int64) <<< ((own_k p1) &&& 0x3f).toInt64) - (1 : Int64))), .second, .val (.long (own_b p1 q2)), .second, .val (.long (own_r p1 q2 q3)), .second, .val (.long (own_bound p1 q2 q3)), .second, .val (.long (own_q p1 q2 q3 q4)), .second, .unset, .unset, .unset, .unset, .unset, .unset, .unset] [(.long ((own_q p1 q2 q3 q4) * (own_b p1 q2)))])) _
    refine XS.lload X1.here hx rfl (hb hby at_78) rfl ?_
    show Steps p.tables e below (T1.setTop (mkF m 80 #[.val (.int p1), .val (.long q2), .second, .val (.long q3), .second, .val (.long q4), .second, .val (.int (own_k p1)), .val (.long (((1 : Int64) <<< ((own_k p1) &&& 0x3f).toInt64) - (1 : Int64))), .second, .val (.long (own_b p1 q2)), .second, .val (.long (own_r p1 q2 q3)), .second, .val (.long (own_bound p1 q2 q3)), .second, .val (.long (own_q p1 q2 q3 q4)), .second, .unset, .unset, .unset, .unset, .unset, .unset, .unset] [(.long (own_r p1 q2 q3)), (.long ((own_q p1 q2 q3 q4) * (own_b p1 q2)))])) _
    refine XS.ladd X1.here hx rfl (hb hby at_80) rfl ?_
    show Steps p.tables e below (T1.setTop (mkF m 81 #[.val (.int p1), .val (.long q2), .second, .val (.long q3), .second, .val (.long q4), .second, .val (.int (own_k p1)), .val (.long (((1 : Int64) <<< ((own_k p1) &&& 0x3f).toInt64) - (1 : Int64))), .second, .val (.long (own_b p1 q2)), .second, .val (.long (own_r p1 q2 q3)), .second, .val (.long (own_bound p1 q2 q3)), .second, .val (.long (own_q p1 q2 q3 q4)), .second, .unset, .unset, .unset, .unset, .unset, .unset, .unset] [(.long (((own_q p1 q2 q3 q4) * (own_b p1 q2)) + (own_r p1 q2 q3)))])) _
    refine XS.lstore X1.here hx rfl (hb hby at_81) rfl (l' := #[.val (.int p1), .val (.long q2), .second, .val (.long q3), .second, .val (.long q4), .second, .val (.int (own_k p1)), .val (.long (((1 : Int64) <<< ((own_k p1) &&& 0x3f).toInt64) - (1 : Int64))), .second, .val (.long (own_b p1 q2)), .second, .val (.long (own_r p1 q2 q3)), .second, .val (.long (own_bound p1 q2 q3)), .second, .val (.long (own_q p1 q2 q3 q4)), .second, .val (.long (own_gap p1 q2 q3 q4)), .second, .unset, .unset, .unset, .unset, .unset]) rfl ?_
    show Steps p.tables e below (T1.setTop (mkF m 83 #[.val (.int p1), .val (.long q2), .second, .val (.long q3), .second, .val (.long q4), .second, .val (.int (own_k p1)), .val (.long (((1 : Int64) <<< ((own_k p1) &&& 0x3f).toInt64) - (1 : Int64))), .second, .val (.long (own_b p1 q2)), .second, .val (.long (own_r p1 q2 q3)), .second, .val (.long (own_bound p1 q2 q3)), .second, .val (.long (own_q p1 q2 q3 q4)), .second, .val (.long (own_gap p1 q2 q3 q4)), .second, .unset, .unset, .unset, .unset, .unset] [])) _
    refine XS.lload X1.here hx rfl (hb hby at_83) rfl ?_
    show Steps p.tables e below (T1.setTop (mkF m 85 #[.val (.int p1), .val (.long q2), .second, .val (.long q3), .second, .val (.long q4), .second, .val (.int (own_k p1)), .val (.long (((1 : Int64) <<< ((own_k p1) &&& 0x3f).toInt64) - (1 : Int64))), .second, .val (.long (own_b p1 q2)), .second, .val (.long (own_r p1 q2 q3)), .second, .val (.long (own_bound p1 q2 q3)), .second, .val (.long (own_q p1 q2 q3 q4)), .second, .val (.long (own_gap p1 q2 q3 q4)), .second, .unset, .unset, .unset, .unset, .unset] [(.long (own_r p1 q2 q3))])) _
    refine XS.lload X1.here hx rfl (hb hby at_85) rfl ?_
    show Steps p.tables e below (T1.setTop (mkF m 87 #[.val (.int p1), .val (.long q2), .second, .val (.long q3), .second, .val (.long q4), .second, .val (.int (own_k p1)), .val (.long (((1 : Int64) <<< ((own_k p1) &&& 0x3f).toInt64) - (1 : Int64))), .second, .val (.long (own_b p1 q2)), .second, .val (.long (own_r p1 q2 q3)), .second, .val (.long (own_bound p1 q2 q3)), .second, .val (.long (own_q p1 q2 q3 q4)), .second, .val (.long (own_gap p1 q2 q3 q4)), .second, .unset, .unset, .unset, .unset, .unset] [(.long (own_b p1 q2)), (.long (own_r p1 q2 q3))])) _
    refine XS.ladd X1.here hx rfl (hb hby at_87) rfl ?_
    show Steps p.tables e below (T1.setTop (mkF m 88 #[.val (.int p1), .val (.long q2), .second, .val (.long q3), .second, .val (.long q4), .second, .val (.int (own_k p1)), .val (.long (((1 : Int64) <<< ((own_k p1) &&& 0x3f).toInt64) - (1 : Int64))), .second, .val (.long (own_b p1 q2)), .second, .val (.long (own_r p1 q2 q3)), .second, .val (.long (own_bound p1 q2 q3)), .second, .val (.long (own_q p1 q2 q3 q4)), .second, .val (.long (own_gap p1 q2 q3 q4)), .second, .unset, .unset, .unset, .unset, .unset] [(.long ((own_r p1 q2 q3) + (own_b p1 q2)))])) _
    refine X1.ldc2Long hx hown (mvT hZ (hw _ (List.mem_of_getElem? (i := 6) rfl))) (g := (mkF m 88 #[.val (.int p1), .val (.long q2), .second, .val (.long q3), .second, .val (.long q4), .second, .val (.int (own_k p1)), .val (.long (((1 : Int64) <<< ((own_k p1) &&& 0x3f).toInt64) - (1 : Int64))), .second, .val (.long (own_b p1 q2)), .second, .val (.long (own_r p1 q2 q3)), .second, .val (.long (own_bound p1 q2 q3)), .second, .val (.long (own_q p1 q2 q3 q4)), .second, .val (.long (own_gap p1 q2 q3 q4)), .second, .unset, .unset, .unset, .unset, .unset] [(.long ((own_r p1 q2 q3) + (own_b p1 q2)))])) rfl (hb hby at_88) _ ?_
    show Steps p.tables e below (T1.setTop (mkF m 91 #[.val (.int p1), .val (.long q2), .second, .val (.long q3), .second, .val (.long q4), .second, .val (.int (own_k p1)), .val (.long (((1 : Int64) <<< ((own_k p1) &&& 0x3f).toInt64) - (1 : Int64))), .second, .val (.long (own_b p1 q2)), .second, .val (.long (own_r p1 q2 q3)), .second, .val (.long (own_bound p1 q2 q3)), .second, .val (.long (own_q p1 q2 q3 q4)), .second, .val (.long (own_gap p1 q2 q3 q4)), .second, .unset, .unset, .unset, .unset, .unset] [(.long (2 : Int64)), (.long ((own_r p1 q2 q3) + (own_b p1 q2)))])) _
    refine XS.iload X1.here hx rfl (hb hby at_91) rfl ?_
    show Steps p.tables e below (T1.setTop (mkF m 93 #[.val (.int p1), .val (.long q2), .second, .val (.long q3), .second, .val (.long q4), .second, .val (.int (own_k p1)), .val (.long (((1 : Int64) <<< ((own_k p1) &&& 0x3f).toInt64) - (1 : Int64))), .second, .val (.long (own_b p1 q2)), .second, .val (.long (own_r p1 q2 q3)), .second, .val (.long (own_bound p1 q2 q3)), .second, .val (.long (own_q p1 q2 q3 q4)), .second, .val (.long (own_gap p1 q2 q3 q4)), .second, .unset, .unset, .unset, .unset, .unset] [(.int (own_k p1)), (.long (2 : Int64)), (.long ((own_r p1 q2 q3) + (own_b p1 q2)))])) _
    refine XS.lshl X1.here hx rfl (hb hby at_93) rfl ?_
    show Steps p.tables e below (T1.setTop (mkF m 94 #[.val (.int p1), .val (.long q2), .second, .val (.long q3), .second, .val (.long q4), .second, .val (.int (own_k p1)), .val (.long (((1 : Int64) <<< ((own_k p1) &&& 0x3f).toInt64) - (1 : Int64))), .second, .val (.long (own_b p1 q2)), .second, .val (.long (own_r p1 q2 q3)), .second, .val (.long (own_bound p1 q2 q3)), .second, .val (.long (own_q p1 q2 q3 q4)), .second, .val (.long (own_gap p1 q2 q3 q4)), .second, .unset, .unset, .unset, .unset, .unset] [(.long ((2 : Int64) <<< ((own_k p1) &&& 0x3f).toInt64)), (.long ((own_r p1 q2 q3) + (own_b p1 q2)))])) _
    refine XS.lcmp X1.here hx rfl (hb hby at_94) rfl ?_
    show Steps p.tables e below (T1.setTop (mkF m 95 #[.val (.int p1), .val (.long q2), .second, .val (.long q3), .second, .val (.long q4), .second, .val (.int (own_k p1)), .val (.long (((1 : Int64) <<< ((own_k p1) &&& 0x3f).toInt64) - (1 : Int64))), .second, .val (.long (own_b p1 q2)), .second, .val (.long (own_r p1 q2 q3)), .second, .val (.long (own_bound p1 q2 q3)), .second, .val (.long (own_q p1 q2 q3 q4)), .second, .val (.long (own_gap p1 q2 q3 q4)), .second, .unset, .unset, .unset, .unset, .unset] [(.int (lcmpW ((own_r p1 q2 q3) + (own_b p1 q2)) ((2 : Int64) <<< ((own_k p1) &&& 0x3f).toInt64)))])) _
    refine XS.ifNo X1.here hx rfl (hb hby at_95) rfl ((if0 _ _).trans (flt (fun q => (hc1 : ¬ (((own_r p1 q2 q3) + (own_b p1 q2)) < ((2 : Int64) <<< ((own_k p1) &&& 0x3f).toInt64))) ((lw_lt _ _).mp q))).1) ?_
    show Steps p.tables e below (T1.setTop (mkF m 98 #[.val (.int p1), .val (.long q2), .second, .val (.long q3), .second, .val (.long q4), .second, .val (.int (own_k p1)), .val (.long (((1 : Int64) <<< ((own_k p1) &&& 0x3f).toInt64) - (1 : Int64))), .second, .val (.long (own_b p1 q2)), .second, .val (.long (own_r p1 q2 q3)), .second, .val (.long (own_bound p1 q2 q3)), .second, .val (.long (own_q p1 q2 q3 q4)), .second, .val (.long (own_gap p1 q2 q3 q4)), .second, .unset, .unset, .unset, .unset, .unset] [])) _
    refine XS.lconst X1.here hx rfl (hb hby at_98) ?_
    show Steps p.tables e below (T1.setTop (mkF m 99 #[.val (.int p1), .val (.long q2), .second, .val (.long q3), .second, .val (.long q4), .second, .val (.int (own_k p1)), .val (.long (((1 : Int64) <<< ((own_k p1) &&& 0x3f).toInt64) - (1 : Int64))), .second, .val (.long (own_b p1 q2)), .second, .val (.long (own_r p1 q2 q3)), .second, .val (.long (own_bound p1 q2 q3)), .second, .val (.long (own_q p1 q2 q3 q4)), .second, .val (.long (own_gap p1 q2 q3 q4)), .second, .unset, .unset, .unset, .unset, .unset] [(.long (1 : Int64))])) _
    refine XS.goto X1.here hx rfl (pc0 := 99) (pc' := 103) rfl (hb hby at_99) (by decide) (by decide) ?_
    show Steps p.tables e below (T1.setTop (mkF m 103 #[.val (.int p1), .val (.long q2), .second, .val (.long q3), .second, .val (.long q4), .second, .val (.int (own_k p1)), .val (.long (((1 : Int64) <<< ((own_k p1) &&& 0x3f).toInt64) - (1 : Int64))), .second, .val (.long (own_b p1 q2)), .second, .val (.long (own_r p1 q2 q3)), .second, .val (.long (own_bound p1 q2 q3)), .second, .val (.long (own_q p1 q2 q3 q4)), .second, .val (.long (own_gap p1 q2 q3 q4)), .second, .unset, .unset, .unset, .unset, .unset] [(.long (1 : Int64))])) _
    refine XS.lstore X1.here hx rfl (hb hby at_103) rfl (l' := #[.val (.int p1), .val (.long q2), .second, .val (.long q3), .second, .val (.long q4), .second, .val (.int (own_k p1)), .val (.long (((1 : Int64) <<< ((own_k p1) &&& 0x3f).toInt64) - (1 : Int64))), .second, .val (.long (own_b p1 q2)), .second, .val (.long (own_r p1 q2 q3)), .second, .val (.long (own_bound p1 q2 q3)), .second, .val (.long (own_q p1 q2 q3 q4)), .second, .val (.long (own_gap p1 q2 q3 q4)), .second, .val (.long (1 : Int64)), .second, .unset, .unset, .unset]) rfl ?_
    show Steps p.tables e below (T1.setTop (mkF m 105 #[.val (.int p1), .val (.long q2), .second, .val (.long q3), .second, .val (.long q4), .second, .val (.int (own_k p1)), .val (.long (((1 : Int64) <<< ((own_k p1) &&& 0x3f).toInt64) - (1 : Int64))), .second, .val (.long (own_b p1 q2)), .second, .val (.long (own_r p1 q2 q3)), .second, .val (.long (own_bound p1 q2 q3)), .second, .val (.long (own_q p1 q2 q3 q4)), .second, .val (.long (own_gap p1 q2 q3 q4)), .second, .val (.long (1 : Int64)), .second, .unset, .unset, .unset] [])) _
    refine XS.lload X1.here hx rfl (hb hby at_105) rfl ?_
    show Steps p.tables e below (T1.setTop (mkF m 107 #[.val (.int p1), .val (.long q2), .second, .val (.long q3), .second, .val (.long q4), .second, .val (.int (own_k p1)), .val (.long (((1 : Int64) <<< ((own_k p1) &&& 0x3f).toInt64) - (1 : Int64))), .second, .val (.long (own_b p1 q2)), .second, .val (.long (own_r p1 q2 q3)), .second, .val (.long (own_bound p1 q2 q3)), .second, .val (.long (own_q p1 q2 q3 q4)), .second, .val (.long (own_gap p1 q2 q3 q4)), .second, .val (.long (1 : Int64)), .second, .unset, .unset, .unset] [(.long (own_q p1 q2 q3 q4))])) _
    refine XS.lconst X1.here hx rfl (hb hby at_107) ?_
    show Steps p.tables e below (T1.setTop (mkF m 108 #[.val (.int p1), .val (.long q2), .second, .val (.long q3), .second, .val (.long q4), .second, .val (.int (own_k p1)), .val (.long (((1 : Int64) <<< ((own_k p1) &&& 0x3f).toInt64) - (1 : Int64))), .second, .val (.long (own_b p1 q2)), .second, .val (.long (own_r p1 q2 q3)), .second, .val (.long (own_bound p1 q2 q3)), .second, .val (.long (own_q p1 q2 q3 q4)), .second, .val (.long (own_gap p1 q2 q3 q4)), .second, .val (.long (1 : Int64)), .second, .unset, .unset, .unset] [(.long (1 : Int64)), (.long (own_q p1 q2 q3 q4))])) _
    refine XS.ladd X1.here hx rfl (hb hby at_108) rfl ?_
    show Steps p.tables e below (T1.setTop (mkF m 109 #[.val (.int p1), .val (.long q2), .second, .val (.long q3), .second, .val (.long q4), .second, .val (.int (own_k p1)), .val (.long (((1 : Int64) <<< ((own_k p1) &&& 0x3f).toInt64) - (1 : Int64))), .second, .val (.long (own_b p1 q2)), .second, .val (.long (own_r p1 q2 q3)), .second, .val (.long (own_bound p1 q2 q3)), .second, .val (.long (own_q p1 q2 q3 q4)), .second, .val (.long (own_gap p1 q2 q3 q4)), .second, .val (.long (1 : Int64)), .second, .unset, .unset, .unset] [(.long ((own_q p1 q2 q3 q4) + (1 : Int64)))])) _
    refine XS.iload X1.here hx rfl (hb hby at_109) rfl ?_
    show Steps p.tables e below (T1.setTop (mkF m 111 #[.val (.int p1), .val (.long q2), .second, .val (.long q3), .second, .val (.long q4), .second, .val (.int (own_k p1)), .val (.long (((1 : Int64) <<< ((own_k p1) &&& 0x3f).toInt64) - (1 : Int64))), .second, .val (.long (own_b p1 q2)), .second, .val (.long (own_r p1 q2 q3)), .second, .val (.long (own_bound p1 q2 q3)), .second, .val (.long (own_q p1 q2 q3 q4)), .second, .val (.long (own_gap p1 q2 q3 q4)), .second, .val (.long (1 : Int64)), .second, .unset, .unset, .unset] [(.int (own_k p1)), (.long ((own_q p1 q2 q3 q4) + (1 : Int64)))])) _
    refine XS.i2l X1.here hx rfl (hb hby at_111) rfl ?_
    show Steps p.tables e below (T1.setTop (mkF m 112 #[.val (.int p1), .val (.long q2), .second, .val (.long q3), .second, .val (.long q4), .second, .val (.int (own_k p1)), .val (.long (((1 : Int64) <<< ((own_k p1) &&& 0x3f).toInt64) - (1 : Int64))), .second, .val (.long (own_b p1 q2)), .second, .val (.long (own_r p1 q2 q3)), .second, .val (.long (own_bound p1 q2 q3)), .second, .val (.long (own_q p1 q2 q3 q4)), .second, .val (.long (own_gap p1 q2 q3 q4)), .second, .val (.long (1 : Int64)), .second, .unset, .unset, .unset] [(.long ((own_k p1).toInt64)), (.long ((own_q p1 q2 q3 q4) + (1 : Int64)))])) _
    refine XS.ladd X1.here hx rfl (hb hby at_112) rfl ?_
    show Steps p.tables e below (T1.setTop (mkF m 113 #[.val (.int p1), .val (.long q2), .second, .val (.long q3), .second, .val (.long q4), .second, .val (.int (own_k p1)), .val (.long (((1 : Int64) <<< ((own_k p1) &&& 0x3f).toInt64) - (1 : Int64))), .second, .val (.long (own_b p1 q2)), .second, .val (.long (own_r p1 q2 q3)), .second, .val (.long (own_bound p1 q2 q3)), .second, .val (.long (own_q p1 q2 q3 q4)), .second, .val (.long (own_gap p1 q2 q3 q4)), .second, .val (.long (1 : Int64)), .second, .unset, .unset, .unset] [(.long (((own_q p1 q2 q3 q4) + (1 : Int64)) + ((own_k p1).toInt64)))])) _
    refine XS.lload X1.here hx rfl (hb hby at_113) rfl ?_
    show Steps p.tables e below (T1.setTop (mkF m 115 #[.val (.int p1), .val (.long q2), .second, .val (.long q3), .second, .val (.long q4), .second, .val (.int (own_k p1)), .val (.long (((1 : Int64) <<< ((own_k p1) &&& 0x3f).toInt64) - (1 : Int64))), .second, .val (.long (own_b p1 q2)), .second, .val (.long (own_r p1 q2 q3)), .second, .val (.long (own_bound p1 q2 q3)), .second, .val (.long (own_q p1 q2 q3 q4)), .second, .val (.long (own_gap p1 q2 q3 q4)), .second, .val (.long (1 : Int64)), .second, .unset, .unset, .unset] [(.long (1 : Int64)), (.long (((own_q p1 q2 q3 q4) + (1 : Int64)) + ((own_k p1).toInt64)))])) _
    refine XS.ladd X1.here hx rfl (hb hby at_115) rfl ?_
    show Steps p.tables e below (T1.setTop (mkF m 116 #[.val (.int p1), .val (.long q2), .second, .val (.long q3), .second, .val (.long q4), .second, .val (.int (own_k p1)), .val (.long (((1 : Int64) <<< ((own_k p1) &&& 0x3f).toInt64) - (1 : Int64))), .second, .val (.long (own_b p1 q2)), .second, .val (.long (own_r p1 q2 q3)), .second, .val (.long (own_bound p1 q2 q3)), .second, .val (.long (own_q p1 q2 q3 q4)), .second, .val (.long (own_gap p1 q2 q3 q4)), .second, .val (.long (1 : Int64)), .second, .unset, .unset, .unset] [(.long ((((own_q p1 q2 q3 q4) + (1 : Int64)) + ((own_k p1).toInt64)) + (1 : Int64)))])) _
    refine XS.lstore X1.here hx rfl (hb hby at_116) rfl (l' := #[.val (.int p1), .val (.long q2), .second, .val (.long q3), .second, .val (.long q4), .second, .val (.int (own_k p1)), .val (.long (((1 : Int64) <<< ((own_k p1) &&& 0x3f).toInt64) - (1 : Int64))), .second, .val (.long (own_b p1 q2)), .second, .val (.long (own_r p1 q2 q3)), .second, .val (.long (own_bound p1 q2 q3)), .second, .val (.long (own_q p1 q2 q3 q4)), .second, .val (.long (own_gap p1 q2 q3 q4)), .second, .val (.long (1 : Int64)), .second, .val (.long (own_exp_tff p1 q2 q3 q4)), .second, .unset]) rfl ?_
    show Steps p.tables e below (T1.setTop (mkF m 118 #[.val (.int p1), .val (.long q2), .second, .val (.long q3), .second, .val (.long q4), .second, .val (.int (own_k p1)), .val (.long (((1 : Int64) <<< ((own_k p1) &&& 0x3f).toInt64) - (1 : Int64))), .second, .val (.long (own_b p1 q2)), .second, .val (.long (own_r p1 q2 q3)), .second, .val (.long (own_bound p1 q2 q3)), .second, .val (.long (own_q p1 q2 q3 q4)), .second, .val (.long (own_gap p1 q2 q3 q4)), .second, .val (.long (1 : Int64)), .second, .val (.long (own_exp_tff p1 q2 q3 q4)), .second, .unset] [])) _
    refine st3 _ ?_
    show Steps p.tables e below (T3.setTop (mkF m 121 #[.val (.int p1), .val (.long q2), .second, .val (.long q3), .second, .val (.long q4), .second, .val (.int (own_k p1)), .val (.long (((1 : Int64) <<< ((own_k p1) &&& 0x3f).toInt64) - (1 : Int64))), .second, .val (.long (own_b p1 q2)), .second, .val (.long (own_r p1 q2 q3)), .second, .val (.long (own_bound p1 q2 q3)), .second, .val (.long (own_q p1 q2 q3 q4)), .second, .val (.long (own_gap p1 q2 q3 q4)), .second, .val (.long (1 : Int64)), .second, .val (.long (own_exp_tff p1 q2 q3 q4)), .second, .unset] [(.ref b3)])) _
    refine XS.dup X3.here hx rfl (hb hby at_121) rfl rfl ?_
    show Steps p.tables e below (T3.setTop (mkF m 122 #[.val (.int p1), .val (.long q2), .second, .val (.long q3), .second, .val (.long q4), .second, .val (.int (own_k p1)), .val (.long (((1 : Int64) <<< ((own_k p1) &&& 0x3f).toInt64) - (1 : Int64))), .second, .val (.long (own_b p1 q2)), .second, .val (.long (own_r p1 q2 q3)), .second, .val (.long (own_bound p1 q2 q3)), .second, .val (.long (own_q p1 q2 q3 q4)), .second, .val (.long (own_gap p1 q2 q3 q4)), .second, .val (.long (1 : Int64)), .second, .val (.long (own_exp_tff p1 q2 q3 q4)), .second, .unset] [(.ref b3), (.ref b3)])) _
    refine XS.lload X3.here hx rfl (hb hby at_122) rfl ?_
    show Steps p.tables e below (T3.setTop (mkF m 124 #[.val (.int p1), .val (.long q2), .second, .val (.long q3), .second, .val (.long q4), .second, .val (.int (own_k p1)), .val (.long (((1 : Int64) <<< ((own_k p1) &&& 0x3f).toInt64) - (1 : Int64))), .second, .val (.long (own_b p1 q2)), .second, .val (.long (own_r p1 q2 q3)), .second, .val (.long (own_bound p1 q2 q3)), .second, .val (.long (own_q p1 q2 q3 q4)), .second, .val (.long (own_gap p1 q2 q3 q4)), .second, .val (.long (1 : Int64)), .second, .val (.long (own_exp_tff p1 q2 q3 q4)), .second, .unset] [(.long (own_b p1 q2)), (.ref b3), (.ref b3)])) _
    refine st8.trans ?_
    show Steps p.tables e below (T8.setTop (mkF m 127 #[.val (.int p1), .val (.long q2), .second, .val (.long q3), .second, .val (.long q4), .second, .val (.int (own_k p1)), .val (.long (((1 : Int64) <<< ((own_k p1) &&& 0x3f).toInt64) - (1 : Int64))), .second, .val (.long (own_b p1 q2)), .second, .val (.long (own_r p1 q2 q3)), .second, .val (.long (own_bound p1 q2 q3)), .second, .val (.long (own_q p1 q2 q3 q4)), .second, .val (.long (own_gap p1 q2 q3 q4)), .second, .val (.long (1 : Int64)), .second, .val (.long (own_exp_tff p1 q2 q3 q4)), .second, .unset] [(.ref b3)])) _
    refine XS.astore X8.here hx rfl (hb hby at_127) rfl rfl (l' := #[.val (.int p1), .val (.long q2), .second, .val (.long q3), .second, .val (.long q4), .second, .val (.int (own_k p1)), .val (.long (((1 : Int64) <<< ((own_k p1) &&& 0x3f).toInt64) - (1 : Int64))), .second, .val (.long (own_b p1 q2)), .second, .val (.long (own_r p1 q2 q3)), .second, .val (.long (own_bound p1 q2 q3)), .second, .val (.long (own_q p1 q2 q3 q4)), .second, .val (.long (own_gap p1 q2 q3 q4)), .second, .val (.long (1 : Int64)), .second, .val (.long (own_exp_tff p1 q2 q3 q4)), .second, .val (.ref b3)]) rfl ?_
    show Steps p.tables e below (T8.setTop (mkF m 129 #[.val (.int p1), .val (.long q2), .second, .val (.long q3), .second, .val (.long q4), .second, .val (.int (own_k p1)), .val (.long (((1 : Int64) <<< ((own_k p1) &&& 0x3f).toInt64) - (1 : Int64))), .second, .val (.long (own_b p1 q2)), .second, .val (.long (own_r p1 q2 q3)), .second, .val (.long (own_bound p1 q2 q3)), .second, .val (.long (own_q p1 q2 q3 q4)), .second, .val (.long (own_gap p1 q2 q3 q4)), .second, .val (.long (1 : Int64)), .second, .val (.long (own_exp_tff p1 q2 q3 q4)), .second, .val (.ref b3)] [])) _
    refine XS.aload X8.here hx rfl (hb hby at_129) rfl rfl ?_
    show Steps p.tables e below (T8.setTop (mkF m 131 #[.val (.int p1), .val (.long q2), .second, .val (.long q3), .second, .val (.long q4), .second, .val (.int (own_k p1)), .val (.long (((1 : Int64) <<< ((own_k p1) &&& 0x3f).toInt64) - (1 : Int64))), .second, .val (.long (own_b p1 q2)), .second, .val (.long (own_r p1 q2 q3)), .second, .val (.long (own_bound p1 q2 q3)), .second, .val (.long (own_q p1 q2 q3 q4)), .second, .val (.long (own_gap p1 q2 q3 q4)), .second, .val (.long (1 : Int64)), .second, .val (.long (own_exp_tff p1 q2 q3 q4)), .second, .val (.ref b3)] [(.ref b3)])) _
    refine XS.lload X8.here hx rfl (hb hby at_131) rfl ?_
    show Steps p.tables e below (T8.setTop (mkF m 133 #[.val (.int p1), .val (.long q2), .second, .val (.long q3), .second, .val (.long q4), .second, .val (.int (own_k p1)), .val (.long (((1 : Int64) <<< ((own_k p1) &&& 0x3f).toInt64) - (1 : Int64))), .second, .val (.long (own_b p1 q2)), .second, .val (.long (own_r p1 q2 q3)), .second, .val (.long (own_bound p1 q2 q3)), .second, .val (.long (own_q p1 q2 q3 q4)), .second, .val (.long (own_gap p1 q2 q3 q4)), .second, .val (.long (1 : Int64)), .second, .val (.long (own_exp_tff p1 q2 q3 q4)), .second, .val (.ref b3)] [(.long (own_gap p1 q2 q3 q4)), (.ref b3)])) _
    refine st14.trans ?_
    show Steps p.tables e below (T14.setTop (mkF m 136 #[.val (.int p1), .val (.long q2), .second, .val (.long q3), .second, .val (.long q4), .second, .val (.int (own_k p1)), .val (.long (((1 : Int64) <<< ((own_k p1) &&& 0x3f).toInt64) - (1 : Int64))), .second, .val (.long (own_b p1 q2)), .second, .val (.long (own_r p1 q2 q3)), .second, .val (.long (own_bound p1 q2 q3)), .second, .val (.long (own_q p1 q2 q3 q4)), .second, .val (.long (own_gap p1 q2 q3 q4)), .second, .val (.long (1 : Int64)), .second, .val (.long (own_exp_tff p1 q2 q3 q4)), .second, .val (.ref b3)] [(.long (f_length (own_gap p1 q2 q3 q4) (own_b p1 q2) ((63 : Int32) - (f_lnlz (own_b p1 q2))) (((2 : Int64) <<< (((63 : Int32) - (f_lnlz (own_b p1 q2))) &&& 0x3f).toInt64) - (own_b p1 q2))))])) _
    refine XS.lload X14.here hx rfl (hb hby at_136) rfl ?_
    show Steps p.tables e below (T14.setTop (mkF m 138 #[.val (.int p1), .val (.long q2), .second, .val (.long q3), .second, .val (.long q4), .second, .val (.int (own_k p1)), .val (.long (((1 : Int64) <<< ((own_k p1) &&& 0x3f).toInt64) - (1 : Int64))), .second, .val (.long (own_b p1 q2)), .second, .val (.long (own_r p1 q2 q3)), .second, .val (.long (own_bound p1 q2 q3)), .second, .val (.long (own_q p1 q2 q3 q4)), .second, .val (.long (own_gap p1 q2 q3 q4)), .second, .val (.long (1 : Int64)), .second, .val (.long (own_exp_tff p1 q2 q3 q4)), .second, .val (.ref b3)] [(.long (own_exp_tff p1 q2 q3 q4)), (.long (f_length (own_gap p1 q2 q3 q4) (own_b p1 q2) ((63 : Int32) - (f_lnlz (own_b p1 q2))) (((2 : Int64) <<< (((63 : Int32) - (f_lnlz (own_b p1 q2))) &&& 0x3f).toInt64) - (own_b p1 q2))))])) _
    refine XS.lcmp X14.here hx rfl (hb hby at_138) rfl ?_
    show Steps p.tables e below (T14.setTop (mkF m 139 #[.val (.int p1), .val (.long q2), .second, .val (.long q3), .second, .val (.long q4), .second, .val (.int (own_k p1)), .val (.long (((1 : Int64) <<< ((own_k p1) &&& 0x3f).toInt64) - (1 : Int64))), .second, .val (.long (own_b p1 q2)), .second, .val (.long (own_r p1 q2 q3)), .second, .val (.long (own_bound p1 q2 q3)), .second, .val (.long (own_q p1 q2 q3 q4)), .second, .val (.long (own_gap p1 q2 q3 q4)), .second, .val (.long (1 : Int64)), .second, .val (.long (own_exp_tff p1 q2 q3 q4)), .second, .val (.ref b3)] [(.int (lcmpW (f_length (own_gap p1 q2 q3 q4) (own_b p1 q2) ((63 : Int32) - (f_lnlz (own_b p1 q2))) (((2 : Int64) <<< (((63 : Int32) - (f_lnlz (own_b p1 q2))) &&& 0x3f).toInt64) - (own_b p1 q2))) (own_exp_tff p1 q2 q3 q4)))])) _
    refine XS.ifNo X14.here hx rfl (hb hby at_139) rfl ((if0 _ _).trans (teq ((lw_eq _ _).mpr (hc2 : (f_length (own_gap p1 q2 q3 q4) (own_b p1 q2) ((63 : Int32) - (f_lnlz (own_b p1 q2))) (((2 : Int64) <<< (((63 : Int32) - (f_lnlz (own_b p1 q2))) &&& 0x3f).toInt64) - (own_b p1 q2))) = (own_exp_tff p1 q2 q3 q4)))).2) ?_
    show Steps p.tables e below (T14.setTop (mkF m 142 #[.val (.int p1), .val (.long q2), .second, .val (.long q3), .second, .val (.long q4), .second, .val (.int (own_k p1)), .val (.long (((1 : Int64) <<< ((own_k p1) &&& 0x3f).toInt64) - (1 : Int64))), .second, .val (.long (own_b p1 q2)), .second, .val (.long (own_r p1 q2 q3)), .second, .val (.long (own_bound p1 q2 q3)), .second, .val (.long (own_q p1 q2 q3 q4)), .second, .val (.long (own_gap p1 q2 q3 q4)), .second, .val (.long (1 : Int64)), .second, .val (.long (own_exp_tff p1 q2 q3 q4)), .second, .val (.ref b3)] [])) _
    refine XS.iconst X14.here hx rfl (hb hby at_142) ?_
    show Steps p.tables e below (T14.setTop (mkF m 143 #[.val (.int p1), .val (.long q2), .second, .val (.long q3), .second, .val (.long q4), .second, .val (.int (own_k p1)), .val (.long (((1 : Int64) <<< ((own_k p1) &&& 0x3f).toInt64) - (1 : Int64))), .second, .val (.long (own_b p1 q2)), .second, .val (.long (own_r p1 q2 q3)), .second, .val (.long (own_bound p1 q2 q3)), .second, .val (.long (own_q p1 q2 q3 q4)), .second, .val (.long (own_gap p1 q2 q3 q4)), .second, .val (.long (1 : Int64)), .second, .val (.long (own_exp_tff p1 q2 q3 q4)), .second, .val (.ref b3)] [(.int (1 : Int32))])) _
    refine XS.goto X14.here hx rfl (pc0 := 143) (pc' := 147) rfl (hb hby at_143) (by decide) (by decide) ?_
    show Steps p.tables e below (T14.setTop (mkF m 147 #[.val (.int p1), .val (.long q2), .second, .val (.long q3), .second, .val (.long q4), .second, .val (.int (own_k p1)), .val (.long (((1 : Int64) <<< ((own_k p1) &&& 0x3f).toInt64) - (1 : Int64))), .second, .val (.long (own_b p1 q2)), .second, .val (.long (own_r p1 q2 q3)), .second, .val (.long (own_bound p1 q2 q3)), .second, .val (.long (own_q p1 q2 q3 q4)), .second, .val (.long (own_gap p1 q2 q3 q4)), .second, .val (.long (1 : Int64)), .second, .val (.long (own_exp_tff p1 q2 q3 q4)), .second, .val (.ref b3)] [(.int (1 : Int32))])) _
    exact retN X14 hx (t := .boolean) Bd.returns (by simp) (hb hby at_147) hr
  · show Q_law Z p1 q2 q3 q4 h0 n0 _ T14.heap _
    rw [e14]
    exact ⟨rfl, N15⟩
def Road_ftf (p1 : Int32) (q2 : Int64) (q3 : Int64) (q4 : Int64) : Prop := (¬ ((own_b_ftf p1 q2) = (0 : Int64))) ∧ ((own_k p1) = (61 : Int32)) ∧ (((own_r_ftf p1 q2 q3) + (own_b_ftf p1 q2)) < ((2 : Int64) <<< ((own_k p1) &&& 0x3f).toInt64)) ∧ ((f_length (own_gap_ftf p1 q2 q3 q4) (own_b_ftf p1 q2) ((63 : Int32) - (f_lnlz (own_b_ftf p1 q2))) (((2 : Int64) <<< (((63 : Int32) - (f_lnlz (own_b_ftf p1 q2))) &&& 0x3f).toInt64) - (own_b_ftf p1 q2))) = (own_exp_ftf p1 q2 q3 q4))
set_option maxRecDepth 65536 in
set_option maxHeartbeats 40000000 in
theorem rm_law_ftf (l : Launch) (Z : State) (a0 : Array Value) (hw : ∀ d ∈ tables_1, d.before a0 Z = true) (ws : List Jvm.Cond) (p1 : Int32) (q2 : Int64) (q3 : Int64) (q4 : Int64) (h0 : Heap) (n0 : Nat) (Z0 : n0 ≤ h0.size) (hroad : Road_ftf p1 q2 q3 q4) :
    MetFree l x (head1 (Jvm.Cond.code x code maxLocals ret :: ws) room_1) (fun a U => a = #[(.int p1), (.long q2), (.long q3), (.long q4)] ∧ Z.Warmed39 U.vm ∧ U.heap = h0) (fun _ _ _ _ _ => True) (fun _ U o U' => ∃ v L, o = .returned v ∧ Q_law Z p1 q2 q3 q4 h0 n0 v U'.heap L ∧ FrameEnd U o U' L room_1.cells room_1.slots) := by
  obtain ⟨hnz0, hc0, hc1, hc2⟩ := hroad
  refine MetFree.of_bodySF (plainFor_of_name pn_com_example_libmaybe_libmaybe_GolombCodeLengthPinLaw) hisR ?_
  intro p e s m args below meth c s₁ Bd hml0 hP hK
  obtain ⟨rfl, hZ, hh⟩ := hP
  have hx := Bd.exec
  have hby := Bd.bytes
  have hml : c.maxLocals = 25 := hml0
  have hown : s.vm.findClass "com/example/libmaybe/libmaybe/GolombCodeLengthPinLaw" = some m.cls := findClass_of_methodNamed Bd.named
  have hnm := (name_of_methodNamed Bd.named Bd.method).1
  have X0 : Stand p l e room_1 s m #[(.int p1), (.long q2), (.long q3), (.long q4)] below meth c s₁ [] 0 0 := Stand.of_body Bd
  have e0 : s₁.heap = h0 := by rw [← hh, Bd.state]; rfl
  have N0 := Fr.nil n0
  have pre0 : ∀ t, Steps p.tables e below (s₁.setTop (mkF m 0 #[.val (.int p1), .val (.long q2), .second, .val (.long q3), .second, .val (.long q4), .second, .unset, .unset, .unset, .unset, .unset, .unset, .unset, .unset, .unset, .unset, .unset, .unset, .unset, .unset, .unset, .unset, .unset, .unset] [])) t → Steps p.tables e below (s₁.setTop (entryFrame m #[(.int p1), (.long q2), (.long q3), (.long q4)] maxLocals)) t := fun t k => castTop (ef_0_IJJJ m p1 q2 q3 q4) k
  obtain ⟨_, _, ⟨T1, L1, k1, n1⟩, -, X1, ⟨Lc1, hQ1, l1, y1, z1⟩, st1⟩ := Jvm.LawKit.callS X0 hx (y := (⟨"java/lang/Math", "min", "(JJ)J"⟩ : MethodName)) hown (mvT hZ (hw _ (List.mem_of_getElem? (i := 2) rfl))) (mvT hZ (hw _ (List.mem_of_getElem? (i := 3) rfl))) (mvT hZ (hw _ (List.mem_of_getElem? (i := 4) rfl))) (mvT hZ (hw _ (List.mem_of_getElem? (i := 5) rfl))) (by decide) (backOf (W := 0) (rm_min l Z a0 hw [] (q4 &&& (9223372036854775807 : Int64)) (own_bound_ftf p1 q2 q3) h0 n0 Z0 ) hZ (hw _ (List.mem_of_getElem? (i := 5) rfl)) (hw _ (List.mem_of_getElem? (i := 4) rfl)) (by decide) (by decide)) (g := (mkF m 68 #[.val (.int p1), .val (.long q2), .second, .val (.long q3), .second, .val (.long q4), .second, .val (.int (own_k p1)), .val (.long (0 : Int64)), .second, .val (.long (own_b_ftf p1 q2)), .second, .val (.long (own_r_ftf p1 q2 q3)), .second, .val (.long (own_bound_ftf p1 q2 q3)), .second, .unset, .unset, .unset, .unset, .unset, .unset, .unset, .unset, .unset] [(.long (own_bound_ftf p1 q2 q3)), (.long (q4 &&& (9223372036854775807 : Int64)))])) rfl (by rw [hml]; rfl) (argsL := [(.long (q4 &&& (9223372036854775807 : Int64))), (.long (own_bound_ftf p1 q2 q3))]) (rest := []) (lenOf pd_2 rfl) rfl (by show 2 * 0 + _ ≤ _; exact Nat.le_of_eq rfl) (hb hby at_68) (fun _ _ => ⟨rfl, e0, (by decide : 0 + 0 ≤ _), (by decide : 0 + 0 ≤ _)⟩)
  dsimp only [Pt.U, Pt.locs, Pt.cells, Pt.slots] at X1 l1 y1 z1 st1 hQ1
  subst l1 y1 z1
  obtain ⟨rfl, Nq1, e1⟩ := hQ1
  have N2 := Fr.app N0 Nq1
  obtain ⟨T3, h3, X3, e3, E3, A3, D3, -, st3⟩ := newO X1 hx hZ hown (hw _ (List.mem_of_getElem? (i := 7) rfl)) (hw _ (List.mem_of_getElem? (i := 8) rfl)) (hw _ (List.mem_of_getElem? (i := 9) rfl)) e1 (g := (mkF m 118 #[.val (.int p1), .val (.long q2), .second, .val (.long q3), .second, .val (.long q4), .second, .val (.int (own_k p1)), .val (.long (0 : Int64)), .second, .val (.long (own_b_ftf p1 q2)), .second, .val (.long (own_r_ftf p1 q2 q3)), .second, .val (.long (own_bound_ftf p1 q2 q3)), .second, .val (.long (own_q_ftf p1 q2 q3 q4)), .second, .val (.long (own_gap_ftf p1 q2 q3 q4)), .second, .val (.long (0 : Int64)), .second, .val (.long (own_exp_ftf p1 q2 q3 q4)), .second, .unset] [])) rfl (hb hby at_118) (by decide) (by decide)
  obtain ⟨b3, g3⟩ : ∃ z, z = h0.size := ⟨_, rfl⟩
  rw [← g3] at A3 D3 st3
  have g_b3 : n0 ≤ b3 := Nat.le_trans Z0 (Nat.le_of_eq g3.symm)
  have Zs4 : n0 ≤ h3.size := Nat.le_trans Z0 E3.1
  have f5 : Fld Z h3 b3 "com/example/libmaybe/libmaybe/GolombCode" "parameter" "J" (.long (0 : Int64)) := D3 (Or.inr (hw _ (List.mem_of_getElem? (i := 17) rfl))) (ty := .long) (by decide)
  have f6 : Fld Z h3 b3 "com/example/libmaybe/libmaybe/GolombCode" "shortBits" "I" (.int (0 : Int32)) := D3 (Or.inr (hw _ (List.mem_of_getElem? (i := 28) rfl))) (ty := .int) (by decide)
  have f7 : Fld Z h3 b3 "com/example/libmaybe/libmaybe/GolombCode" "shortCount" "J" (.long (0 : Int64)) := D3 (Or.inr (hw _ (List.mem_of_getElem? (i := 31) rfl))) (ty := .long) (by decide)
  obtain ⟨_, _, ⟨T8, L8, k8, n8⟩, -, X8, ⟨Lc8, hQ8, l8, y8, z8⟩, st8⟩ := X3.specialBack hx (y := (⟨"com/example/libmaybe/libmaybe/GolombCode", "<init>", "(J)V"⟩ : MethodName)) rfl hown (mvT hZ (hw _ (List.mem_of_getElem? (i := 10) rfl))) (mvT hZ (hw _ (List.mem_of_getElem? (i := 11) rfl))) (mvT hZ (hw _ (List.mem_of_getElem? (i := 12) rfl))) (by decide) (backOf (W := 1) (rm_init l Z a0 hw [] b3 (own_b_ftf p1 q2) h3 n0 Zs4 A3 f5 g_b3 f6 f7) hZ (hw _ (List.mem_of_getElem? (i := 12) rfl)) (hw _ (List.mem_of_getElem? (i := 9) rfl)) (by decide) (by decide)) (g := (mkF m 124 #[.val (.int p1), .val (.long q2), .second, .val (.long q3), .second, .val (.long q4), .second, .val (.int (own_k p1)), .val (.long (0 : Int64)), .second, .val (.long (own_b_ftf p1 q2)), .second, .val (.long (own_r_ftf p1 q2 q3)), .second, .val (.long (own_bound_ftf p1 q2 q3)), .second, .val (.long (own_q_ftf p1 q2 q3 q4)), .second, .val (.long (own_gap_ftf p1 q2 q3 q4)), .second, .val (.long (0 : Int64)), .second, .val (.long (own_exp_ftf p1 q2 q3 q4)), .second, .unset] [(.long (own_b_ftf p1 q2)), (.ref b3), (.ref b3)])) rfl (by rw [hml]; rfl) (Steps.refl _) (a := b3) (argsL := [(.long (own_b_ftf p1 q2))]) (rest := [(.ref b3)]) (lenOf pd_3 rfl) rfl (by show 2 * 0 + _ ≤ _; exact Nat.le_of_eq rfl) (hb hby at_124) (fun _ _ => ⟨rfl, e3, (by decide : 1 + 0 ≤ _), (by decide : 3 + 0 ≤ _)⟩)
  dsimp only [Pt.U, Pt.locs, Pt.cells, Pt.slots] at X8 l8 y8 z8 st8 hQ8
  subst l8 y8 z8
  obtain ⟨rfl, Nq8, Kc8, fq8_0, fq8_1, fq8_2, fq8_3⟩ := hQ8
  have f10 : Fld Z T8.heap b3 "com/example/libmaybe/libmaybe/GolombCode" "parameter" "J" (.long (own_b_ftf p1 q2)) := fq8_1
  have f11 : Fld Z T8.heap b3 "com/example/libmaybe/libmaybe/GolombCode" "shortBits" "I" (.int ((63 : Int32) - (f_lnlz (own_b_ftf p1 q2)))) := fq8_2
  have f12 : Fld Z T8.heap b3 "com/example/libmaybe/libmaybe/GolombCode" "shortCount" "J" (.long (((2 : Int64) <<< (((63 : Int32) - (f_lnlz (own_b_ftf p1 q2))) &&& 0x3f).toInt64) - (own_b_ftf p1 q2))) := fq8_3
  have Zs13 : n0 ≤ T8.heap.size := Nat.le_trans Zs4 Kc8.1
  have N9 := Fr.app N2 Nq8
  obtain ⟨cq14, kq14, q14a, q14b, q14c⟩ := isOf hZ rfl fq8_0
  obtain ⟨_, _, ⟨T14, L14, k14, n14⟩, -, X14, ⟨Lc14, hQ14, l14, y14, z14⟩, st14⟩ := X8.virtualBack hx (y := (⟨"com/example/libmaybe/libmaybe/GolombCode", "length", "(J)J"⟩ : MethodName)) (z := (⟨"com/example/libmaybe/libmaybe/GolombCode", "length", "(J)J"⟩ : MethodName)) hown (mvT hZ (hw _ (List.mem_of_getElem? (i := 32) rfl))) (mvT hZ (hw _ (List.mem_of_getElem? (i := 33) rfl))) (notFace_of_selects (args := #[]) (mvT hZ (hw _ (List.mem_of_getElem? (i := 35) rfl)))) (mvT hZ (hw _ (List.mem_of_getElem? (i := 35) rfl))) (mvT hZ (hw _ (List.mem_of_getElem? (i := 34) rfl))) (by decide) (backOf (W := 0) (rm_length l Z a0 hw [] b3 (own_gap_ftf p1 q2 q3 q4) (own_b_ftf p1 q2) ((63 : Int32) - (f_lnlz (own_b_ftf p1 q2))) (((2 : Int64) <<< (((63 : Int32) - (f_lnlz (own_b_ftf p1 q2))) &&& 0x3f).toInt64) - (own_b_ftf p1 q2)) T8.heap n0 Zs13 f10 f11 f12 hnz0) hZ (hw _ (List.mem_of_getElem? (i := 36) rfl)) (hw _ (List.mem_of_getElem? (i := 9) rfl)) (by decide) (by decide)) q14a q14c (g := (mkF m 133 #[.val (.int p1), .val (.long q2), .second, .val (.long q3), .second, .val (.long q4), .second, .val (.int (own_k p1)), .val (.long (0 : Int64)), .second, .val (.long (own_b_ftf p1 q2)), .second, .val (.long (own_r_ftf p1 q2 q3)), .second, .val (.long (own_bound_ftf p1 q2 q3)), .second, .val (.long (own_q_ftf p1 q2 q3 q4)), .second, .val (.long (own_gap_ftf p1 q2 q3 q4)), .second, .val (.long (0 : Int64)), .second, .val (.long (own_exp_ftf p1 q2 q3 q4)), .second, .val (.ref b3)] [(.long (own_gap_ftf p1 q2 q3 q4)), (.ref b3)])) rfl (by rw [hml]; rfl) (Steps.refl _) (argsL := [(.long (own_gap_ftf p1 q2 q3 q4))]) (rest := []) (lenOf pd_4 rfl) rfl (by show 2 * 0 + _ ≤ _; exact Nat.le_of_eq rfl) (hb hby at_133) (fun _ _ => ⟨rfl, rfl, (by decide : 1 + 0 ≤ _), (by decide : 3 + 0 ≤ _)⟩)
  dsimp only [Pt.U, Pt.locs, Pt.cells, Pt.slots] at X14 l14 y14 z14 st14 hQ14
  subst l14 y14 z14
  obtain ⟨rfl, Nq14, e14⟩ := hQ14
  have N15 := Fr.app N9 Nq14
  obtain ⟨fs, hr, hrun, hended, hW, hsame⟩ := X14.leave (v := some (.int (1 : Int32))) (fun h => by rw [Bd.returns] at h; cases h) Bd.notSynchronized
  refine ⟨_, _, pre0 _ ?_, hrun, hended, _, _, rfl, ?_, ⟨_, rfl⟩, hW, hsame.mono (by decide) (by decide)⟩
  · show Steps p.tables e below (s₁.setTop (mkF m 0 #[.val (.int p1), .val (.long q2), .second, .val (.long q3), .second, .val (.long q4), .second, .unset, .unset, .unset, .unset, .unset, .unset, .unset, .unset, .unset, .unset, .unset, .unset, .unset, .unset, .unset, .unset, .unset, .unset] [])) _
    refine XS.iloadN X0.here hx rfl (hb hby at_0) rfl ?_
    show Steps p.tables e below (s₁.setTop (mkF m 1 #[.val (.int p1), .val (.long q2), .second, .val (.long q3), .second, .val (.long q4), .second, .unset, .unset, .unset, .unset, .unset, .unset, .unset, .unset, .unset, .unset, .unset, .unset, .unset, .unset, .unset, .unset, .unset, .unset] [(.int p1)])) _
    refine X0.ldcInt hx hown (mvT hZ (hw _ (List.mem_of_getElem? (i := 0) rfl))) (g := (mkF m 1 #[.val (.int p1), .val (.long q2), .second, .val (.long q3), .second, .val (.long q4), .second, .unset, .unset, .unset, .unset, .unset, .unset, .unset, .unset, .unset, .unset, .unset, .unset, .unset, .unset, .unset, .unset, .unset, .unset] [(.int p1)])) rfl (hb hby at_1) _ ?_
    show Steps p.tables e below (s₁.setTop (mkF m 3 #[.val (.int p1), .val (.long q2), .second, .val (.long q3), .second, .val (.long q4), .second, .unset, .unset, .unset, .unset, .unset, .unset, .unset, .unset, .unset, .unset, .unset, .unset, .unset, .unset, .unset, .unset, .unset, .unset] [(.int (2147483647 : Int32)), (.int p1)])) _
    refine XS.iand X0.here hx rfl (hb hby at_3) rfl ?_
    show Steps p.tables e below (s₁.setTop (mkF m 4 #[.val (.int p1), .val (.long q2), .second, .val (.long q3), .second, .val (.long q4), .second, .unset, .unset, .unset, .unset, .unset, .unset, .unset, .unset, .unset, .unset, .unset, .unset, .unset, .unset, .unset, .unset, .unset, .unset] [(.int (p1 &&& (2147483647 : Int32)))])) _
    refine XS.bipush X0.here hx rfl (hb hby at_4) ?_
    show Steps p.tables e below (s₁.setTop (mkF m 6 #[.val (.int p1), .val (.long q2), .second, .val (.long q3), .second, .val (.long q4), .second, .unset, .unset, .unset, .unset, .unset, .unset, .unset, .unset, .unset, .unset, .unset, .unset, .unset, .unset, .unset, .unset, .unset, .unset] [(.int (62 : Int32)), (.int (p1 &&& (2147483647 : Int32)))])) _
    refine iremM X0 hx rfl (hb hby at_6) rfl (by decide) ?_
    show Steps p.tables e below (s₁.setTop (mkF m 7 #[.val (.int p1), .val (.long q2), .second, .val (.long q3), .second, .val (.long q4), .second, .unset, .unset, .unset, .unset, .unset, .unset, .unset, .unset, .unset, .unset, .unset, .unset, .unset, .unset, .unset, .unset, .unset, .unset] [(.int ((p1 &&& (2147483647 : Int32)) % (62 : Int32)))])) _
    refine XS.istore X0.here hx rfl (hb hby at_7) rfl (l' := #[.val (.int p1), .val (.long q2), .second, .val (.long q3), .second, .val (.long q4), .second, .val (.int (own_k p1)), .unset, .unset, .unset, .unset, .unset, .unset, .unset, .unset, .unset, .unset, .unset, .unset, .unset, .unset, .unset, .unset, .unset]) rfl ?_
    show Steps p.tables e below (s₁.setTop (mkF m 9 #[.val (.int p1), .val (.long q2), .second, .val (.long q3), .second, .val (.long q4), .second, .val (.int (own_k p1)), .unset, .unset, .unset, .unset, .unset, .unset, .unset, .unset, .unset, .unset, .unset, .unset, .unset, .unset, .unset, .unset, .unset] [])) _
    refine XS.iload X0.here hx rfl (hb hby at_9) rfl ?_
    show Steps p.tables e below (s₁.setTop (mkF m 11 #[.val (.int p1), .val (.long q2), .second, .val (.long q3), .second, .val (.long q4), .second, .val (.int (own_k p1)), .unset, .unset, .unset, .unset, .unset, .unset, .unset, .unset, .unset, .unset, .unset, .unset, .unset, .unset, .unset, .unset, .unset] [(.int (own_k p1))])) _
    refine XS.bipush X0.here hx rfl (hb hby at_11) ?_
    show Steps p.tables e below (s₁.setTop (mkF m 13 #[.val (.int p1), .val (.long q2), .second, .val (.long q3), .second, .val (.long q4), .second, .val (.int (own_k p1)), .unset, .unset, .unset, .unset, .unset, .unset, .unset, .unset, .unset, .unset, .unset, .unset, .unset, .unset, .unset, .unset, .unset] [(.int (61 : Int32)), (.int (own_k p1))])) _
    refine XS.icmpNo X0.here hx rfl (hb hby at_13) rfl (teq hc0).2 ?_
    show Steps p.tables e below (s₁.setTop (mkF m 16 #[.val (.int p1), .val (.long q2), .second, .val (.long q3), .second, .val (.long q4), .second, .val (.int (own_k p1)), .unset, .unset, .unset, .unset, .unset, .unset, .unset, .unset, .unset, .unset, .unset, .unset, .unset, .unset, .unset, .unset, .unset] [])) _
    refine XS.lconst X0.here hx rfl (hb hby at_16) ?_
    show Steps p.tables e below (s₁.setTop (mkF m 17 #[.val (.int p1), .val (.long q2), .second, .val (.long q3), .second, .val (.long q4), .second, .val (.int (own_k p1)), .unset, .unset, .unset, .unset, .unset, .unset, .unset, .unset, .unset, .unset, .unset, .unset, .unset, .unset, .unset, .unset, .unset] [(.long (0 : Int64))])) _
    refine XS.goto X0.here hx rfl (pc0 := 17) (pc' := 26) rfl (hb hby at_17) (by decide) (by decide) ?_
    show Steps p.tables e below (s₁.setTop (mkF m 26 #[.val (.int p1), .val (.long q2), .second, .val (.long q3), .second, .val (.long q4), .second, .val (.int (own_k p1)), .unset, .unset, .unset, .unset, .unset, .unset, .unset, .unset, .unset, .unset, .unset, .unset, .unset, .unset, .unset, .unset, .unset] [(.long (0 : Int64))])) _
    refine XS.lstore X0.here hx rfl (hb hby at_26) rfl (l' := #[.val (.int p1), .val (.long q2), .second, .val (.long q3), .second, .val (.long q4), .second, .val (.int (own_k p1)), .val (.long (0 : Int64)), .second, .unset, .unset, .unset, .unset, .unset, .unset, .unset, .unset, .unset, .unset, .unset, .unset, .unset, .unset, .unset]) rfl ?_
    show Steps p.tables e below (s₁.setTop (mkF m 28 #[.val (.int p1), .val (.long q2), .second, .val (.long q3), .second, .val (.long q4), .second, .val (.int (own_k p1)), .val (.long (0 : Int64)), .second, .unset, .unset, .unset, .unset, .unset, .unset, .unset, .unset, .unset, .unset, .unset, .unset, .unset, .unset, .unset] [])) _
    refine XS.lconst X0.here hx rfl (hb hby at_28) ?_
    show Steps p.tables e below (s₁.setTop (mkF m 29 #[.val (.int p1), .val (.long q2), .second, .val (.long q3), .second, .val (.long q4), .second, .val (.int (own_k p1)), .val (.long (0 : Int64)), .second, .unset, .unset, .unset, .unset, .unset, .unset, .unset, .unset, .unset, .unset, .unset, .unset, .unset, .unset, .unset] [(.long (1 : Int64))])) _
    refine XS.iload X0.here hx rfl (hb hby at_29) rfl ?_
    show Steps p.tables e below (s₁.setTop (mkF m 31 #[.val (.int p1), .val (.long q2), .second, .val (.long q3), .second, .val (.long q4), .second, .val (.int (own_k p1)), .val (.long (0 : Int64)), .second, .unset, .unset, .unset, .unset, .unset, .unset, .unset, .unset, .unset, .unset, .unset, .unset, .unset, .unset, .unset] [(.int (own_k p1)), (.long (1 : Int64))])) _
    refine XS.lshl X0.here hx rfl (hb hby at_31) rfl ?_
    show Steps p.tables e below (s₁.setTop (mkF m 32 #[.val (.int p1), .val (.long q2), .second, .val (.long q3), .second, .val (.long q4), .second, .val (.int (own_k p1)), .val (.long (0 : Int64)), .second, .unset, .unset, .unset, .unset, .unset, .unset, .unset, .unset, .unset, .unset, .unset, .unset, .unset, .unset, .unset] [(.long ((1 : Int64) <<< ((own_k p1) &&& 0x3f).toInt64))])) _
    refine XS.lloadN X0.here hx rfl (hb hby at_32) rfl ?_
    show Steps p.tables e below (s₁.setTop (mkF m 33 #[.val (.int p1), .val (.long q2), .second, .val (.long q3), .second, .val (.long q4), .second, .val (.int (own_k p1)), .val (.long (0 : Int64)), .second, .unset, .unset, .unset, .unset, .unset, .unset, .unset, .unset, .unset, .unset, .unset, .unset, .unset, .unset, .unset] [(.long q2), (.long ((1 : Int64) <<< ((own_k p1) &&& 0x3f).toInt64))])) _
    refine XS.lload X0.here hx rfl (hb hby at_33) rfl ?_
    show Steps p.tables e below (s₁.setTop (mkF m 35 #[.val (.int p1), .val (.long q2), .second, .val (.long q3), .second, .val (.long q4), .second, .val (.int (own_k p1)), .val (.long (0 : Int64)), .second, .unset, .unset, .unset, .unset, .unset, .unset, .unset, .unset, .unset, .unset, .unset, .unset, .unset, .unset, .unset] [(.long (0 : Int64)), (.long q2), (.long ((1 : Int64) <<< ((own_k p1) &&& 0x3f).toInt64))])) _
    refine XS.land X0.here hx rfl (hb hby at_35) rfl ?_
    show Steps p.tables e below (s₁.setTop (mkF m 36 #[.val (.int p1), .val (.long q2), .second, .val (.long q3), .second, .val (.long q4), .second, .val (.int (own_k p1)), .val (.long (0 : Int64)), .second, .unset, .unset, .unset, .unset, .unset, .unset, .unset, .unset, .unset, .unset, .unset, .unset, .unset, .unset, .unset] [(.long (q2 &&& (0 : Int64))), (.long ((1 : Int64) <<< ((own_k p1) &&& 0x3f).toInt64))])) _
    refine XS.lor X0.here hx rfl (hb hby at_36) rfl ?_
    show Steps p.tables e below (s₁.setTop (mkF m 37 #[.val (.int p1), .val (.long q2), .second, .val (.long q3), .second, .val (.long q4), .second, .val (.int (own_k p1)), .val (.long (0 : Int64)), .second, .unset, .unset, .unset, .unset, .unset, .unset, .unset, .unset, .unset, .unset, .unset, .unset, .unset, .unset, .unset] [(.long (((1 : Int64) <<< ((own_k p1) &&& 0x3f).toInt64) ||| (q2 &&& (0 : Int64))))])) _
    refine XS.lstore X0.here hx rfl (hb hby at_37) rfl (l' := #[.val (.int p1), .val (.long q2), .second, .val (.long q3), .second, .val (.long q4), .second, .val (.int (own_k p1)), .val (.long (0 : Int64)), .second, .val (.long (own_b_ftf p1 q2)), .second, .unset, .unset, .unset, .unset, .unset, .unset, .unset, .unset, .unset, .unset, .unset, .unset, .unset]) rfl ?_
    show Steps p.tables e below (s₁.setTop (mkF m 39 #[.val (.int p1), .val (.long q2), .second, .val (.long q3), .second, .val (.long q4), .second, .val (.int (own_k p1)), .val (.long (0 : Int64)), .second, .val (.long (own_b_ftf p1 q2)), .second, .unset, .unset, .unset, .unset, .unset, .unset, .unset, .unset, .unset, .unset, .unset, .unset, .unset] [])) _
    refine XS.lloadN X0.here hx rfl (hb hby at_39) rfl ?_
    show Steps p.tables e below (s₁.setTop (mkF m 40 #[.val (.int p1), .val (.long q2), .second, .val (.long q3), .second, .val (.long q4), .second, .val (.int (own_k p1)), .val (.long (0 : Int64)), .second, .val (.long (own_b_ftf p1 q2)), .second, .unset, .unset, .unset, .unset, .unset, .unset, .unset, .unset, .unset, .unset, .unset, .unset, .unset] [(.long q3)])) _
    refine X0.ldc2Long hx hown (mvT hZ (hw _ (List.mem_of_getElem? (i := 1) rfl))) (g := (mkF m 40 #[.val (.int p1), .val (.long q2), .second, .val (.long q3), .second, .val (.long q4), .second, .val (.int (own_k p1)), .val (.long (0 : Int64)), .second, .val (.long (own_b_ftf p1 q2)), .second, .unset, .unset, .unset, .unset, .unset, .unset, .unset, .unset, .unset, .unset, .unset, .unset, .unset] [(.long q3)])) rfl (hb hby at_40) _ ?_
    show Steps p.tables e below (s₁.setTop (mkF m 43 #[.val (.int p1), .val (.long q2), .second, .val (.long q3), .second, .val (.long q4), .second, .val (.int (own_k p1)), .val (.long (0 : Int64)), .second, .val (.long (own_b_ftf p1 q2)), .second, .unset, .unset, .unset, .unset, .unset, .unset, .unset, .unset, .unset, .unset, .unset, .unset, .unset] [(.long (9223372036854775807 : Int64)), (.long q3)])) _
    refine XS.land X0.here hx rfl (hb hby at_43) rfl ?_
    show Steps p.tables e below (s₁.setTop (mkF m 44 #[.val (.int p1), .val (.long q2), .second, .val (.long q3), .second, .val (.long q4), .second, .val (.int (own_k p1)), .val (.long (0 : Int64)), .second, .val (.long (own_b_ftf p1 q2)), .second, .unset, .unset, .unset, .unset, .unset, .unset, .unset, .unset, .unset, .unset, .unset, .unset, .unset] [(.long (q3 &&& (9223372036854775807 : Int64)))])) _
    refine XS.lload X0.here hx rfl (hb hby at_44) rfl ?_
    show Steps p.tables e below (s₁.setTop (mkF m 46 #[.val (.int p1), .val (.long q2), .second, .val (.long q3), .second, .val (.long q4), .second, .val (.int (own_k p1)), .val (.long (0 : Int64)), .second, .val (.long (own_b_ftf p1 q2)), .second, .unset, .unset, .unset, .unset, .unset, .unset, .unset, .unset, .unset, .unset, .unset, .unset, .unset] [(.long (own_b_ftf p1 q2)), (.long (q3 &&& (9223372036854775807 : Int64)))])) _
    refine XS.lrem X0.here hx rfl (hb hby at_46) rfl hnz0 ?_
    rw [lrem_mod]
    show Steps p.tables e below (s₁.setTop (mkF m 47 #[.val (.int p1), .val (.long q2), .second, .val (.long q3), .second, .val (.long q4), .second, .val (.int (own_k p1)), .val (.long (0 : Int64)), .second, .val (.long (own_b_ftf p1 q2)), .second, .unset, .unset, .unset, .unset, .unset, .unset, .unset, .unset, .unset, .unset, .unset, .unset, .unset] [(.long ((q3 &&& (9223372036854775807 : Int64)) % (own_b_ftf p1 q2)))])) _
    refine XS.lstore X0.here hx rfl (hb hby at_47) rfl (l' := #[.val (.int p1), .val (.long q2), .second, .val (.long q3), .second, .val (.long q4), .second, .val (.int (own_k p1)), .val (.long (0 : Int64)), .second, .val (.long (own_b_ftf p1 q2)), .second, .val (.long (own_r_ftf p1 q2 q3)), .second, .unset, .unset, .unset, .unset, .unset, .unset, .unset, .unset, .unset, .unset, .unset]) rfl ?_
    show Steps p.tables e below (s₁.setTop (mkF m 49 #[.val (.int p1), .val (.long q2), .second, .val (.long q3), .second, .val (.long q4), .second, .val (.int (own_k p1)), .val (.long (0 : Int64)), .second, .val (.long (own_b_ftf p1 q2)), .second, .val (.long (own_r_ftf p1 q2 q3)), .second, .unset, .unset, .unset, .unset, .unset, .unset, .unset, .unset, .unset, .unset, .unset] [])) _
    refine X0.ldc2Long hx hown (mvT hZ (hw _ (List.mem_of_getElem? (i := 1) rfl))) (g := (mkF m 49 #[.val (.int p1), .val (.long q2), .second, .val (.long q3), .second, .val (.long q4), .second, .val (.int (own_k p1)), .val (.long (0 : Int64)), .second, .val (.long (own_b_ftf p1 q2)), .second, .val (.long (own_r_ftf p1 q2 q3)), .second, .unset, .unset, .unset, .unset, .unset, .unset, .unset, .unset, .unset, .unset, .unset] [])) rfl (hb hby at_49) _ ?_
    show Steps p.tables e below (s₁.setTop (mkF m 52 #[.val (.int p1), .val (.long q2), .second, .val (.long q3), .second, .val (.long q4), .second, .val (.int (own_k p1)), .val (.long (0 : Int64)), .second, .val (.long (own_b_ftf p1 q2)), .second, .val (.long (own_r_ftf p1 q2 q3)), .second, .unset, .unset, .unset, .unset, .unset, .unset, .unset, .unset, .unset, .unset, .unset] [(.long (9223372036854775807 : Int64))])) _
    refine XS.lload X0.here hx rfl (hb hby at_52) rfl ?_
    show Steps p.tables e below (s₁.setTop (mkF m 54 #[.val (.int p1), .val (.long q2), .second, .val (.long q3), .second, .val (.long q4), .second, .val (.int (own_k p1)), .val (.long (0 : Int64)), .second, .val (.long (own_b_ftf p1 q2)), .second, .val (.long (own_r_ftf p1 q2 q3)), .second, .unset, .unset, .unset, .unset, .unset, .unset, .unset, .unset, .unset, .unset, .unset] [(.long (own_r_ftf p1 q2 q3)), (.long (9223372036854775807 : Int64))])) _
    refine XS.lsub X0.here hx rfl (hb hby at_54) rfl ?_
    show Steps p.tables e below (s₁.setTop (mkF m 55 #[.val (.int p1), .val (.long q2), .second, .val (.long q3), .second, .val (.long q4), .second, .val (.int (own_k p1)), .val (.long (0 : Int64)), .second, .val (.long (own_b_ftf p1 q2)), .second, .val (.long (own_r_ftf p1 q2 q3)), .second, .unset, .unset, .unset, .unset, .unset, .unset, .unset, .unset, .unset, .unset, .unset] [(.long ((9223372036854775807 : Int64) - (own_r_ftf p1 q2 q3)))])) _
    refine XS.lload X0.here hx rfl (hb hby at_55) rfl ?_
    show Steps p.tables e below (s₁.setTop (mkF m 57 #[.val (.int p1), .val (.long q2), .second, .val (.long q3), .second, .val (.long q4), .second, .val (.int (own_k p1)), .val (.long (0 : Int64)), .second, .val (.long (own_b_ftf p1 q2)), .second, .val (.long (own_r_ftf p1 q2 q3)), .second, .unset, .unset, .unset, .unset, .unset, .unset, .unset, .unset, .unset, .unset, .unset] [(.long (own_b_ftf p1 q2)), (.long ((9223372036854775807 : Int64) - (own_r_ftf p1 q2 q3)))])) _
    refine XS.ldiv X0.here hx rfl (hb hby at_57) rfl hnz0 ?_
    show Steps p.tables e below (s₁.setTop (mkF m 58 #[.val (.int p1), .val (.long q2), .second, .val (.long q3), .second, .val (.long q4), .second, .val (.int (own_k p1)), .val (.long (0 : Int64)), .second, .val (.long (own_b_ftf p1 q2)), .second, .val (.long (own_r_ftf p1 q2 q3)), .second, .unset, .unset, .unset, .unset, .unset, .unset, .unset, .unset, .unset, .unset, .unset] [(.long (((9223372036854775807 : Int64) - (own_r_ftf p1 q2 q3)) / (own_b_ftf p1 q2)))])) _
    refine XS.lstore X0.here hx rfl (hb hby at_58) rfl (l' := #[.val (.int p1), .val (.long q2), .second, .val (.long q3), .second, .val (.long q4), .second, .val (.int (own_k p1)), .val (.long (0 : Int64)), .second, .val (.long (own_b_ftf p1 q2)), .second, .val (.long (own_r_ftf p1 q2 q3)), .second, .val (.long (own_bound_ftf p1 q2 q3)), .second, .unset, .unset, .unset, .unset, .unset, .unset, .unset, .unset, .unset]) rfl ?_
    show Steps p.tables e below (s₁.setTop (mkF m 60 #[.val (.int p1), .val (.long q2), .second, .val (.long q3), .second, .val (.long q4), .second, .val (.int (own_k p1)), .val (.long (0 : Int64)), .second, .val (.long (own_b_ftf p1 q2)), .second, .val (.long (own_r_ftf p1 q2 q3)), .second, .val (.long (own_bound_ftf p1 q2 q3)), .second, .unset, .unset, .unset, .unset, .unset, .unset, .unset, .unset, .unset] [])) _
    refine XS.lload X0.here hx rfl (hb hby at_60) rfl ?_
    show Steps p.tables e below (s₁.setTop (mkF m 62 #[.val (.int p1), .val (.long q2), .second, .val (.long q3), .second, .val (.long q4), .second, .val (.int (own_k p1)), .val (.long (0 : Int64)), .second, .val (.long (own_b_ftf p1 q2)), .second, .val (.long (own_r_ftf p1 q2 q3)), .second, .val (.long (own_bound_ftf p1 q2 q3)), .second, .unset, .unset, .unset, .unset, .unset, .unset, .unset, .unset, .unset] [(.long q4)])) _
    refine X0.ldc2Long hx hown (mvT hZ (hw _ (List.mem_of_getElem? (i := 1) rfl))) (g := (mkF m 62 #[.val (.int p1), .val (.long q2), .second, .val (.long q3), .second, .val (.long q4), .second, .val (.int (own_k p1)), .val (.long (0 : Int64)), .second, .val (.long (own_b_ftf p1 q2)), .second, .val (.long (own_r_ftf p1 q2 q3)), .second, .val (.long (own_bound_ftf p1 q2 q3)), .second, .unset, .unset, .unset, .unset, .unset, .unset, .unset, .unset, .unset] [(.long q4)])) rfl (hb hby at_62) _ ?_
    show Steps p.tables e below (s₁.setTop (mkF m 65 #[.val (.int p1), .val (.long q2), .second, .val (.long q3), .second, .val (.long q4), .second, .val (.int (own_k p1)), .val (.long (0 : Int64)), .second, .val (.long (own_b_ftf p1 q2)), .second, .val (.long (own_r_ftf p1 q2 q3)), .second, .val (.long (own_bound_ftf p1 q2 q3)), .second, .unset, .unset, .unset, .unset, .unset, .unset, .unset, .unset, .unset] [(.long (9223372036854775807 : Int64)), (.long q4)])) _
    refine XS.land X0.here hx rfl (hb hby at_65) rfl ?_
    show Steps p.tables e below (s₁.setTop (mkF m 66 #[.val (.int p1), .val (.long q2), .second, .val (.long q3), .second, .val (.long q4), .second, .val (.int (own_k p1)), .val (.long (0 : Int64)), .second, .val (.long (own_b_ftf p1 q2)), .second, .val (.long (own_r_ftf p1 q2 q3)), .second, .val (.long (own_bound_ftf p1 q2 q3)), .second, .unset, .unset, .unset, .unset, .unset, .unset, .unset, .unset, .unset] [(.long (q4 &&& (9223372036854775807 : Int64)))])) _
    refine XS.lload X0.here hx rfl (hb hby at_66) rfl ?_
    show Steps p.tables e below (s₁.setTop (mkF m 68 #[.val (.int p1), .val (.long q2), .second, .val (.long q3), .second, .val (.long q4), .second, .val (.int (own_k p1)), .val (.long (0 : Int64)), .second, .val (.long (own_b_ftf p1 q2)), .second, .val (.long (own_r_ftf p1 q2 q3)), .second, .val (.long (own_bound_ftf p1 q2 q3)), .second, .unset, .unset, .unset, .unset, .unset, .unset, .unset, .unset, .unset] [(.long (own_bound_ftf p1 q2 q3)), (.long (q4 &&& (9223372036854775807 : Int64)))])) _
    refine st1 _ ?_
    show Steps p.tables e below (T1.setTop (mkF m 71 #[.val (.int p1), .val (.long q2), .second, .val (.long q3), .second, .val (.long q4), .second, .val (.int (own_k p1)), .val (.long (0 : Int64)), .second, .val (.long (own_b_ftf p1 q2)), .second, .val (.long (own_r_ftf p1 q2 q3)), .second, .val (.long (own_bound_ftf p1 q2 q3)), .second, .unset, .unset, .unset, .unset, .unset, .unset, .unset, .unset, .unset] [(.long (f_min (q4 &&& (9223372036854775807 : Int64)) (own_bound_ftf p1 q2 q3)))])) _
    refine XS.lstore X1.here hx rfl (hb hby at_71) rfl (l' := #[.val (.int p1), .val (.long q2), .second, .val (.long q3), .second, .val (.long q4), .second, .val (.int (own_k p1)), .val (.long (0 : Int64)), .second, .val (.long (own_b_ftf p1 q2)), .second, .val (.long (own_r_ftf p1 q2 q3)), .second, .val (.long (own_bound_ftf p1 q2 q3)), .second, .val (.long (own_q_ftf p1 q2 q3 q4)), .second, .unset, .unset, .unset, .unset, .unset, .unset, .unset]) rfl ?_
    show Steps p.tables e below (T1.setTop (mkF m 73 #[.val (.int p1), .val (.long q2), .second, .val (.long q3), .second, .val (.long q4), .second, .val (.int (own_k p1)), .val (.long (0 : Int64)), .second, .val (.long (own_b_ftf p1 q2)), .second, .val (.long (own_r_ftf p1 q2 q3)), .second, .val (.long (own_bound_ftf p1 q2 q3)), .second, .val (.long (own_q_ftf p1 q2 q3 q4)), .second, .unset, .unset, .unset, .unset, .unset, .unset, .unset] [])) _
    refine XS.lload X1.here hx rfl (hb hby at_73) rfl ?_
    show Steps p.tables e below (T1.setTop (mkF m 75 #[.val (.int p1), .val (.long q2), .second, .val (.long q3), .second, .val (.long q4), .second, .val (.int (own_k p1)), .val (.long (0 : Int64)), .second, .val (.long (own_b_ftf p1 q2)), .second, .val (.long (own_r_ftf p1 q2 q3)), .second, .val (.long (own_bound_ftf p1 q2 q3)), .second, .val (.long (own_q_ftf p1 q2 q3 q4)), .second, .unset, .unset, .unset, .unset, .unset, .unset, .unset] [(.long (own_q_ftf p1 q2 q3 q4))])) _
    refine XS.lload X1.here hx rfl (hb hby at_75) rfl ?_
    show Steps p.tables e below (T1.setTop (mkF m 77 #[.val (.int p1), .val (.long q2), .second, .val (.long q3), .second, .val (.long q4), .second, .val (.int (own_k p1)), .val (.long (0 : Int64)), .second, .val (.long (own_b_ftf p1 q2)), .second, .val (.long (own_r_ftf p1 q2 q3)), .second, .val (.long (own_bound_ftf p1 q2 q3)), .second, .val (.long (own_q_ftf p1 q2 q3 q4)), .second, .unset, .unset, .unset, .unset, .unset, .unset, .unset] [(.long (own_b_ftf p1 q2)), (.long (own_q_ftf p1 q2 q3 q4))])) _
    refine XS.lmul X1.here hx rfl (hb hby at_77) rfl ?_
    show Steps p.tables e below (T1.setTop (mkF m 78 #[.val (.int p1), .val (.long q2), .second, .val (.long q3), .second, .val (.long q4), .second, .val (.int (own_k p1)), .val (.long (0 : Int64)), .second, .val (.long (own_b_ftf p1 q2)), .second, .val (.long (own_r_ftf p1 q2 q3)), .second, .val (.long (own_bound_ftf p1 q2 q3)), .second, .val (.long (own_q_ftf p1 q2 q3 q4)), .second, .unset, .unset, .unset, .unset, .unset, .unset, .unset] [(.long ((own_q_ftf p1 q2 q3 q4) * (own_b_ftf p1 q2)))])) _
    refine XS.lload X1.here hx rfl (hb hby at_78) rfl ?_
    show Steps p.tables e below (T1.setTop (mkF m 80 #[.val (.int p1), .val (.long q2), .second, .val (.long q3), .second, .val (.long q4), .second, .val (.int (own_k p1)), .val (.long (0 : Int64)), .second, .val (.long (own_b_ftf p1 q2)), .second, .val (.long (own_r_ftf p1 q2 q3)), .second, .val (.long (own_bound_ftf p1 q2 q3)), .second, .val (.long (own_q_ftf p1 q2 q3 q4)), .second, .unset, .unset, .unset, .unset, .unset, .unset, .unset] [(.long (own_r_ftf p1 q2 q3)), (.long ((own_q_ftf p1 q2 q3 q4) * (own_b_ftf p1 q2)))])) _
    refine XS.ladd X1.here hx rfl (hb hby at_80) rfl ?_
    show Steps p.tables e below (T1.setTop (mkF m 81 #[.val (.int p1), .val (.long q2), .second, .val (.long q3), .second, .val (.long q4), .second, .val (.int (own_k p1)), .val (.long (0 : Int64)), .second, .val (.long (own_b_ftf p1 q2)), .second, .val (.long (own_r_ftf p1 q2 q3)), .second, .val (.long (own_bound_ftf p1 q2 q3)), .second, .val (.long (own_q_ftf p1 q2 q3 q4)), .second, .unset, .unset, .unset, .unset, .unset, .unset, .unset] [(.long (((own_q_ftf p1 q2 q3 q4) * (own_b_ftf p1 q2)) + (own_r_ftf p1 q2 q3)))])) _
    refine XS.lstore X1.here hx rfl (hb hby at_81) rfl (l' := #[.val (.int p1), .val (.long q2), .second, .val (.long q3), .second, .val (.long q4), .second, .val (.int (own_k p1)), .val (.long (0 : Int64)), .second, .val (.long (own_b_ftf p1 q2)), .second, .val (.long (own_r_ftf p1 q2 q3)), .second, .val (.long (own_bound_ftf p1 q2 q3)), .second, .val (.long (own_q_ftf p1 q2 q3 q4)), .second, .val (.long (own_gap_ftf p1 q2 q3 q4)), .second, .unset, .unset, .unset, .unset, .unset]) rfl ?_
    show Steps p.tables e below (T1.setTop (mkF m 83 #[.val (.int p1), .val (.long q2), .second, .val (.long q3), .second, .val (.long q4), .second, .val (.int (own_k p1)), .val (.long (0 : Int64)), .second, .val (.long (own_b_ftf p1 q2)), .second, .val (.long (own_r_ftf p1 q2 q3)), .second, .val (.long (own_bound_ftf p1 q2 q3)), .second, .val (.long (own_q_ftf p1 q2 q3 q4)), .second, .val (.long (own_gap_ftf p1 q2 q3 q4)), .second, .unset, .unset, .unset, .unset, .unset] [])) _
    refine XS.lload X1.here hx rfl (hb hby at_83) rfl ?_
    show Steps p.tables e below (T1.setTop (mkF m 85 #[.val (.int p1), .val (.long q2), .second, .val (.long q3), .second, .val (.long q4), .second, .val (.int (own_k p1)), .val (.long (0 : Int64)), .second, .val (.long (own_b_ftf p1 q2)), .second, .val (.long (own_r_ftf p1 q2 q3)), .second, .val (.long (own_bound_ftf p1 q2 q3)), .second, .val (.long (own_q_ftf p1 q2 q3 q4)), .second, .val (.long (own_gap_ftf p1 q2 q3 q4)), .second, .unset, .unset, .unset, .unset, .unset] [(.long (own_r_ftf p1 q2 q3))])) _
    refine XS.lload X1.here hx rfl (hb hby at_85) rfl ?_
    show Steps p.tables e below (T1.setTop (mkF m 87 #[.val (.int p1), .val (.long q2), .second, .val (.long q3), .second, .val (.long q4), .second, .val (.int (own_k p1)), .val (.long (0 : Int64)), .second, .val (.long (own_b_ftf p1 q2)), .second, .val (.long (own_r_ftf p1 q2 q3)), .second, .val (.long (own_bound_ftf p1 q2 q3)), .second, .val (.long (own_q_ftf p1 q2 q3 q4)), .second, .val (.long (own_gap_ftf p1 q2 q3 q4)), .second, .unset, .unset, .unset, .unset, .unset] [(.long (own_b_ftf p1 q2)), (.long (own_r_ftf p1 q2 q3))])) _
    refine XS.ladd X1.here hx rfl (hb hby at_87) rfl ?_
    show Steps p.tables e below (T1.setTop (mkF m 88 #[.val (.int p1), .val (.long q2), .second, .val (.long q3), .second, .val (.long q4), .second, .val (.int (own_k p1)), .val (.long (0 : Int64)), .second, .val (.long (own_b_ftf p1 q2)), .second, .val (.long (own_r_ftf p1 q2 q3)), .second, .val (.long (own_bound_ftf p1 q2 q3)), .second, .val (.long (own_q_ftf p1 q2 q3 q4)), .second, .val (.long (own_gap_ftf p1 q2 q3 q4)), .second, .unset, .unset, .unset, .unset, .unset] [(.long ((own_r_ftf p1 q2 q3) + (own_b_ftf p1 q2)))])) _
    refine X1.ldc2Long hx hown (mvT hZ (hw _ (List.mem_of_getElem? (i := 6) rfl))) (g := (mkF m 88 #[.val (.int p1), .val (.long q2), .second, .val (.long q3), .second, .val (.long q4), .second, .val (.int (own_k p1)), .val (.long (0 : Int64)), .second, .val (.long (own_b_ftf p1 q2)), .second, .val (.long (own_r_ftf p1 q2 q3)), .second, .val (.long (own_bound_ftf p1 q2 q3)), .second, .val (.long (own_q_ftf p1 q2 q3 q4)), .second, .val (.long (own_gap_ftf p1 q2 q3 q4)), .second, .unset, .unset, .unset, .unset, .unset] [(.long ((own_r_ftf p1 q2 q3) + (own_b_ftf p1 q2)))])) rfl (hb hby at_88) _ ?_
    show Steps p.tables e below (T1.setTop (mkF m 91 #[.val (.int p1), .val (.long q2), .second, .val (.long q3), .second, .val (.long q4), .second, .val (.int (own_k p1)), .val (.long (0 : Int64)), .second, .val (.long (own_b_ftf p1 q2)), .second, .val (.long (own_r_ftf p1 q2 q3)), .second, .val (.long (own_bound_ftf p1 q2 q3)), .second, .val (.long (own_q_ftf p1 q2 q3 q4)), .second, .val (.long (own_gap_ftf p1 q2 q3 q4)), .second, .unset, .unset, .unset, .unset, .unset] [(.long (2 : Int64)), (.long ((own_r_ftf p1 q2 q3) + (own_b_ftf p1 q2)))])) _
    refine XS.iload X1.here hx rfl (hb hby at_91) rfl ?_
    show Steps p.tables e below (T1.setTop (mkF m 93 #[.val (.int p1), .val (.long q2), .second, .val (.long q3), .second, .val (.long q4), .second, .val (.int (own_k p1)), .val (.long (0 : Int64)), .second, .val (.long (own_b_ftf p1 q2)), .second, .val (.long (own_r_ftf p1 q2 q3)), .second, .val (.long (own_bound_ftf p1 q2 q3)), .second, .val (.long (own_q_ftf p1 q2 q3 q4)), .second, .val (.long (own_gap_ftf p1 q2 q3 q4)), .second, .unset, .unset, .unset, .unset, .unset] [(.int (own_k p1)), (.long (2 : Int64)), (.long ((own_r_ftf p1 q2 q3) + (own_b_ftf p1 q2)))])) _
    refine XS.lshl X1.here hx rfl (hb hby at_93) rfl ?_
    show Steps p.tables e below (T1.setTop (mkF m 94 #[.val (.int p1), .val (.long q2), .second, .val (.long q3), .second, .val (.long q4), .second, .val (.int (own_k p1)), .val (.long (0 : Int64)), .second, .val (.long (own_b_ftf p1 q2)), .second, .val (.long (own_r_ftf p1 q2 q3)), .second, .val (.long (own_bound_ftf p1 q2 q3)), .second, .val (.long (own_q_ftf p1 q2 q3 q4)), .second, .val (.long (own_gap_ftf p1 q2 q3 q4)), .second, .unset, .unset, .unset, .unset, .unset] [(.long ((2 : Int64) <<< ((own_k p1) &&& 0x3f).toInt64)), (.long ((own_r_ftf p1 q2 q3) + (own_b_ftf p1 q2)))])) _
    refine XS.lcmp X1.here hx rfl (hb hby at_94) rfl ?_
    show Steps p.tables e below (T1.setTop (mkF m 95 #[.val (.int p1), .val (.long q2), .second, .val (.long q3), .second, .val (.long q4), .second, .val (.int (own_k p1)), .val (.long (0 : Int64)), .second, .val (.long (own_b_ftf p1 q2)), .second, .val (.long (own_r_ftf p1 q2 q3)), .second, .val (.long (own_bound_ftf p1 q2 q3)), .second, .val (.long (own_q_ftf p1 q2 q3 q4)), .second, .val (.long (own_gap_ftf p1 q2 q3 q4)), .second, .unset, .unset, .unset, .unset, .unset] [(.int (lcmpW ((own_r_ftf p1 q2 q3) + (own_b_ftf p1 q2)) ((2 : Int64) <<< ((own_k p1) &&& 0x3f).toInt64)))])) _
    refine XS.ifYes X1.here hx rfl (pc0 := 95) (pc' := 102) rfl (hb hby at_95) rfl ((if0 _ _).trans (tlt ((lw_lt _ _).mpr (hc1 : ((own_r_ftf p1 q2 q3) + (own_b_ftf p1 q2)) < ((2 : Int64) <<< ((own_k p1) &&& 0x3f).toInt64)))).1) (by decide) (by decide) ?_
    show Steps p.tables e below (T1.setTop (mkF m 102 #[.val (.int p1), .val (.long q2), .second, .val (.long q3), .second, .val (.long q4), .second, .val (.int (own_k p1)), .val (.long (0 : Int64)), .second, .val (.long (own_b_ftf p1 q2)), .second, .val (.long (own_r_ftf p1 q2 q3)), .second, .val (.long (own_bound_ftf p1 q2 q3)), .second, .val (.long (own_q_ftf p1 q2 q3 q4)), .second, .val (.long (own_gap_ftf p1 q2 q3 q4)), .second, .unset, .unset, .unset, .unset, .unset] [])) _
    refine XS.lconst X1.here hx rfl (hb hby at_102) ?_
    show Steps p.tables e below (T1.setTop (mkF m 103 #[.val (.int p1), .val (.long q2), .second, .val (.long q3), .second, .val (.long q4), .second, .val (.int (own_k p1)), .val (.long (0 : Int64)), .second, .val (.long (own_b_ftf p1 q2)), .second, .val (.long (own_r_ftf p1 q2 q3)), .second, .val (.long (own_bound_ftf p1 q2 q3)), .second, .val (.long (own_q_ftf p1 q2 q3 q4)), .second, .val (.long (own_gap_ftf p1 q2 q3 q4)), .second, .unset, .unset, .unset, .unset, .unset] [(.long (0 : Int64))])) _
    refine XS.lstore X1.here hx rfl (hb hby at_103) rfl (l' := #[.val (.int p1), .val (.long q2), .second, .val (.long q3), .second, .val (.long q4), .second, .val (.int (own_k p1)), .val (.long (0 : Int64)), .second, .val (.long (own_b_ftf p1 q2)), .second, .val (.long (own_r_ftf p1 q2 q3)), .second, .val (.long (own_bound_ftf p1 q2 q3)), .second, .val (.long (own_q_ftf p1 q2 q3 q4)), .second, .val (.long (own_gap_ftf p1 q2 q3 q4)), .second, .val (.long (0 : Int64)), .second, .unset, .unset, .unset]) rfl ?_
    show Steps p.tables e below (T1.setTop (mkF m 105 #[.val (.int p1), .val (.long q2), .second, .val (.long q3), .second, .val (.long q4), .second, .val (.int (own_k p1)), .val (.long (0 : Int64)), .second, .val (.long (own_b_ftf p1 q2)), .second, .val (.long (own_r_ftf p1 q2 q3)), .second, .val (.long (own_bound_ftf p1 q2 q3)), .second, .val (.long (own_q_ftf p1 q2 q3 q4)), .second, .val (.long (own_gap_ftf p1 q2 q3 q4)), .second, .val (.long (0 : Int64)), .second, .unset, .unset, .unset] [])) _
    refine XS.lload X1.here hx rfl (hb hby at_105) rfl ?_
    show Steps p.tables e below (T1.setTop (mkF m 107 #[.val (.int p1), .val (.long q2), .second, .val (.long q3), .second, .val (.long q4), .second, .val (.int (own_k p1)), .val (.long (0 : Int64)), .second, .val (.long (own_b_ftf p1 q2)), .second, .val (.long (own_r_ftf p1 q2 q3)), .second, .val (.long (own_bound_ftf p1 q2 q3)), .second, .val (.long (own_q_ftf p1 q2 q3 q4)), .second, .val (.long (own_gap_ftf p1 q2 q3 q4)), .second, .val (.long (0 : Int64)), .second, .unset, .unset, .unset] [(.long (own_q_ftf p1 q2 q3 q4))])) _
    refine XS.lconst X1.here hx rfl (hb hby at_107) ?_
    show Steps p.tables e below (T1.setTop (mkF m 108 #[.val (.int p1), .val (.long q2), .second, .val (.long q3), .second, .val (.long q4), .second, .val (.int (own_k p1)), .val (.long (0 : Int64)), .second, .val (.long (own_b_ftf p1 q2)), .second, .val (.long (own_r_ftf p1 q2 q3)), .second, .val (.long (own_bound_ftf p1 q2 q3)), .second, .val (.long (own_q_ftf p1 q2 q3 q4)), .second, .val (.long (own_gap_ftf p1 q2 q3 q4)), .second, .val (.long (0 : Int64)), .second, .unset, .unset, .unset] [(.long (1 : Int64)), (.long (own_q_ftf p1 q2 q3 q4))])) _
    refine XS.ladd X1.here hx rfl (hb hby at_108) rfl ?_
    show Steps p.tables e below (T1.setTop (mkF m 109 #[.val (.int p1), .val (.long q2), .second, .val (.long q3), .second, .val (.long q4), .second, .val (.int (own_k p1)), .val (.long (0 : Int64)), .second, .val (.long (own_b_ftf p1 q2)), .second, .val (.long (own_r_ftf p1 q2 q3)), .second, .val (.long (own_bound_ftf p1 q2 q3)), .second, .val (.long (own_q_ftf p1 q2 q3 q4)), .second, .val (.long (own_gap_ftf p1 q2 q3 q4)), .second, .val (.long (0 : Int64)), .second, .unset, .unset, .unset] [(.long ((own_q_ftf p1 q2 q3 q4) + (1 : Int64)))])) _
    refine XS.iload X1.here hx rfl (hb hby at_109) rfl ?_
    show Steps p.tables e below (T1.setTop (mkF m 111 #[.val (.int p1), .val (.long q2), .second, .val (.long q3), .second, .val (.long q4), .second, .val (.int (own_k p1)), .val (.long (0 : Int64)), .second, .val (.long (own_b_ftf p1 q2)), .second, .val (.long (own_r_ftf p1 q2 q3)), .second, .val (.long (own_bound_ftf p1 q2 q3)), .second, .val (.long (own_q_ftf p1 q2 q3 q4)), .second, .val (.long (own_gap_ftf p1 q2 q3 q4)), .second, .val (.long (0 : Int64)), .second, .unset, .unset, .unset] [(.int (own_k p1)), (.long ((own_q_ftf p1 q2 q3 q4) + (1 : Int64)))])) _
    refine XS.i2l X1.here hx rfl (hb hby at_111) rfl ?_
    show Steps p.tables e below (T1.setTop (mkF m 112 #[.val (.int p1), .val (.long q2), .second, .val (.long q3), .second, .val (.long q4), .second, .val (.int (own_k p1)), .val (.long (0 : Int64)), .second, .val (.long (own_b_ftf p1 q2)), .second, .val (.long (own_r_ftf p1 q2 q3)), .second, .val (.long (own_bound_ftf p1 q2 q3)), .second, .val (.long (own_q_ftf p1 q2 q3 q4)), .second, .val (.long (own_gap_ftf p1 q2 q3 q4)), .second, .val (.long (0 : Int64)), .second, .unset, .unset, .unset] [(.long ((own_k p1).toInt64)), (.long ((own_q_ftf p1 q2 q3 q4) + (1 : Int64)))])) _
    refine XS.ladd X1.here hx rfl (hb hby at_112) rfl ?_
    show Steps p.tables e below (T1.setTop (mkF m 113 #[.val (.int p1), .val (.long q2), .second, .val (.long q3), .second, .val (.long q4), .second, .val (.int (own_k p1)), .val (.long (0 : Int64)), .second, .val (.long (own_b_ftf p1 q2)), .second, .val (.long (own_r_ftf p1 q2 q3)), .second, .val (.long (own_bound_ftf p1 q2 q3)), .second, .val (.long (own_q_ftf p1 q2 q3 q4)), .second, .val (.long (own_gap_ftf p1 q2 q3 q4)), .second, .val (.long (0 : Int64)), .second, .unset, .unset, .unset] [(.long (((own_q_ftf p1 q2 q3 q4) + (1 : Int64)) + ((own_k p1).toInt64)))])) _
    refine XS.lload X1.here hx rfl (hb hby at_113) rfl ?_
    show Steps p.tables e below (T1.setTop (mkF m 115 #[.val (.int p1), .val (.long q2), .second, .val (.long q3), .second, .val (.long q4), .second, .val (.int (own_k p1)), .val (.long (0 : Int64)), .second, .val (.long (own_b_ftf p1 q2)), .second, .val (.long (own_r_ftf p1 q2 q3)), .second, .val (.long (own_bound_ftf p1 q2 q3)), .second, .val (.long (own_q_ftf p1 q2 q3 q4)), .second, .val (.long (own_gap_ftf p1 q2 q3 q4)), .second, .val (.long (0 : Int64)), .second, .unset, .unset, .unset] [(.long (0 : Int64)), (.long (((own_q_ftf p1 q2 q3 q4) + (1 : Int64)) + ((own_k p1).toInt64)))])) _
    refine XS.ladd X1.here hx rfl (hb hby at_115) rfl ?_
    show Steps p.tables e below (T1.setTop (mkF m 116 #[.val (.int p1), .val (.long q2), .second, .val (.long q3), .second, .val (.long q4), .second, .val (.int (own_k p1)), .val (.long (0 : Int64)), .second, .val (.long (own_b_ftf p1 q2)), .second, .val (.long (own_r_ftf p1 q2 q3)), .second, .val (.long (own_bound_ftf p1 q2 q3)), .second, .val (.long (own_q_ftf p1 q2 q3 q4)), .second, .val (.long (own_gap_ftf p1 q2 q3 q4)), .second, .val (.long (0 : Int64)), .second, .unset, .unset, .unset] [(.long ((((own_q_ftf p1 q2 q3 q4) + (1 : Int64)) + ((own_k p1).toInt64)) + (0 : Int64)))])) _
    refine XS.lstore X1.here hx rfl (hb hby at_116) rfl (l' := #[.val (.int p1), .val (.long q2), .second, .val (.long q3), .second, .val (.long q4), .second, .val (.int (own_k p1)), .val (.long (0 : Int64)), .second, .val (.long (own_b_ftf p1 q2)), .second, .val (.long (own_r_ftf p1 q2 q3)), .second, .val (.long (own_bound_ftf p1 q2 q3)), .second, .val (.long (own_q_ftf p1 q2 q3 q4)), .second, .val (.long (own_gap_ftf p1 q2 q3 q4)), .second, .val (.long (0 : Int64)), .second, .val (.long (own_exp_ftf p1 q2 q3 q4)), .second, .unset]) rfl ?_
    show Steps p.tables e below (T1.setTop (mkF m 118 #[.val (.int p1), .val (.long q2), .second, .val (.long q3), .second, .val (.long q4), .second, .val (.int (own_k p1)), .val (.long (0 : Int64)), .second, .val (.long (own_b_ftf p1 q2)), .second, .val (.long (own_r_ftf p1 q2 q3)), .second, .val (.long (own_bound_ftf p1 q2 q3)), .second, .val (.long (own_q_ftf p1 q2 q3 q4)), .second, .val (.long (own_gap_ftf p1 q2 q3 q4)), .second, .val (.long (0 : Int64)), .second, .val (.long (own_exp_ftf p1 q2 q3 q4)), .second, .unset] [])) _
    refine st3 _ ?_
    show Steps p.tables e below (T3.setTop (mkF m 121 #[.val (.int p1), .val (.long q2), .second, .val (.long q3), .second, .val (.long q4), .second, .val (.int (own_k p1)), .val (.long (0 : Int64)), .second, .val (.long (own_b_ftf p1 q2)), .second, .val (.long (own_r_ftf p1 q2 q3)), .second, .val (.long (own_bound_ftf p1 q2 q3)), .second, .val (.long (own_q_ftf p1 q2 q3 q4)), .second, .val (.long (own_gap_ftf p1 q2 q3 q4)), .second, .val (.long (0 : Int64)), .second, .val (.long (own_exp_ftf p1 q2 q3 q4)), .second, .unset] [(.ref b3)])) _
    refine XS.dup X3.here hx rfl (hb hby at_121) rfl rfl ?_
    show Steps p.tables e below (T3.setTop (mkF m 122 #[.val (.int p1), .val (.long q2), .second, .val (.long q3), .second, .val (.long q4), .second, .val (.int (own_k p1)), .val (.long (0 : Int64)), .second, .val (.long (own_b_ftf p1 q2)), .second, .val (.long (own_r_ftf p1 q2 q3)), .second, .val (.long (own_bound_ftf p1 q2 q3)), .second, .val (.long (own_q_ftf p1 q2 q3 q4)), .second, .val (.long (own_gap_ftf p1 q2 q3 q4)), .second, .val (.long (0 : Int64)), .second, .val (.long (own_exp_ftf p1 q2 q3 q4)), .second, .unset] [(.ref b3), (.ref b3)])) _
    refine XS.lload X3.here hx rfl (hb hby at_122) rfl ?_
    show Steps p.tables e below (T3.setTop (mkF m 124 #[.val (.int p1), .val (.long q2), .second, .val (.long q3), .second, .val (.long q4), .second, .val (.int (own_k p1)), .val (.long (0 : Int64)), .second, .val (.long (own_b_ftf p1 q2)), .second, .val (.long (own_r_ftf p1 q2 q3)), .second, .val (.long (own_bound_ftf p1 q2 q3)), .second, .val (.long (own_q_ftf p1 q2 q3 q4)), .second, .val (.long (own_gap_ftf p1 q2 q3 q4)), .second, .val (.long (0 : Int64)), .second, .val (.long (own_exp_ftf p1 q2 q3 q4)), .second, .unset] [(.long (own_b_ftf p1 q2)), (.ref b3), (.ref b3)])) _
    refine st8.trans ?_
    show Steps p.tables e below (T8.setTop (mkF m 127 #[.val (.int p1), .val (.long q2), .second, .val (.long q3), .second, .val (.long q4), .second, .val (.int (own_k p1)), .val (.long (0 : Int64)), .second, .val (.long (own_b_ftf p1 q2)), .second, .val (.long (own_r_ftf p1 q2 q3)), .second, .val (.long (own_bound_ftf p1 q2 q3)), .second, .val (.long (own_q_ftf p1 q2 q3 q4)), .second, .val (.long (own_gap_ftf p1 q2 q3 q4)), .second, .val (.long (0 : Int64)), .second, .val (.long (own_exp_ftf p1 q2 q3 q4)), .second, .unset] [(.ref b3)])) _
    refine XS.astore X8.here hx rfl (hb hby at_127) rfl rfl (l' := #[.val (.int p1), .val (.long q2), .second, .val (.long q3), .second, .val (.long q4), .second, .val (.int (own_k p1)), .val (.long (0 : Int64)), .second, .val (.long (own_b_ftf p1 q2)), .second, .val (.long (own_r_ftf p1 q2 q3)), .second, .val (.long (own_bound_ftf p1 q2 q3)), .second, .val (.long (own_q_ftf p1 q2 q3 q4)), .second, .val (.long (own_gap_ftf p1 q2 q3 q4)), .second, .val (.long (0 : Int64)), .second, .val (.long (own_exp_ftf p1 q2 q3 q4)), .second, .val (.ref b3)]) rfl ?_
    show Steps p.tables e below (T8.setTop (mkF m 129 #[.val (.int p1), .val (.long q2), .second, .val (.long q3), .second, .val (.long q4), .second, .val (.int (own_k p1)), .val (.long (0 : Int64)), .second, .val (.long (own_b_ftf p1 q2)), .second, .val (.long (own_r_ftf p1 q2 q3)), .second, .val (.long (own_bound_ftf p1 q2 q3)), .second, .val (.long (own_q_ftf p1 q2 q3 q4)), .second, .val (.long (own_gap_ftf p1 q2 q3 q4)), .second, .val (.long (0 : Int64)), .second, .val (.long (own_exp_ftf p1 q2 q3 q4)), .second, .val (.ref b3)] [])) _
    refine XS.aload X8.here hx rfl (hb hby at_129) rfl rfl ?_
    show Steps p.tables e below (T8.setTop (mkF m 131 #[.val (.int p1), .val (.long q2), .second, .val (.long q3), .second, .val (.long q4), .second, .val (.int (own_k p1)), .val (.long (0 : Int64)), .second, .val (.long (own_b_ftf p1 q2)), .second, .val (.long (own_r_ftf p1 q2 q3)), .second, .val (.long (own_bound_ftf p1 q2 q3)), .second, .val (.long (own_q_ftf p1 q2 q3 q4)), .second, .val (.long (own_gap_ftf p1 q2 q3 q4)), .second, .val (.long (0 : Int64)), .second, .val (.long (own_exp_ftf p1 q2 q3 q4)), .second, .val (.ref b3)] [(.ref b3)])) _
    refine XS.lload X8.here hx rfl (hb hby at_131) rfl ?_
    show Steps p.tables e below (T8.setTop (mkF m 133 #[.val (.int p1), .val (.long q2), .second, .val (.long q3), .second, .val (.long q4), .second, .val (.int (own_k p1)), .val (.long (0 : Int64)), .second, .val (.long (own_b_ftf p1 q2)), .second, .val (.long (own_r_ftf p1 q2 q3)), .second, .val (.long (own_bound_ftf p1 q2 q3)), .second, .val (.long (own_q_ftf p1 q2 q3 q4)), .second, .val (.long (own_gap_ftf p1 q2 q3 q4)), .second, .val (.long (0 : Int64)), .second, .val (.long (own_exp_ftf p1 q2 q3 q4)), .second, .val (.ref b3)] [(.long (own_gap_ftf p1 q2 q3 q4)), (.ref b3)])) _
    refine st14.trans ?_
    show Steps p.tables e below (T14.setTop (mkF m 136 #[.val (.int p1), .val (.long q2), .second, .val (.long q3), .second, .val (.long q4), .second, .val (.int (own_k p1)), .val (.long (0 : Int64)), .second, .val (.long (own_b_ftf p1 q2)), .second, .val (.long (own_r_ftf p1 q2 q3)), .second, .val (.long (own_bound_ftf p1 q2 q3)), .second, .val (.long (own_q_ftf p1 q2 q3 q4)), .second, .val (.long (own_gap_ftf p1 q2 q3 q4)), .second, .val (.long (0 : Int64)), .second, .val (.long (own_exp_ftf p1 q2 q3 q4)), .second, .val (.ref b3)] [(.long (f_length (own_gap_ftf p1 q2 q3 q4) (own_b_ftf p1 q2) ((63 : Int32) - (f_lnlz (own_b_ftf p1 q2))) (((2 : Int64) <<< (((63 : Int32) - (f_lnlz (own_b_ftf p1 q2))) &&& 0x3f).toInt64) - (own_b_ftf p1 q2))))])) _
    refine XS.lload X14.here hx rfl (hb hby at_136) rfl ?_
    show Steps p.tables e below (T14.setTop (mkF m 138 #[.val (.int p1), .val (.long q2), .second, .val (.long q3), .second, .val (.long q4), .second, .val (.int (own_k p1)), .val (.long (0 : Int64)), .second, .val (.long (own_b_ftf p1 q2)), .second, .val (.long (own_r_ftf p1 q2 q3)), .second, .val (.long (own_bound_ftf p1 q2 q3)), .second, .val (.long (own_q_ftf p1 q2 q3 q4)), .second, .val (.long (own_gap_ftf p1 q2 q3 q4)), .second, .val (.long (0 : Int64)), .second, .val (.long (own_exp_ftf p1 q2 q3 q4)), .second, .val (.ref b3)] [(.long (own_exp_ftf p1 q2 q3 q4)), (.long (f_length (own_gap_ftf p1 q2 q3 q4) (own_b_ftf p1 q2) ((63 : Int32) - (f_lnlz (own_b_ftf p1 q2))) (((2 : Int64) <<< (((63 : Int32) - (f_lnlz (own_b_ftf p1 q2))) &&& 0x3f).toInt64) - (own_b_ftf p1 q2))))])) _
    refine XS.lcmp X14.here hx rfl (hb hby at_138) rfl ?_
    show Steps p.tables e below (T14.setTop (mkF m 139 #[.val (.int p1), .val (.long q2), .second, .val (.long q3), .second, .val (.long q4), .second, .val (.int (own_k p1)), .val (.long (0 : Int64)), .second, .val (.long (own_b_ftf p1 q2)), .second, .val (.long (own_r_ftf p1 q2 q3)), .second, .val (.long (own_bound_ftf p1 q2 q3)), .second, .val (.long (own_q_ftf p1 q2 q3 q4)), .second, .val (.long (own_gap_ftf p1 q2 q3 q4)), .second, .val (.long (0 : Int64)), .second, .val (.long (own_exp_ftf p1 q2 q3 q4)), .second, .val (.ref b3)] [(.int (lcmpW (f_length (own_gap_ftf p1 q2 q3 q4) (own_b_ftf p1 q2) ((63 : Int32) - (f_lnlz (own_b_ftf p1 q2))) (((2 : Int64) <<< (((63 : Int32) - (f_lnlz (own_b_ftf p1 q2))) &&& 0x3f).toInt64) - (own_b_ftf p1 q2))) (own_exp_ftf p1 q2 q3 q4)))])) _
    refine XS.ifNo X14.here hx rfl (hb hby at_139) rfl ((if0 _ _).trans (teq ((lw_eq _ _).mpr (hc2 : (f_length (own_gap_ftf p1 q2 q3 q4) (own_b_ftf p1 q2) ((63 : Int32) - (f_lnlz (own_b_ftf p1 q2))) (((2 : Int64) <<< (((63 : Int32) - (f_lnlz (own_b_ftf p1 q2))) &&& 0x3f).toInt64) - (own_b_ftf p1 q2))) = (own_exp_ftf p1 q2 q3 q4)))).2) ?_
    show Steps p.tables e below (T14.setTop (mkF m 142 #[.val (.int p1), .val (.long q2), .second, .val (.long q3), .second, .val (.long q4), .second, .val (.int (own_k p1)), .val (.long (0 : Int64)), .second, .val (.long (own_b_ftf p1 q2)), .second, .val (.long (own_r_ftf p1 q2 q3)), .second, .val (.long (own_bound_ftf p1 q2 q3)), .second, .val (.long (own_q_ftf p1 q2 q3 q4)), .second, .val (.long (own_gap_ftf p1 q2 q3 q4)), .second, .val (.long (0 : Int64)), .second, .val (.long (own_exp_ftf p1 q2 q3 q4)), .second, .val (.ref b3)] [])) _
    refine XS.iconst X14.here hx rfl (hb hby at_142) ?_
    show Steps p.tables e below (T14.setTop (mkF m 143 #[.val (.int p1), .val (.long q2), .second, .val (.long q3), .second, .val (.long q4), .second, .val (.int (own_k p1)), .val (.long (0 : Int64)), .second, .val (.long (own_b_ftf p1 q2)), .second, .val (.long (own_r_ftf p1 q2 q3)), .second, .val (.long (own_bound_ftf p1 q2 q3)), .second, .val (.long (own_q_ftf p1 q2 q3 q4)), .second, .val (.long (own_gap_ftf p1 q2 q3 q4)), .second, .val (.long (0 : Int64)), .second, .val (.long (own_exp_ftf p1 q2 q3 q4)), .second, .val (.ref b3)] [(.int (1 : Int32))])) _
    refine XS.goto X14.here hx rfl (pc0 := 143) (pc' := 147) rfl (hb hby at_143) (by decide) (by decide) ?_
    show Steps p.tables e below (T14.setTop (mkF m 147 #[.val (.int p1), .val (.long q2), .second, .val (.long q3), .second, .val (.long q4), .second, .val (.int (own_k p1)), .val (.long (0 : Int64)), .second, .val (.long (own_b_ftf p1 q2)), .second, .val (.long (own_r_ftf p1 q2 q3)), .second, .val (.long (own_bound_ftf p1 q2 q3)), .second, .val (.long (own_q_ftf p1 q2 q3 q4)), .second, .val (.long (own_gap_ftf p1 q2 q3 q4)), .second, .val (.long (0 : Int64)), .second, .val (.long (own_exp_ftf p1 q2 q3 q4)), .second, .val (.ref b3)] [(.int (1 : Int32))])) _
    exact retN X14 hx (t := .boolean) Bd.returns (by simp) (hb hby at_147) hr
  · show Q_law Z p1 q2 q3 q4 h0 n0 _ T14.heap _
    rw [e14]
    exact ⟨rfl, N15⟩
def Road_fff (p1 : Int32) (q2 : Int64) (q3 : Int64) (q4 : Int64) : Prop := (¬ ((own_b_fff p1 q2) = (0 : Int64))) ∧ ((own_k p1) = (61 : Int32)) ∧ (¬ (((own_r_fff p1 q2 q3) + (own_b_fff p1 q2)) < ((2 : Int64) <<< ((own_k p1) &&& 0x3f).toInt64))) ∧ ((f_length (own_gap_fff p1 q2 q3 q4) (own_b_fff p1 q2) ((63 : Int32) - (f_lnlz (own_b_fff p1 q2))) (((2 : Int64) <<< (((63 : Int32) - (f_lnlz (own_b_fff p1 q2))) &&& 0x3f).toInt64) - (own_b_fff p1 q2))) = (own_exp_fff p1 q2 q3 q4))
set_option maxRecDepth 65536 in
set_option maxHeartbeats 40000000 in
theorem rm_law_fff (l : Launch) (Z : State) (a0 : Array Value) (hw : ∀ d ∈ tables_1, d.before a0 Z = true) (ws : List Jvm.Cond) (p1 : Int32) (q2 : Int64) (q3 : Int64) (q4 : Int64) (h0 : Heap) (n0 : Nat) (Z0 : n0 ≤ h0.size) (hroad : Road_fff p1 q2 q3 q4) :
    MetFree l x (head1 (Jvm.Cond.code x code maxLocals ret :: ws) room_1) (fun a U => a = #[(.int p1), (.long q2), (.long q3), (.long q4)] ∧ Z.Warmed39 U.vm ∧ U.heap = h0) (fun _ _ _ _ _ => True) (fun _ U o U' => ∃ v L, o = .returned v ∧ Q_law Z p1 q2 q3 q4 h0 n0 v U'.heap L ∧ FrameEnd U o U' L room_1.cells room_1.slots) := by
  obtain ⟨hnz0, hc0, hc1, hc2⟩ := hroad
  refine MetFree.of_bodySF (plainFor_of_name pn_com_example_libmaybe_libmaybe_GolombCodeLengthPinLaw) hisR ?_
  intro p e s m args below meth c s₁ Bd hml0 hP hK
  obtain ⟨rfl, hZ, hh⟩ := hP
  have hx := Bd.exec
  have hby := Bd.bytes
  have hml : c.maxLocals = 25 := hml0
  have hown : s.vm.findClass "com/example/libmaybe/libmaybe/GolombCodeLengthPinLaw" = some m.cls := findClass_of_methodNamed Bd.named
  have hnm := (name_of_methodNamed Bd.named Bd.method).1
  have X0 : Stand p l e room_1 s m #[(.int p1), (.long q2), (.long q3), (.long q4)] below meth c s₁ [] 0 0 := Stand.of_body Bd
  have e0 : s₁.heap = h0 := by rw [← hh, Bd.state]; rfl
  have N0 := Fr.nil n0
  have pre0 : ∀ t, Steps p.tables e below (s₁.setTop (mkF m 0 #[.val (.int p1), .val (.long q2), .second, .val (.long q3), .second, .val (.long q4), .second, .unset, .unset, .unset, .unset, .unset, .unset, .unset, .unset, .unset, .unset, .unset, .unset, .unset, .unset, .unset, .unset, .unset, .unset] [])) t → Steps p.tables e below (s₁.setTop (entryFrame m #[(.int p1), (.long q2), (.long q3), (.long q4)] maxLocals)) t := fun t k => castTop (ef_0_IJJJ m p1 q2 q3 q4) k
  obtain ⟨_, _, ⟨T1, L1, k1, n1⟩, -, X1, ⟨Lc1, hQ1, l1, y1, z1⟩, st1⟩ := Jvm.LawKit.callS X0 hx (y := (⟨"java/lang/Math", "min", "(JJ)J"⟩ : MethodName)) hown (mvT hZ (hw _ (List.mem_of_getElem? (i := 2) rfl))) (mvT hZ (hw _ (List.mem_of_getElem? (i := 3) rfl))) (mvT hZ (hw _ (List.mem_of_getElem? (i := 4) rfl))) (mvT hZ (hw _ (List.mem_of_getElem? (i := 5) rfl))) (by decide) (backOf (W := 0) (rm_min l Z a0 hw [] (q4 &&& (9223372036854775807 : Int64)) (own_bound_fff p1 q2 q3) h0 n0 Z0 ) hZ (hw _ (List.mem_of_getElem? (i := 5) rfl)) (hw _ (List.mem_of_getElem? (i := 4) rfl)) (by decide) (by decide)) (g := (mkF m 68 #[.val (.int p1), .val (.long q2), .second, .val (.long q3), .second, .val (.long q4), .second, .val (.int (own_k p1)), .val (.long (0 : Int64)), .second, .val (.long (own_b_fff p1 q2)), .second, .val (.long (own_r_fff p1 q2 q3)), .second, .val (.long (own_bound_fff p1 q2 q3)), .second, .unset, .unset, .unset, .unset, .unset, .unset, .unset, .unset, .unset] [(.long (own_bound_fff p1 q2 q3)), (.long (q4 &&& (9223372036854775807 : Int64)))])) rfl (by rw [hml]; rfl) (argsL := [(.long (q4 &&& (9223372036854775807 : Int64))), (.long (own_bound_fff p1 q2 q3))]) (rest := []) (lenOf pd_2 rfl) rfl (by show 2 * 0 + _ ≤ _; exact Nat.le_of_eq rfl) (hb hby at_68) (fun _ _ => ⟨rfl, e0, (by decide : 0 + 0 ≤ _), (by decide : 0 + 0 ≤ _)⟩)
  dsimp only [Pt.U, Pt.locs, Pt.cells, Pt.slots] at X1 l1 y1 z1 st1 hQ1
  subst l1 y1 z1
  obtain ⟨rfl, Nq1, e1⟩ := hQ1
  have N2 := Fr.app N0 Nq1
  obtain ⟨T3, h3, X3, e3, E3, A3, D3, -, st3⟩ := newO X1 hx hZ hown (hw _ (List.mem_of_getElem? (i := 7) rfl)) (hw _ (List.mem_of_getElem? (i := 8) rfl)) (hw _ (List.mem_of_getElem? (i := 9) rfl)) e1 (g := (mkF m 118 #[.val (.int p1), .val (.long q2), .second, .val (.long q3), .second, .val (.long q4), .second, .val (.int (own_k p1)), .val (.long (0 : Int64)), .second, .val (.long (own_b_fff p1 q2)), .second, .val (.long (own_r_fff p1 q2 q3)), .second, .val (.long (own_bound_fff p1 q2 q3)), .second, .val (.long (own_q_fff p1 q2 q3 q4)), .second, .val (.long (own_gap_fff p1 q2 q3 q4)), .second, .val (.long (1 : Int64)), .second, .val (.long (own_exp_fff p1 q2 q3 q4)), .second, .unset] [])) rfl (hb hby at_118) (by decide) (by decide)
  obtain ⟨b3, g3⟩ : ∃ z, z = h0.size := ⟨_, rfl⟩
  rw [← g3] at A3 D3 st3
  have g_b3 : n0 ≤ b3 := Nat.le_trans Z0 (Nat.le_of_eq g3.symm)
  have Zs4 : n0 ≤ h3.size := Nat.le_trans Z0 E3.1
  have f5 : Fld Z h3 b3 "com/example/libmaybe/libmaybe/GolombCode" "parameter" "J" (.long (0 : Int64)) := D3 (Or.inr (hw _ (List.mem_of_getElem? (i := 17) rfl))) (ty := .long) (by decide)
  have f6 : Fld Z h3 b3 "com/example/libmaybe/libmaybe/GolombCode" "shortBits" "I" (.int (0 : Int32)) := D3 (Or.inr (hw _ (List.mem_of_getElem? (i := 28) rfl))) (ty := .int) (by decide)
  have f7 : Fld Z h3 b3 "com/example/libmaybe/libmaybe/GolombCode" "shortCount" "J" (.long (0 : Int64)) := D3 (Or.inr (hw _ (List.mem_of_getElem? (i := 31) rfl))) (ty := .long) (by decide)
  obtain ⟨_, _, ⟨T8, L8, k8, n8⟩, -, X8, ⟨Lc8, hQ8, l8, y8, z8⟩, st8⟩ := X3.specialBack hx (y := (⟨"com/example/libmaybe/libmaybe/GolombCode", "<init>", "(J)V"⟩ : MethodName)) rfl hown (mvT hZ (hw _ (List.mem_of_getElem? (i := 10) rfl))) (mvT hZ (hw _ (List.mem_of_getElem? (i := 11) rfl))) (mvT hZ (hw _ (List.mem_of_getElem? (i := 12) rfl))) (by decide) (backOf (W := 1) (rm_init l Z a0 hw [] b3 (own_b_fff p1 q2) h3 n0 Zs4 A3 f5 g_b3 f6 f7) hZ (hw _ (List.mem_of_getElem? (i := 12) rfl)) (hw _ (List.mem_of_getElem? (i := 9) rfl)) (by decide) (by decide)) (g := (mkF m 124 #[.val (.int p1), .val (.long q2), .second, .val (.long q3), .second, .val (.long q4), .second, .val (.int (own_k p1)), .val (.long (0 : Int64)), .second, .val (.long (own_b_fff p1 q2)), .second, .val (.long (own_r_fff p1 q2 q3)), .second, .val (.long (own_bound_fff p1 q2 q3)), .second, .val (.long (own_q_fff p1 q2 q3 q4)), .second, .val (.long (own_gap_fff p1 q2 q3 q4)), .second, .val (.long (1 : Int64)), .second, .val (.long (own_exp_fff p1 q2 q3 q4)), .second, .unset] [(.long (own_b_fff p1 q2)), (.ref b3), (.ref b3)])) rfl (by rw [hml]; rfl) (Steps.refl _) (a := b3) (argsL := [(.long (own_b_fff p1 q2))]) (rest := [(.ref b3)]) (lenOf pd_3 rfl) rfl (by show 2 * 0 + _ ≤ _; exact Nat.le_of_eq rfl) (hb hby at_124) (fun _ _ => ⟨rfl, e3, (by decide : 1 + 0 ≤ _), (by decide : 3 + 0 ≤ _)⟩)
  dsimp only [Pt.U, Pt.locs, Pt.cells, Pt.slots] at X8 l8 y8 z8 st8 hQ8
  subst l8 y8 z8
  obtain ⟨rfl, Nq8, Kc8, fq8_0, fq8_1, fq8_2, fq8_3⟩ := hQ8
  have f10 : Fld Z T8.heap b3 "com/example/libmaybe/libmaybe/GolombCode" "parameter" "J" (.long (own_b_fff p1 q2)) := fq8_1
  have f11 : Fld Z T8.heap b3 "com/example/libmaybe/libmaybe/GolombCode" "shortBits" "I" (.int ((63 : Int32) - (f_lnlz (own_b_fff p1 q2)))) := fq8_2
  have f12 : Fld Z T8.heap b3 "com/example/libmaybe/libmaybe/GolombCode" "shortCount" "J" (.long (((2 : Int64) <<< (((63 : Int32) - (f_lnlz (own_b_fff p1 q2))) &&& 0x3f).toInt64) - (own_b_fff p1 q2))) := fq8_3
  have Zs13 : n0 ≤ T8.heap.size := Nat.le_trans Zs4 Kc8.1
  have N9 := Fr.app N2 Nq8
  obtain ⟨cq14, kq14, q14a, q14b, q14c⟩ := isOf hZ rfl fq8_0
  obtain ⟨_, _, ⟨T14, L14, k14, n14⟩, -, X14, ⟨Lc14, hQ14, l14, y14, z14⟩, st14⟩ := X8.virtualBack hx (y := (⟨"com/example/libmaybe/libmaybe/GolombCode", "length", "(J)J"⟩ : MethodName)) (z := (⟨"com/example/libmaybe/libmaybe/GolombCode", "length", "(J)J"⟩ : MethodName)) hown (mvT hZ (hw _ (List.mem_of_getElem? (i := 32) rfl))) (mvT hZ (hw _ (List.mem_of_getElem? (i := 33) rfl))) (notFace_of_selects (args := #[]) (mvT hZ (hw _ (List.mem_of_getElem? (i := 35) rfl)))) (mvT hZ (hw _ (List.mem_of_getElem? (i := 35) rfl))) (mvT hZ (hw _ (List.mem_of_getElem? (i := 34) rfl))) (by decide) (backOf (W := 0) (rm_length l Z a0 hw [] b3 (own_gap_fff p1 q2 q3 q4) (own_b_fff p1 q2) ((63 : Int32) - (f_lnlz (own_b_fff p1 q2))) (((2 : Int64) <<< (((63 : Int32) - (f_lnlz (own_b_fff p1 q2))) &&& 0x3f).toInt64) - (own_b_fff p1 q2)) T8.heap n0 Zs13 f10 f11 f12 hnz0) hZ (hw _ (List.mem_of_getElem? (i := 36) rfl)) (hw _ (List.mem_of_getElem? (i := 9) rfl)) (by decide) (by decide)) q14a q14c (g := (mkF m 133 #[.val (.int p1), .val (.long q2), .second, .val (.long q3), .second, .val (.long q4), .second, .val (.int (own_k p1)), .val (.long (0 : Int64)), .second, .val (.long (own_b_fff p1 q2)), .second, .val (.long (own_r_fff p1 q2 q3)), .second, .val (.long (own_bound_fff p1 q2 q3)), .second, .val (.long (own_q_fff p1 q2 q3 q4)), .second, .val (.long (own_gap_fff p1 q2 q3 q4)), .second, .val (.long (1 : Int64)), .second, .val (.long (own_exp_fff p1 q2 q3 q4)), .second, .val (.ref b3)] [(.long (own_gap_fff p1 q2 q3 q4)), (.ref b3)])) rfl (by rw [hml]; rfl) (Steps.refl _) (argsL := [(.long (own_gap_fff p1 q2 q3 q4))]) (rest := []) (lenOf pd_4 rfl) rfl (by show 2 * 0 + _ ≤ _; exact Nat.le_of_eq rfl) (hb hby at_133) (fun _ _ => ⟨rfl, rfl, (by decide : 1 + 0 ≤ _), (by decide : 3 + 0 ≤ _)⟩)
  dsimp only [Pt.U, Pt.locs, Pt.cells, Pt.slots] at X14 l14 y14 z14 st14 hQ14
  subst l14 y14 z14
  obtain ⟨rfl, Nq14, e14⟩ := hQ14
  have N15 := Fr.app N9 Nq14
  obtain ⟨fs, hr, hrun, hended, hW, hsame⟩ := X14.leave (v := some (.int (1 : Int32))) (fun h => by rw [Bd.returns] at h; cases h) Bd.notSynchronized
  refine ⟨_, _, pre0 _ ?_, hrun, hended, _, _, rfl, ?_, ⟨_, rfl⟩, hW, hsame.mono (by decide) (by decide)⟩
  · show Steps p.tables e below (s₁.setTop (mkF m 0 #[.val (.int p1), .val (.long q2), .second, .val (.long q3), .second, .val (.long q4), .second, .unset, .unset, .unset, .unset, .unset, .unset, .unset, .unset, .unset, .unset, .unset, .unset, .unset, .unset, .unset, .unset, .unset, .unset] [])) _
    refine XS.iloadN X0.here hx rfl (hb hby at_0) rfl ?_
    show Steps p.tables e below (s₁.setTop (mkF m 1 #[.val (.int p1), .val (.long q2), .second, .val (.long q3), .second, .val (.long q4), .second, .unset, .unset, .unset, .unset, .unset, .unset, .unset, .unset, .unset, .unset, .unset, .unset, .unset, .unset, .unset, .unset, .unset, .unset] [(.int p1)])) _
    refine X0.ldcInt hx hown (mvT hZ (hw _ (List.mem_of_getElem? (i := 0) rfl))) (g := (mkF m 1 #[.val (.int p1), .val (.long q2), .second, .val (.long q3), .second, .val (.long q4), .second, .unset, .unset, .unset, .unset, .unset, .unset, .unset, .unset, .unset, .unset, .unset, .unset, .unset, .unset, .unset, .unset, .unset, .unset] [(.int p1)])) rfl (hb hby at_1) _ ?_
    show Steps p.tables e below (s₁.setTop (mkF m 3 #[.val (.int p1), .val (.long q2), .second, .val (.long q3), .second, .val (.long q4), .second, .unset, .unset, .unset, .unset, .unset, .unset, .unset, .unset, .unset, .unset, .unset, .unset, .unset, .unset, .unset, .unset, .unset, .unset] [(.int (2147483647 : Int32)), (.int p1)])) _
    refine XS.iand X0.here hx rfl (hb hby at_3) rfl ?_
    show Steps p.tables e below (s₁.setTop (mkF m 4 #[.val (.int p1), .val (.long q2), .second, .val (.long q3), .second, .val (.long q4), .second, .unset, .unset, .unset, .unset, .unset, .unset, .unset, .unset, .unset, .unset, .unset, .unset, .unset, .unset, .unset, .unset, .unset, .unset] [(.int (p1 &&& (2147483647 : Int32)))])) _
    refine XS.bipush X0.here hx rfl (hb hby at_4) ?_
    show Steps p.tables e below (s₁.setTop (mkF m 6 #[.val (.int p1), .val (.long q2), .second, .val (.long q3), .second, .val (.long q4), .second, .unset, .unset, .unset, .unset, .unset, .unset, .unset, .unset, .unset, .unset, .unset, .unset, .unset, .unset, .unset, .unset, .unset, .unset] [(.int (62 : Int32)), (.int (p1 &&& (2147483647 : Int32)))])) _
    refine iremM X0 hx rfl (hb hby at_6) rfl (by decide) ?_
    show Steps p.tables e below (s₁.setTop (mkF m 7 #[.val (.int p1), .val (.long q2), .second, .val (.long q3), .second, .val (.long q4), .second, .unset, .unset, .unset, .unset, .unset, .unset, .unset, .unset, .unset, .unset, .unset, .unset, .unset, .unset, .unset, .unset, .unset, .unset] [(.int ((p1 &&& (2147483647 : Int32)) % (62 : Int32)))])) _
    refine XS.istore X0.here hx rfl (hb hby at_7) rfl (l' := #[.val (.int p1), .val (.long q2), .second, .val (.long q3), .second, .val (.long q4), .second, .val (.int (own_k p1)), .unset, .unset, .unset, .unset, .unset, .unset, .unset, .unset, .unset, .unset, .unset, .unset, .unset, .unset, .unset, .unset, .unset]) rfl ?_
    show Steps p.tables e below (s₁.setTop (mkF m 9 #[.val (.int p1), .val (.long q2), .second, .val (.long q3), .second, .val (.long q4), .second, .val (.int (own_k p1)), .unset, .unset, .unset, .unset, .unset, .unset, .unset, .unset, .unset, .unset, .unset, .unset, .unset, .unset, .unset, .unset, .unset] [])) _
    refine XS.iload X0.here hx rfl (hb hby at_9) rfl ?_
    show Steps p.tables e below (s₁.setTop (mkF m 11 #[.val (.int p1), .val (.long q2), .second, .val (.long q3), .second, .val (.long q4), .second, .val (.int (own_k p1)), .unset, .unset, .unset, .unset, .unset, .unset, .unset, .unset, .unset, .unset, .unset, .unset, .unset, .unset, .unset, .unset, .unset] [(.int (own_k p1))])) _
    refine XS.bipush X0.here hx rfl (hb hby at_11) ?_
    show Steps p.tables e below (s₁.setTop (mkF m 13 #[.val (.int p1), .val (.long q2), .second, .val (.long q3), .second, .val (.long q4), .second, .val (.int (own_k p1)), .unset, .unset, .unset, .unset, .unset, .unset, .unset, .unset, .unset, .unset, .unset, .unset, .unset, .unset, .unset, .unset, .unset] [(.int (61 : Int32)), (.int (own_k p1))])) _
    refine XS.icmpNo X0.here hx rfl (hb hby at_13) rfl (teq hc0).2 ?_
    show Steps p.tables e below (s₁.setTop (mkF m 16 #[.val (.int p1), .val (.long q2), .second, .val (.long q3), .second, .val (.long q4), .second, .val (.int (own_k p1)), .unset, .unset, .unset, .unset, .unset, .unset, .unset, .unset, .unset, .unset, .unset, .unset, .unset, .unset, .unset, .unset, .unset] [])) _
    refine XS.lconst X0.here hx rfl (hb hby at_16) ?_
    show Steps p.tables e below (s₁.setTop (mkF m 17 #[.val (.int p1), .val (.long q2), .second, .val (.long q3), .second, .val (.long q4), .second, .val (.int (own_k p1)), .unset, .unset, .unset, .unset, .unset, .unset, .unset, .unset, .unset, .unset, .unset, .unset, .unset, .unset, .unset, .unset, .unset] [(.long (0 : Int64))])) _
    refine XS.goto X0.here hx rfl (pc0 := 17) (pc' := 26) rfl (hb hby at_17) (by decide) (by decide) ?_
    show Steps p.tables e below (s₁.setTop (mkF m 26 #[.val (.int p1), .val (.long q2), .second, .val (.long q3), .second, .val (.long q4), .second, .val (.int (own_k p1)), .unset, .unset, .unset, .unset, .unset, .unset, .unset, .unset, .unset, .unset, .unset, .unset, .unset, .unset, .unset, .unset, .unset] [(.long (0 : Int64))])) _
    refine XS.lstore X0.here hx rfl (hb hby at_26) rfl (l' := #[.val (.int p1), .val (.long q2), .second, .val (.long q3), .second, .val (.long q4), .second, .val (.int (own_k p1)), .val (.long (0 : Int64)), .second, .unset, .unset, .unset, .unset, .unset, .unset, .unset, .unset, .unset, .unset, .unset, .unset, .unset, .unset, .unset]) rfl ?_
    show Steps p.tables e below (s₁.setTop (mkF m 28 #[.val (.int p1), .val (.long q2), .second, .val (.long q3), .second, .val (.long q4), .second, .val (.int (own_k p1)), .val (.long (0 : Int64)), .second, .unset, .unset, .unset, .unset, .unset, .unset, .unset, .unset, .unset, .unset, .unset, .unset, .unset, .unset, .unset] [])) _
    refine XS.lconst X0.here hx rfl (hb hby at_28) ?_
    show Steps p.tables e below (s₁.setTop (mkF m 29 #[.val (.int p1), .val (.long q2), .second, .val (.long q3), .second, .val (.long q4), .second, .val (.int (own_k p1)), .val (.long (0 : Int64)), .second, .unset, .unset, .unset, .unset, .unset, .unset, .unset, .unset, .unset, .unset, .unset, .unset, .unset, .unset, .unset] [(.long (1 : Int64))])) _
    refine XS.iload X0.here hx rfl (hb hby at_29) rfl ?_
    show Steps p.tables e below (s₁.setTop (mkF m 31 #[.val (.int p1), .val (.long q2), .second, .val (.long q3), .second, .val (.long q4), .second, .val (.int (own_k p1)), .val (.long (0 : Int64)), .second, .unset, .unset, .unset, .unset, .unset, .unset, .unset, .unset, .unset, .unset, .unset, .unset, .unset, .unset, .unset] [(.int (own_k p1)), (.long (1 : Int64))])) _
    refine XS.lshl X0.here hx rfl (hb hby at_31) rfl ?_
    show Steps p.tables e below (s₁.setTop (mkF m 32 #[.val (.int p1), .val (.long q2), .second, .val (.long q3), .second, .val (.long q4), .second, .val (.int (own_k p1)), .val (.long (0 : Int64)), .second, .unset, .unset, .unset, .unset, .unset, .unset, .unset, .unset, .unset, .unset, .unset, .unset, .unset, .unset, .unset] [(.long ((1 : Int64) <<< ((own_k p1) &&& 0x3f).toInt64))])) _
    refine XS.lloadN X0.here hx rfl (hb hby at_32) rfl ?_
    show Steps p.tables e below (s₁.setTop (mkF m 33 #[.val (.int p1), .val (.long q2), .second, .val (.long q3), .second, .val (.long q4), .second, .val (.int (own_k p1)), .val (.long (0 : Int64)), .second, .unset, .unset, .unset, .unset, .unset, .unset, .unset, .unset, .unset, .unset, .unset, .unset, .unset, .unset, .unset] [(.long q2), (.long ((1 : Int64) <<< ((own_k p1) &&& 0x3f).toInt64))])) _
    refine XS.lload X0.here hx rfl (hb hby at_33) rfl ?_
    show Steps p.tables e below (s₁.setTop (mkF m 35 #[.val (.int p1), .val (.long q2), .second, .val (.long q3), .second, .val (.long q4), .second, .val (.int (own_k p1)), .val (.long (0 : Int64)), .second, .unset, .unset, .unset, .unset, .unset, .unset, .unset, .unset, .unset, .unset, .unset, .unset, .unset, .unset, .unset] [(.long (0 : Int64)), (.long q2), (.long ((1 : Int64) <<< ((own_k p1) &&& 0x3f).toInt64))])) _
    refine XS.land X0.here hx rfl (hb hby at_35) rfl ?_
    show Steps p.tables e below (s₁.setTop (mkF m 36 #[.val (.int p1), .val (.long q2), .second, .val (.long q3), .second, .val (.long q4), .second, .val (.int (own_k p1)), .val (.long (0 : Int64)), .second, .unset, .unset, .unset, .unset, .unset, .unset, .unset, .unset, .unset, .unset, .unset, .unset, .unset, .unset, .unset] [(.long (q2 &&& (0 : Int64))), (.long ((1 : Int64) <<< ((own_k p1) &&& 0x3f).toInt64))])) _
    refine XS.lor X0.here hx rfl (hb hby at_36) rfl ?_
    show Steps p.tables e below (s₁.setTop (mkF m 37 #[.val (.int p1), .val (.long q2), .second, .val (.long q3), .second, .val (.long q4), .second, .val (.int (own_k p1)), .val (.long (0 : Int64)), .second, .unset, .unset, .unset, .unset, .unset, .unset, .unset, .unset, .unset, .unset, .unset, .unset, .unset, .unset, .unset] [(.long (((1 : Int64) <<< ((own_k p1) &&& 0x3f).toInt64) ||| (q2 &&& (0 : Int64))))])) _
    refine XS.lstore X0.here hx rfl (hb hby at_37) rfl (l' := #[.val (.int p1), .val (.long q2), .second, .val (.long q3), .second, .val (.long q4), .second, .val (.int (own_k p1)), .val (.long (0 : Int64)), .second, .val (.long (own_b_fff p1 q2)), .second, .unset, .unset, .unset, .unset, .unset, .unset, .unset, .unset, .unset, .unset, .unset, .unset, .unset]) rfl ?_
    show Steps p.tables e below (s₁.setTop (mkF m 39 #[.val (.int p1), .val (.long q2), .second, .val (.long q3), .second, .val (.long q4), .second, .val (.int (own_k p1)), .val (.long (0 : Int64)), .second, .val (.long (own_b_fff p1 q2)), .second, .unset, .unset, .unset, .unset, .unset, .unset, .unset, .unset, .unset, .unset, .unset, .unset, .unset] [])) _
    refine XS.lloadN X0.here hx rfl (hb hby at_39) rfl ?_
    show Steps p.tables e below (s₁.setTop (mkF m 40 #[.val (.int p1), .val (.long q2), .second, .val (.long q3), .second, .val (.long q4), .second, .val (.int (own_k p1)), .val (.long (0 : Int64)), .second, .val (.long (own_b_fff p1 q2)), .second, .unset, .unset, .unset, .unset, .unset, .unset, .unset, .unset, .unset, .unset, .unset, .unset, .unset] [(.long q3)])) _
    refine X0.ldc2Long hx hown (mvT hZ (hw _ (List.mem_of_getElem? (i := 1) rfl))) (g := (mkF m 40 #[.val (.int p1), .val (.long q2), .second, .val (.long q3), .second, .val (.long q4), .second, .val (.int (own_k p1)), .val (.long (0 : Int64)), .second, .val (.long (own_b_fff p1 q2)), .second, .unset, .unset, .unset, .unset, .unset, .unset, .unset, .unset, .unset, .unset, .unset, .unset, .unset] [(.long q3)])) rfl (hb hby at_40) _ ?_
    show Steps p.tables e below (s₁.setTop (mkF m 43 #[.val (.int p1), .val (.long q2), .second, .val (.long q3), .second, .val (.long q4), .second, .val (.int (own_k p1)), .val (.long (0 : Int64)), .second, .val (.long (own_b_fff p1 q2)), .second, .unset, .unset, .unset, .unset, .unset, .unset, .unset, .unset, .unset, .unset, .unset, .unset, .unset] [(.long (9223372036854775807 : Int64)), (.long q3)])) _
    refine XS.land X0.here hx rfl (hb hby at_43) rfl ?_
    show Steps p.tables e below (s₁.setTop (mkF m 44 #[.val (.int p1), .val (.long q2), .second, .val (.long q3), .second, .val (.long q4), .second, .val (.int (own_k p1)), .val (.long (0 : Int64)), .second, .val (.long (own_b_fff p1 q2)), .second, .unset, .unset, .unset, .unset, .unset, .unset, .unset, .unset, .unset, .unset, .unset, .unset, .unset] [(.long (q3 &&& (9223372036854775807 : Int64)))])) _
    refine XS.lload X0.here hx rfl (hb hby at_44) rfl ?_
    show Steps p.tables e below (s₁.setTop (mkF m 46 #[.val (.int p1), .val (.long q2), .second, .val (.long q3), .second, .val (.long q4), .second, .val (.int (own_k p1)), .val (.long (0 : Int64)), .second, .val (.long (own_b_fff p1 q2)), .second, .unset, .unset, .unset, .unset, .unset, .unset, .unset, .unset, .unset, .unset, .unset, .unset, .unset] [(.long (own_b_fff p1 q2)), (.long (q3 &&& (9223372036854775807 : Int64)))])) _
    refine XS.lrem X0.here hx rfl (hb hby at_46) rfl hnz0 ?_
    rw [lrem_mod]
    show Steps p.tables e below (s₁.setTop (mkF m 47 #[.val (.int p1), .val (.long q2), .second, .val (.long q3), .second, .val (.long q4), .second, .val (.int (own_k p1)), .val (.long (0 : Int64)), .second, .val (.long (own_b_fff p1 q2)), .second, .unset, .unset, .unset, .unset, .unset, .unset, .unset, .unset, .unset, .unset, .unset, .unset, .unset] [(.long ((q3 &&& (9223372036854775807 : Int64)) % (own_b_fff p1 q2)))])) _
    refine XS.lstore X0.here hx rfl (hb hby at_47) rfl (l' := #[.val (.int p1), .val (.long q2), .second, .val (.long q3), .second, .val (.long q4), .second, .val (.int (own_k p1)), .val (.long (0 : Int64)), .second, .val (.long (own_b_fff p1 q2)), .second, .val (.long (own_r_fff p1 q2 q3)), .second, .unset, .unset, .unset, .unset, .unset, .unset, .unset, .unset, .unset, .unset, .unset]) rfl ?_
    show Steps p.tables e below (s₁.setTop (mkF m 49 #[.val (.int p1), .val (.long q2), .second, .val (.long q3), .second, .val (.long q4), .second, .val (.int (own_k p1)), .val (.long (0 : Int64)), .second, .val (.long (own_b_fff p1 q2)), .second, .val (.long (own_r_fff p1 q2 q3)), .second, .unset, .unset, .unset, .unset, .unset, .unset, .unset, .unset, .unset, .unset, .unset] [])) _
    refine X0.ldc2Long hx hown (mvT hZ (hw _ (List.mem_of_getElem? (i := 1) rfl))) (g := (mkF m 49 #[.val (.int p1), .val (.long q2), .second, .val (.long q3), .second, .val (.long q4), .second, .val (.int (own_k p1)), .val (.long (0 : Int64)), .second, .val (.long (own_b_fff p1 q2)), .second, .val (.long (own_r_fff p1 q2 q3)), .second, .unset, .unset, .unset, .unset, .unset, .unset, .unset, .unset, .unset, .unset, .unset] [])) rfl (hb hby at_49) _ ?_
    show Steps p.tables e below (s₁.setTop (mkF m 52 #[.val (.int p1), .val (.long q2), .second, .val (.long q3), .second, .val (.long q4), .second, .val (.int (own_k p1)), .val (.long (0 : Int64)), .second, .val (.long (own_b_fff p1 q2)), .second, .val (.long (own_r_fff p1 q2 q3)), .second, .unset, .unset, .unset, .unset, .unset, .unset, .unset, .unset, .unset, .unset, .unset] [(.long (9223372036854775807 : Int64))])) _
    refine XS.lload X0.here hx rfl (hb hby at_52) rfl ?_
    show Steps p.tables e below (s₁.setTop (mkF m 54 #[.val (.int p1), .val (.long q2), .second, .val (.long q3), .second, .val (.long q4), .second, .val (.int (own_k p1)), .val (.long (0 : Int64)), .second, .val (.long (own_b_fff p1 q2)), .second, .val (.long (own_r_fff p1 q2 q3)), .second, .unset, .unset, .unset, .unset, .unset, .unset, .unset, .unset, .unset, .unset, .unset] [(.long (own_r_fff p1 q2 q3)), (.long (9223372036854775807 : Int64))])) _
    refine XS.lsub X0.here hx rfl (hb hby at_54) rfl ?_
    show Steps p.tables e below (s₁.setTop (mkF m 55 #[.val (.int p1), .val (.long q2), .second, .val (.long q3), .second, .val (.long q4), .second, .val (.int (own_k p1)), .val (.long (0 : Int64)), .second, .val (.long (own_b_fff p1 q2)), .second, .val (.long (own_r_fff p1 q2 q3)), .second, .unset, .unset, .unset, .unset, .unset, .unset, .unset, .unset, .unset, .unset, .unset] [(.long ((9223372036854775807 : Int64) - (own_r_fff p1 q2 q3)))])) _
    refine XS.lload X0.here hx rfl (hb hby at_55) rfl ?_
    show Steps p.tables e below (s₁.setTop (mkF m 57 #[.val (.int p1), .val (.long q2), .second, .val (.long q3), .second, .val (.long q4), .second, .val (.int (own_k p1)), .val (.long (0 : Int64)), .second, .val (.long (own_b_fff p1 q2)), .second, .val (.long (own_r_fff p1 q2 q3)), .second, .unset, .unset, .unset, .unset, .unset, .unset, .unset, .unset, .unset, .unset, .unset] [(.long (own_b_fff p1 q2)), (.long ((9223372036854775807 : Int64) - (own_r_fff p1 q2 q3)))])) _
    refine XS.ldiv X0.here hx rfl (hb hby at_57) rfl hnz0 ?_
    show Steps p.tables e below (s₁.setTop (mkF m 58 #[.val (.int p1), .val (.long q2), .second, .val (.long q3), .second, .val (.long q4), .second, .val (.int (own_k p1)), .val (.long (0 : Int64)), .second, .val (.long (own_b_fff p1 q2)), .second, .val (.long (own_r_fff p1 q2 q3)), .second, .unset, .unset, .unset, .unset, .unset, .unset, .unset, .unset, .unset, .unset, .unset] [(.long (((9223372036854775807 : Int64) - (own_r_fff p1 q2 q3)) / (own_b_fff p1 q2)))])) _
    refine XS.lstore X0.here hx rfl (hb hby at_58) rfl (l' := #[.val (.int p1), .val (.long q2), .second, .val (.long q3), .second, .val (.long q4), .second, .val (.int (own_k p1)), .val (.long (0 : Int64)), .second, .val (.long (own_b_fff p1 q2)), .second, .val (.long (own_r_fff p1 q2 q3)), .second, .val (.long (own_bound_fff p1 q2 q3)), .second, .unset, .unset, .unset, .unset, .unset, .unset, .unset, .unset, .unset]) rfl ?_
    show Steps p.tables e below (s₁.setTop (mkF m 60 #[.val (.int p1), .val (.long q2), .second, .val (.long q3), .second, .val (.long q4), .second, .val (.int (own_k p1)), .val (.long (0 : Int64)), .second, .val (.long (own_b_fff p1 q2)), .second, .val (.long (own_r_fff p1 q2 q3)), .second, .val (.long (own_bound_fff p1 q2 q3)), .second, .unset, .unset, .unset, .unset, .unset, .unset, .unset, .unset, .unset] [])) _
    refine XS.lload X0.here hx rfl (hb hby at_60) rfl ?_
    show Steps p.tables e below (s₁.setTop (mkF m 62 #[.val (.int p1), .val (.long q2), .second, .val (.long q3), .second, .val (.long q4), .second, .val (.int (own_k p1)), .val (.long (0 : Int64)), .second, .val (.long (own_b_fff p1 q2)), .second, .val (.long (own_r_fff p1 q2 q3)), .second, .val (.long (own_bound_fff p1 q2 q3)), .second, .unset, .unset, .unset, .unset, .unset, .unset, .unset, .unset, .unset] [(.long q4)])) _
    refine X0.ldc2Long hx hown (mvT hZ (hw _ (List.mem_of_getElem? (i := 1) rfl))) (g := (mkF m 62 #[.val (.int p1), .val (.long q2), .second, .val (.long q3), .second, .val (.long q4), .second, .val (.int (own_k p1)), .val (.long (0 : Int64)), .second, .val (.long (own_b_fff p1 q2)), .second, .val (.long (own_r_fff p1 q2 q3)), .second, .val (.long (own_bound_fff p1 q2 q3)), .second, .unset, .unset, .unset, .unset, .unset, .unset, .unset, .unset, .unset] [(.long q4)])) rfl (hb hby at_62) _ ?_
    show Steps p.tables e below (s₁.setTop (mkF m 65 #[.val (.int p1), .val (.long q2), .second, .val (.long q3), .second, .val (.long q4), .second, .val (.int (own_k p1)), .val (.long (0 : Int64)), .second, .val (.long (own_b_fff p1 q2)), .second, .val (.long (own_r_fff p1 q2 q3)), .second, .val (.long (own_bound_fff p1 q2 q3)), .second, .unset, .unset, .unset, .unset, .unset, .unset, .unset, .unset, .unset] [(.long (9223372036854775807 : Int64)), (.long q4)])) _
    refine XS.land X0.here hx rfl (hb hby at_65) rfl ?_
    show Steps p.tables e below (s₁.setTop (mkF m 66 #[.val (.int p1), .val (.long q2), .second, .val (.long q3), .second, .val (.long q4), .second, .val (.int (own_k p1)), .val (.long (0 : Int64)), .second, .val (.long (own_b_fff p1 q2)), .second, .val (.long (own_r_fff p1 q2 q3)), .second, .val (.long (own_bound_fff p1 q2 q3)), .second, .unset, .unset, .unset, .unset, .unset, .unset, .unset, .unset, .unset] [(.long (q4 &&& (9223372036854775807 : Int64)))])) _
    refine XS.lload X0.here hx rfl (hb hby at_66) rfl ?_
    show Steps p.tables e below (s₁.setTop (mkF m 68 #[.val (.int p1), .val (.long q2), .second, .val (.long q3), .second, .val (.long q4), .second, .val (.int (own_k p1)), .val (.long (0 : Int64)), .second, .val (.long (own_b_fff p1 q2)), .second, .val (.long (own_r_fff p1 q2 q3)), .second, .val (.long (own_bound_fff p1 q2 q3)), .second, .unset, .unset, .unset, .unset, .unset, .unset, .unset, .unset, .unset] [(.long (own_bound_fff p1 q2 q3)), (.long (q4 &&& (9223372036854775807 : Int64)))])) _
    refine st1 _ ?_
    show Steps p.tables e below (T1.setTop (mkF m 71 #[.val (.int p1), .val (.long q2), .second, .val (.long q3), .second, .val (.long q4), .second, .val (.int (own_k p1)), .val (.long (0 : Int64)), .second, .val (.long (own_b_fff p1 q2)), .second, .val (.long (own_r_fff p1 q2 q3)), .second, .val (.long (own_bound_fff p1 q2 q3)), .second, .unset, .unset, .unset, .unset, .unset, .unset, .unset, .unset, .unset] [(.long (f_min (q4 &&& (9223372036854775807 : Int64)) (own_bound_fff p1 q2 q3)))])) _
    refine XS.lstore X1.here hx rfl (hb hby at_71) rfl (l' := #[.val (.int p1), .val (.long q2), .second, .val (.long q3), .second, .val (.long q4), .second, .val (.int (own_k p1)), .val (.long (0 : Int64)), .second, .val (.long (own_b_fff p1 q2)), .second, .val (.long (own_r_fff p1 q2 q3)), .second, .val (.long (own_bound_fff p1 q2 q3)), .second, .val (.long (own_q_fff p1 q2 q3 q4)), .second, .unset, .unset, .unset, .unset, .unset, .unset, .unset]) rfl ?_
    show Steps p.tables e below (T1.setTop (mkF m 73 #[.val (.int p1), .val (.long q2), .second, .val (.long q3), .second, .val (.long q4), .second, .val (.int (own_k p1)), .val (.long (0 : Int64)), .second, .val (.long (own_b_fff p1 q2)), .second, .val (.long (own_r_fff p1 q2 q3)), .second, .val (.long (own_bound_fff p1 q2 q3)), .second, .val (.long (own_q_fff p1 q2 q3 q4)), .second, .unset, .unset, .unset, .unset, .unset, .unset, .unset] [])) _
    refine XS.lload X1.here hx rfl (hb hby at_73) rfl ?_
    show Steps p.tables e below (T1.setTop (mkF m 75 #[.val (.int p1), .val (.long q2), .second, .val (.long q3), .second, .val (.long q4), .second, .val (.int (own_k p1)), .val (.long (0 : Int64)), .second, .val (.long (own_b_fff p1 q2)), .second, .val (.long (own_r_fff p1 q2 q3)), .second, .val (.long (own_bound_fff p1 q2 q3)), .second, .val (.long (own_q_fff p1 q2 q3 q4)), .second, .unset, .unset, .unset, .unset, .unset, .unset, .unset] [(.long (own_q_fff p1 q2 q3 q4))])) _
    refine XS.lload X1.here hx rfl (hb hby at_75) rfl ?_
    show Steps p.tables e below (T1.setTop (mkF m 77 #[.val (.int p1), .val (.long q2), .second, .val (.long q3), .second, .val (.long q4), .second, .val (.int (own_k p1)), .val (.long (0 : Int64)), .second, .val (.long (own_b_fff p1 q2)), .second, .val (.long (own_r_fff p1 q2 q3)), .second, .val (.long (own_bound_fff p1 q2 q3)), .second, .val (.long (own_q_fff p1 q2 q3 q4)), .second, .unset, .unset, .unset, .unset, .unset, .unset, .unset] [(.long (own_b_fff p1 q2)), (.long (own_q_fff p1 q2 q3 q4))])) _
    refine XS.lmul X1.here hx rfl (hb hby at_77) rfl ?_
    show Steps p.tables e below (T1.setTop (mkF m 78 #[.val (.int p1), .val (.long q2), .second, .val (.long q3), .second, .val (.long q4), .second, .val (.int (own_k p1)), .val (.long (0 : Int64)), .second, .val (.long (own_b_fff p1 q2)), .second, .val (.long (own_r_fff p1 q2 q3)), .second, .val (.long (own_bound_fff p1 q2 q3)), .second, .val (.long (own_q_fff p1 q2 q3 q4)), .second, .unset, .unset, .unset, .unset, .unset, .unset, .unset] [(.long ((own_q_fff p1 q2 q3 q4) * (own_b_fff p1 q2)))])) _
    refine XS.lload X1.here hx rfl (hb hby at_78) rfl ?_
    show Steps p.tables e below (T1.setTop (mkF m 80 #[.val (.int p1), .val (.long q2), .second, .val (.long q3), .second, .val (.long q4), .second, .val (.int (own_k p1)), .val (.long (0 : Int64)), .second, .val (.long (own_b_fff p1 q2)), .second, .val (.long (own_r_fff p1 q2 q3)), .second, .val (.long (own_bound_fff p1 q2 q3)), .second, .val (.long (own_q_fff p1 q2 q3 q4)), .second, .unset, .unset, .unset, .unset, .unset, .unset, .unset] [(.long (own_r_fff p1 q2 q3)), (.long ((own_q_fff p1 q2 q3 q4) * (own_b_fff p1 q2)))])) _
    refine XS.ladd X1.here hx rfl (hb hby at_80) rfl ?_
    show Steps p.tables e below (T1.setTop (mkF m 81 #[.val (.int p1), .val (.long q2), .second, .val (.long q3), .second, .val (.long q4), .second, .val (.int (own_k p1)), .val (.long (0 : Int64)), .second, .val (.long (own_b_fff p1 q2)), .second, .val (.long (own_r_fff p1 q2 q3)), .second, .val (.long (own_bound_fff p1 q2 q3)), .second, .val (.long (own_q_fff p1 q2 q3 q4)), .second, .unset, .unset, .unset, .unset, .unset, .unset, .unset] [(.long (((own_q_fff p1 q2 q3 q4) * (own_b_fff p1 q2)) + (own_r_fff p1 q2 q3)))])) _
    refine XS.lstore X1.here hx rfl (hb hby at_81) rfl (l' := #[.val (.int p1), .val (.long q2), .second, .val (.long q3), .second, .val (.long q4), .second, .val (.int (own_k p1)), .val (.long (0 : Int64)), .second, .val (.long (own_b_fff p1 q2)), .second, .val (.long (own_r_fff p1 q2 q3)), .second, .val (.long (own_bound_fff p1 q2 q3)), .second, .val (.long (own_q_fff p1 q2 q3 q4)), .second, .val (.long (own_gap_fff p1 q2 q3 q4)), .second, .unset, .unset, .unset, .unset, .unset]) rfl ?_
    show Steps p.tables e below (T1.setTop (mkF m 83 #[.val (.int p1), .val (.long q2), .second, .val (.long q3), .second, .val (.long q4), .second, .val (.int (own_k p1)), .val (.long (0 : Int64)), .second, .val (.long (own_b_fff p1 q2)), .second, .val (.long (own_r_fff p1 q2 q3)), .second, .val (.long (own_bound_fff p1 q2 q3)), .second, .val (.long (own_q_fff p1 q2 q3 q4)), .second, .val (.long (own_gap_fff p1 q2 q3 q4)), .second, .unset, .unset, .unset, .unset, .unset] [])) _
    refine XS.lload X1.here hx rfl (hb hby at_83) rfl ?_
    show Steps p.tables e below (T1.setTop (mkF m 85 #[.val (.int p1), .val (.long q2), .second, .val (.long q3), .second, .val (.long q4), .second, .val (.int (own_k p1)), .val (.long (0 : Int64)), .second, .val (.long (own_b_fff p1 q2)), .second, .val (.long (own_r_fff p1 q2 q3)), .second, .val (.long (own_bound_fff p1 q2 q3)), .second, .val (.long (own_q_fff p1 q2 q3 q4)), .second, .val (.long (own_gap_fff p1 q2 q3 q4)), .second, .unset, .unset, .unset, .unset, .unset] [(.long (own_r_fff p1 q2 q3))])) _
    refine XS.lload X1.here hx rfl (hb hby at_85) rfl ?_
    show Steps p.tables e below (T1.setTop (mkF m 87 #[.val (.int p1), .val (.long q2), .second, .val (.long q3), .second, .val (.long q4), .second, .val (.int (own_k p1)), .val (.long (0 : Int64)), .second, .val (.long (own_b_fff p1 q2)), .second, .val (.long (own_r_fff p1 q2 q3)), .second, .val (.long (own_bound_fff p1 q2 q3)), .second, .val (.long (own_q_fff p1 q2 q3 q4)), .second, .val (.long (own_gap_fff p1 q2 q3 q4)), .second, .unset, .unset, .unset, .unset, .unset] [(.long (own_b_fff p1 q2)), (.long (own_r_fff p1 q2 q3))])) _
    refine XS.ladd X1.here hx rfl (hb hby at_87) rfl ?_
    show Steps p.tables e below (T1.setTop (mkF m 88 #[.val (.int p1), .val (.long q2), .second, .val (.long q3), .second, .val (.long q4), .second, .val (.int (own_k p1)), .val (.long (0 : Int64)), .second, .val (.long (own_b_fff p1 q2)), .second, .val (.long (own_r_fff p1 q2 q3)), .second, .val (.long (own_bound_fff p1 q2 q3)), .second, .val (.long (own_q_fff p1 q2 q3 q4)), .second, .val (.long (own_gap_fff p1 q2 q3 q4)), .second, .unset, .unset, .unset, .unset, .unset] [(.long ((own_r_fff p1 q2 q3) + (own_b_fff p1 q2)))])) _
    refine X1.ldc2Long hx hown (mvT hZ (hw _ (List.mem_of_getElem? (i := 6) rfl))) (g := (mkF m 88 #[.val (.int p1), .val (.long q2), .second, .val (.long q3), .second, .val (.long q4), .second, .val (.int (own_k p1)), .val (.long (0 : Int64)), .second, .val (.long (own_b_fff p1 q2)), .second, .val (.long (own_r_fff p1 q2 q3)), .second, .val (.long (own_bound_fff p1 q2 q3)), .second, .val (.long (own_q_fff p1 q2 q3 q4)), .second, .val (.long (own_gap_fff p1 q2 q3 q4)), .second, .unset, .unset, .unset, .unset, .unset] [(.long ((own_r_fff p1 q2 q3) + (own_b_fff p1 q2)))])) rfl (hb hby at_88) _ ?_
    show Steps p.tables e below (T1.setTop (mkF m 91 #[.val (.int p1), .val (.long q2), .second, .val (.long q3), .second, .val (.long q4), .second, .val (.int (own_k p1)), .val (.long (0 : Int64)), .second, .val (.long (own_b_fff p1 q2)), .second, .val (.long (own_r_fff p1 q2 q3)), .second, .val (.long (own_bound_fff p1 q2 q3)), .second, .val (.long (own_q_fff p1 q2 q3 q4)), .second, .val (.long (own_gap_fff p1 q2 q3 q4)), .second, .unset, .unset, .unset, .unset, .unset] [(.long (2 : Int64)), (.long ((own_r_fff p1 q2 q3) + (own_b_fff p1 q2)))])) _
    refine XS.iload X1.here hx rfl (hb hby at_91) rfl ?_
    show Steps p.tables e below (T1.setTop (mkF m 93 #[.val (.int p1), .val (.long q2), .second, .val (.long q3), .second, .val (.long q4), .second, .val (.int (own_k p1)), .val (.long (0 : Int64)), .second, .val (.long (own_b_fff p1 q2)), .second, .val (.long (own_r_fff p1 q2 q3)), .second, .val (.long (own_bound_fff p1 q2 q3)), .second, .val (.long (own_q_fff p1 q2 q3 q4)), .second, .val (.long (own_gap_fff p1 q2 q3 q4)), .second, .unset, .unset, .unset, .unset, .unset] [(.int (own_k p1)), (.long (2 : Int64)), (.long ((own_r_fff p1 q2 q3) + (own_b_fff p1 q2)))])) _
    refine XS.lshl X1.here hx rfl (hb hby at_93) rfl ?_
    show Steps p.tables e below (T1.setTop (mkF m 94 #[.val (.int p1), .val (.long q2), .second, .val (.long q3), .second, .val (.long q4), .second, .val (.int (own_k p1)), .val (.long (0 : Int64)), .second, .val (.long (own_b_fff p1 q2)), .second, .val (.long (own_r_fff p1 q2 q3)), .second, .val (.long (own_bound_fff p1 q2 q3)), .second, .val (.long (own_q_fff p1 q2 q3 q4)), .second, .val (.long (own_gap_fff p1 q2 q3 q4)), .second, .unset, .unset, .unset, .unset, .unset] [(.long ((2 : Int64) <<< ((own_k p1) &&& 0x3f).toInt64)), (.long ((own_r_fff p1 q2 q3) + (own_b_fff p1 q2)))])) _
    refine XS.lcmp X1.here hx rfl (hb hby at_94) rfl ?_
    show Steps p.tables e below (T1.setTop (mkF m 95 #[.val (.int p1), .val (.long q2), .second, .val (.long q3), .second, .val (.long q4), .second, .val (.int (own_k p1)), .val (.long (0 : Int64)), .second, .val (.long (own_b_fff p1 q2)), .second, .val (.long (own_r_fff p1 q2 q3)), .second, .val (.long (own_bound_fff p1 q2 q3)), .second, .val (.long (own_q_fff p1 q2 q3 q4)), .second, .val (.long (own_gap_fff p1 q2 q3 q4)), .second, .unset, .unset, .unset, .unset, .unset] [(.int (lcmpW ((own_r_fff p1 q2 q3) + (own_b_fff p1 q2)) ((2 : Int64) <<< ((own_k p1) &&& 0x3f).toInt64)))])) _
    refine XS.ifNo X1.here hx rfl (hb hby at_95) rfl ((if0 _ _).trans (flt (fun q => (hc1 : ¬ (((own_r_fff p1 q2 q3) + (own_b_fff p1 q2)) < ((2 : Int64) <<< ((own_k p1) &&& 0x3f).toInt64))) ((lw_lt _ _).mp q))).1) ?_
    show Steps p.tables e below (T1.setTop (mkF m 98 #[.val (.int p1), .val (.long q2), .second, .val (.long q3), .second, .val (.long q4), .second, .val (.int (own_k p1)), .val (.long (0 : Int64)), .second, .val (.long (own_b_fff p1 q2)), .second, .val (.long (own_r_fff p1 q2 q3)), .second, .val (.long (own_bound_fff p1 q2 q3)), .second, .val (.long (own_q_fff p1 q2 q3 q4)), .second, .val (.long (own_gap_fff p1 q2 q3 q4)), .second, .unset, .unset, .unset, .unset, .unset] [])) _
    refine XS.lconst X1.here hx rfl (hb hby at_98) ?_
    show Steps p.tables e below (T1.setTop (mkF m 99 #[.val (.int p1), .val (.long q2), .second, .val (.long q3), .second, .val (.long q4), .second, .val (.int (own_k p1)), .val (.long (0 : Int64)), .second, .val (.long (own_b_fff p1 q2)), .second, .val (.long (own_r_fff p1 q2 q3)), .second, .val (.long (own_bound_fff p1 q2 q3)), .second, .val (.long (own_q_fff p1 q2 q3 q4)), .second, .val (.long (own_gap_fff p1 q2 q3 q4)), .second, .unset, .unset, .unset, .unset, .unset] [(.long (1 : Int64))])) _
    refine XS.goto X1.here hx rfl (pc0 := 99) (pc' := 103) rfl (hb hby at_99) (by decide) (by decide) ?_
    show Steps p.tables e below (T1.setTop (mkF m 103 #[.val (.int p1), .val (.long q2), .second, .val (.long q3), .second, .val (.long q4), .second, .val (.int (own_k p1)), .val (.long (0 : Int64)), .second, .val (.long (own_b_fff p1 q2)), .second, .val (.long (own_r_fff p1 q2 q3)), .second, .val (.long (own_bound_fff p1 q2 q3)), .second, .val (.long (own_q_fff p1 q2 q3 q4)), .second, .val (.long (own_gap_fff p1 q2 q3 q4)), .second, .unset, .unset, .unset, .unset, .unset] [(.long (1 : Int64))])) _
    refine XS.lstore X1.here hx rfl (hb hby at_103) rfl (l' := #[.val (.int p1), .val (.long q2), .second, .val (.long q3), .second, .val (.long q4), .second, .val (.int (own_k p1)), .val (.long (0 : Int64)), .second, .val (.long (own_b_fff p1 q2)), .second, .val (.long (own_r_fff p1 q2 q3)), .second, .val (.long (own_bound_fff p1 q2 q3)), .second, .val (.long (own_q_fff p1 q2 q3 q4)), .second, .val (.long (own_gap_fff p1 q2 q3 q4)), .second, .val (.long (1 : Int64)), .second, .unset, .unset, .unset]) rfl ?_
    show Steps p.tables e below (T1.setTop (mkF m 105 #[.val (.int p1), .val (.long q2), .second, .val (.long q3), .second, .val (.long q4), .second, .val (.int (own_k p1)), .val (.long (0 : Int64)), .second, .val (.long (own_b_fff p1 q2)), .second, .val (.long (own_r_fff p1 q2 q3)), .second, .val (.long (own_bound_fff p1 q2 q3)), .second, .val (.long (own_q_fff p1 q2 q3 q4)), .second, .val (.long (own_gap_fff p1 q2 q3 q4)), .second, .val (.long (1 : Int64)), .second, .unset, .unset, .unset] [])) _
    refine XS.lload X1.here hx rfl (hb hby at_105) rfl ?_
    show Steps p.tables e below (T1.setTop (mkF m 107 #[.val (.int p1), .val (.long q2), .second, .val (.long q3), .second, .val (.long q4), .second, .val (.int (own_k p1)), .val (.long (0 : Int64)), .second, .val (.long (own_b_fff p1 q2)), .second, .val (.long (own_r_fff p1 q2 q3)), .second, .val (.long (own_bound_fff p1 q2 q3)), .second, .val (.long (own_q_fff p1 q2 q3 q4)), .second, .val (.long (own_gap_fff p1 q2 q3 q4)), .second, .val (.long (1 : Int64)), .second, .unset, .unset, .unset] [(.long (own_q_fff p1 q2 q3 q4))])) _
    refine XS.lconst X1.here hx rfl (hb hby at_107) ?_
    show Steps p.tables e below (T1.setTop (mkF m 108 #[.val (.int p1), .val (.long q2), .second, .val (.long q3), .second, .val (.long q4), .second, .val (.int (own_k p1)), .val (.long (0 : Int64)), .second, .val (.long (own_b_fff p1 q2)), .second, .val (.long (own_r_fff p1 q2 q3)), .second, .val (.long (own_bound_fff p1 q2 q3)), .second, .val (.long (own_q_fff p1 q2 q3 q4)), .second, .val (.long (own_gap_fff p1 q2 q3 q4)), .second, .val (.long (1 : Int64)), .second, .unset, .unset, .unset] [(.long (1 : Int64)), (.long (own_q_fff p1 q2 q3 q4))])) _
    refine XS.ladd X1.here hx rfl (hb hby at_108) rfl ?_
    show Steps p.tables e below (T1.setTop (mkF m 109 #[.val (.int p1), .val (.long q2), .second, .val (.long q3), .second, .val (.long q4), .second, .val (.int (own_k p1)), .val (.long (0 : Int64)), .second, .val (.long (own_b_fff p1 q2)), .second, .val (.long (own_r_fff p1 q2 q3)), .second, .val (.long (own_bound_fff p1 q2 q3)), .second, .val (.long (own_q_fff p1 q2 q3 q4)), .second, .val (.long (own_gap_fff p1 q2 q3 q4)), .second, .val (.long (1 : Int64)), .second, .unset, .unset, .unset] [(.long ((own_q_fff p1 q2 q3 q4) + (1 : Int64)))])) _
    refine XS.iload X1.here hx rfl (hb hby at_109) rfl ?_
    show Steps p.tables e below (T1.setTop (mkF m 111 #[.val (.int p1), .val (.long q2), .second, .val (.long q3), .second, .val (.long q4), .second, .val (.int (own_k p1)), .val (.long (0 : Int64)), .second, .val (.long (own_b_fff p1 q2)), .second, .val (.long (own_r_fff p1 q2 q3)), .second, .val (.long (own_bound_fff p1 q2 q3)), .second, .val (.long (own_q_fff p1 q2 q3 q4)), .second, .val (.long (own_gap_fff p1 q2 q3 q4)), .second, .val (.long (1 : Int64)), .second, .unset, .unset, .unset] [(.int (own_k p1)), (.long ((own_q_fff p1 q2 q3 q4) + (1 : Int64)))])) _
    refine XS.i2l X1.here hx rfl (hb hby at_111) rfl ?_
    show Steps p.tables e below (T1.setTop (mkF m 112 #[.val (.int p1), .val (.long q2), .second, .val (.long q3), .second, .val (.long q4), .second, .val (.int (own_k p1)), .val (.long (0 : Int64)), .second, .val (.long (own_b_fff p1 q2)), .second, .val (.long (own_r_fff p1 q2 q3)), .second, .val (.long (own_bound_fff p1 q2 q3)), .second, .val (.long (own_q_fff p1 q2 q3 q4)), .second, .val (.long (own_gap_fff p1 q2 q3 q4)), .second, .val (.long (1 : Int64)), .second, .unset, .unset, .unset] [(.long ((own_k p1).toInt64)), (.long ((own_q_fff p1 q2 q3 q4) + (1 : Int64)))])) _
    refine XS.ladd X1.here hx rfl (hb hby at_112) rfl ?_
    show Steps p.tables e below (T1.setTop (mkF m 113 #[.val (.int p1), .val (.long q2), .second, .val (.long q3), .second, .val (.long q4), .second, .val (.int (own_k p1)), .val (.long (0 : Int64)), .second, .val (.long (own_b_fff p1 q2)), .second, .val (.long (own_r_fff p1 q2 q3)), .second, .val (.long (own_bound_fff p1 q2 q3)), .second, .val (.long (own_q_fff p1 q2 q3 q4)), .second, .val (.long (own_gap_fff p1 q2 q3 q4)), .second, .val (.long (1 : Int64)), .second, .unset, .unset, .unset] [(.long (((own_q_fff p1 q2 q3 q4) + (1 : Int64)) + ((own_k p1).toInt64)))])) _
    refine XS.lload X1.here hx rfl (hb hby at_113) rfl ?_
    show Steps p.tables e below (T1.setTop (mkF m 115 #[.val (.int p1), .val (.long q2), .second, .val (.long q3), .second, .val (.long q4), .second, .val (.int (own_k p1)), .val (.long (0 : Int64)), .second, .val (.long (own_b_fff p1 q2)), .second, .val (.long (own_r_fff p1 q2 q3)), .second, .val (.long (own_bound_fff p1 q2 q3)), .second, .val (.long (own_q_fff p1 q2 q3 q4)), .second, .val (.long (own_gap_fff p1 q2 q3 q4)), .second, .val (.long (1 : Int64)), .second, .unset, .unset, .unset] [(.long (1 : Int64)), (.long (((own_q_fff p1 q2 q3 q4) + (1 : Int64)) + ((own_k p1).toInt64)))])) _
    refine XS.ladd X1.here hx rfl (hb hby at_115) rfl ?_
    show Steps p.tables e below (T1.setTop (mkF m 116 #[.val (.int p1), .val (.long q2), .second, .val (.long q3), .second, .val (.long q4), .second, .val (.int (own_k p1)), .val (.long (0 : Int64)), .second, .val (.long (own_b_fff p1 q2)), .second, .val (.long (own_r_fff p1 q2 q3)), .second, .val (.long (own_bound_fff p1 q2 q3)), .second, .val (.long (own_q_fff p1 q2 q3 q4)), .second, .val (.long (own_gap_fff p1 q2 q3 q4)), .second, .val (.long (1 : Int64)), .second, .unset, .unset, .unset] [(.long ((((own_q_fff p1 q2 q3 q4) + (1 : Int64)) + ((own_k p1).toInt64)) + (1 : Int64)))])) _
    refine XS.lstore X1.here hx rfl (hb hby at_116) rfl (l' := #[.val (.int p1), .val (.long q2), .second, .val (.long q3), .second, .val (.long q4), .second, .val (.int (own_k p1)), .val (.long (0 : Int64)), .second, .val (.long (own_b_fff p1 q2)), .second, .val (.long (own_r_fff p1 q2 q3)), .second, .val (.long (own_bound_fff p1 q2 q3)), .second, .val (.long (own_q_fff p1 q2 q3 q4)), .second, .val (.long (own_gap_fff p1 q2 q3 q4)), .second, .val (.long (1 : Int64)), .second, .val (.long (own_exp_fff p1 q2 q3 q4)), .second, .unset]) rfl ?_
    show Steps p.tables e below (T1.setTop (mkF m 118 #[.val (.int p1), .val (.long q2), .second, .val (.long q3), .second, .val (.long q4), .second, .val (.int (own_k p1)), .val (.long (0 : Int64)), .second, .val (.long (own_b_fff p1 q2)), .second, .val (.long (own_r_fff p1 q2 q3)), .second, .val (.long (own_bound_fff p1 q2 q3)), .second, .val (.long (own_q_fff p1 q2 q3 q4)), .second, .val (.long (own_gap_fff p1 q2 q3 q4)), .second, .val (.long (1 : Int64)), .second, .val (.long (own_exp_fff p1 q2 q3 q4)), .second, .unset] [])) _
    refine st3 _ ?_
    show Steps p.tables e below (T3.setTop (mkF m 121 #[.val (.int p1), .val (.long q2), .second, .val (.long q3), .second, .val (.long q4), .second, .val (.int (own_k p1)), .val (.long (0 : Int64)), .second, .val (.long (own_b_fff p1 q2)), .second, .val (.long (own_r_fff p1 q2 q3)), .second, .val (.long (own_bound_fff p1 q2 q3)), .second, .val (.long (own_q_fff p1 q2 q3 q4)), .second, .val (.long (own_gap_fff p1 q2 q3 q4)), .second, .val (.long (1 : Int64)), .second, .val (.long (own_exp_fff p1 q2 q3 q4)), .second, .unset] [(.ref b3)])) _
    refine XS.dup X3.here hx rfl (hb hby at_121) rfl rfl ?_
    show Steps p.tables e below (T3.setTop (mkF m 122 #[.val (.int p1), .val (.long q2), .second, .val (.long q3), .second, .val (.long q4), .second, .val (.int (own_k p1)), .val (.long (0 : Int64)), .second, .val (.long (own_b_fff p1 q2)), .second, .val (.long (own_r_fff p1 q2 q3)), .second, .val (.long (own_bound_fff p1 q2 q3)), .second, .val (.long (own_q_fff p1 q2 q3 q4)), .second, .val (.long (own_gap_fff p1 q2 q3 q4)), .second, .val (.long (1 : Int64)), .second, .val (.long (own_exp_fff p1 q2 q3 q4)), .second, .unset] [(.ref b3), (.ref b3)])) _
    refine XS.lload X3.here hx rfl (hb hby at_122) rfl ?_
    show Steps p.tables e below (T3.setTop (mkF m 124 #[.val (.int p1), .val (.long q2), .second, .val (.long q3), .second, .val (.long q4), .second, .val (.int (own_k p1)), .val (.long (0 : Int64)), .second, .val (.long (own_b_fff p1 q2)), .second, .val (.long (own_r_fff p1 q2 q3)), .second, .val (.long (own_bound_fff p1 q2 q3)), .second, .val (.long (own_q_fff p1 q2 q3 q4)), .second, .val (.long (own_gap_fff p1 q2 q3 q4)), .second, .val (.long (1 : Int64)), .second, .val (.long (own_exp_fff p1 q2 q3 q4)), .second, .unset] [(.long (own_b_fff p1 q2)), (.ref b3), (.ref b3)])) _
    refine st8.trans ?_
    show Steps p.tables e below (T8.setTop (mkF m 127 #[.val (.int p1), .val (.long q2), .second, .val (.long q3), .second, .val (.long q4), .second, .val (.int (own_k p1)), .val (.long (0 : Int64)), .second, .val (.long (own_b_fff p1 q2)), .second, .val (.long (own_r_fff p1 q2 q3)), .second, .val (.long (own_bound_fff p1 q2 q3)), .second, .val (.long (own_q_fff p1 q2 q3 q4)), .second, .val (.long (own_gap_fff p1 q2 q3 q4)), .second, .val (.long (1 : Int64)), .second, .val (.long (own_exp_fff p1 q2 q3 q4)), .second, .unset] [(.ref b3)])) _
    refine XS.astore X8.here hx rfl (hb hby at_127) rfl rfl (l' := #[.val (.int p1), .val (.long q2), .second, .val (.long q3), .second, .val (.long q4), .second, .val (.int (own_k p1)), .val (.long (0 : Int64)), .second, .val (.long (own_b_fff p1 q2)), .second, .val (.long (own_r_fff p1 q2 q3)), .second, .val (.long (own_bound_fff p1 q2 q3)), .second, .val (.long (own_q_fff p1 q2 q3 q4)), .second, .val (.long (own_gap_fff p1 q2 q3 q4)), .second, .val (.long (1 : Int64)), .second, .val (.long (own_exp_fff p1 q2 q3 q4)), .second, .val (.ref b3)]) rfl ?_
    show Steps p.tables e below (T8.setTop (mkF m 129 #[.val (.int p1), .val (.long q2), .second, .val (.long q3), .second, .val (.long q4), .second, .val (.int (own_k p1)), .val (.long (0 : Int64)), .second, .val (.long (own_b_fff p1 q2)), .second, .val (.long (own_r_fff p1 q2 q3)), .second, .val (.long (own_bound_fff p1 q2 q3)), .second, .val (.long (own_q_fff p1 q2 q3 q4)), .second, .val (.long (own_gap_fff p1 q2 q3 q4)), .second, .val (.long (1 : Int64)), .second, .val (.long (own_exp_fff p1 q2 q3 q4)), .second, .val (.ref b3)] [])) _
    refine XS.aload X8.here hx rfl (hb hby at_129) rfl rfl ?_
    show Steps p.tables e below (T8.setTop (mkF m 131 #[.val (.int p1), .val (.long q2), .second, .val (.long q3), .second, .val (.long q4), .second, .val (.int (own_k p1)), .val (.long (0 : Int64)), .second, .val (.long (own_b_fff p1 q2)), .second, .val (.long (own_r_fff p1 q2 q3)), .second, .val (.long (own_bound_fff p1 q2 q3)), .second, .val (.long (own_q_fff p1 q2 q3 q4)), .second, .val (.long (own_gap_fff p1 q2 q3 q4)), .second, .val (.long (1 : Int64)), .second, .val (.long (own_exp_fff p1 q2 q3 q4)), .second, .val (.ref b3)] [(.ref b3)])) _
    refine XS.lload X8.here hx rfl (hb hby at_131) rfl ?_
    show Steps p.tables e below (T8.setTop (mkF m 133 #[.val (.int p1), .val (.long q2), .second, .val (.long q3), .second, .val (.long q4), .second, .val (.int (own_k p1)), .val (.long (0 : Int64)), .second, .val (.long (own_b_fff p1 q2)), .second, .val (.long (own_r_fff p1 q2 q3)), .second, .val (.long (own_bound_fff p1 q2 q3)), .second, .val (.long (own_q_fff p1 q2 q3 q4)), .second, .val (.long (own_gap_fff p1 q2 q3 q4)), .second, .val (.long (1 : Int64)), .second, .val (.long (own_exp_fff p1 q2 q3 q4)), .second, .val (.ref b3)] [(.long (own_gap_fff p1 q2 q3 q4)), (.ref b3)])) _
    refine st14.trans ?_
    show Steps p.tables e below (T14.setTop (mkF m 136 #[.val (.int p1), .val (.long q2), .second, .val (.long q3), .second, .val (.long q4), .second, .val (.int (own_k p1)), .val (.long (0 : Int64)), .second, .val (.long (own_b_fff p1 q2)), .second, .val (.long (own_r_fff p1 q2 q3)), .second, .val (.long (own_bound_fff p1 q2 q3)), .second, .val (.long (own_q_fff p1 q2 q3 q4)), .second, .val (.long (own_gap_fff p1 q2 q3 q4)), .second, .val (.long (1 : Int64)), .second, .val (.long (own_exp_fff p1 q2 q3 q4)), .second, .val (.ref b3)] [(.long (f_length (own_gap_fff p1 q2 q3 q4) (own_b_fff p1 q2) ((63 : Int32) - (f_lnlz (own_b_fff p1 q2))) (((2 : Int64) <<< (((63 : Int32) - (f_lnlz (own_b_fff p1 q2))) &&& 0x3f).toInt64) - (own_b_fff p1 q2))))])) _
    refine XS.lload X14.here hx rfl (hb hby at_136) rfl ?_
    show Steps p.tables e below (T14.setTop (mkF m 138 #[.val (.int p1), .val (.long q2), .second, .val (.long q3), .second, .val (.long q4), .second, .val (.int (own_k p1)), .val (.long (0 : Int64)), .second, .val (.long (own_b_fff p1 q2)), .second, .val (.long (own_r_fff p1 q2 q3)), .second, .val (.long (own_bound_fff p1 q2 q3)), .second, .val (.long (own_q_fff p1 q2 q3 q4)), .second, .val (.long (own_gap_fff p1 q2 q3 q4)), .second, .val (.long (1 : Int64)), .second, .val (.long (own_exp_fff p1 q2 q3 q4)), .second, .val (.ref b3)] [(.long (own_exp_fff p1 q2 q3 q4)), (.long (f_length (own_gap_fff p1 q2 q3 q4) (own_b_fff p1 q2) ((63 : Int32) - (f_lnlz (own_b_fff p1 q2))) (((2 : Int64) <<< (((63 : Int32) - (f_lnlz (own_b_fff p1 q2))) &&& 0x3f).toInt64) - (own_b_fff p1 q2))))])) _
    refine XS.lcmp X14.here hx rfl (hb hby at_138) rfl ?_
    show Steps p.tables e below (T14.setTop (mkF m 139 #[.val (.int p1), .val (.long q2), .second, .val (.long q3), .second, .val (.long q4), .second, .val (.int (own_k p1)), .val (.long (0 : Int64)), .second, .val (.long (own_b_fff p1 q2)), .second, .val (.long (own_r_fff p1 q2 q3)), .second, .val (.long (own_bound_fff p1 q2 q3)), .second, .val (.long (own_q_fff p1 q2 q3 q4)), .second, .val (.long (own_gap_fff p1 q2 q3 q4)), .second, .val (.long (1 : Int64)), .second, .val (.long (own_exp_fff p1 q2 q3 q4)), .second, .val (.ref b3)] [(.int (lcmpW (f_length (own_gap_fff p1 q2 q3 q4) (own_b_fff p1 q2) ((63 : Int32) - (f_lnlz (own_b_fff p1 q2))) (((2 : Int64) <<< (((63 : Int32) - (f_lnlz (own_b_fff p1 q2))) &&& 0x3f).toInt64) - (own_b_fff p1 q2))) (own_exp_fff p1 q2 q3 q4)))])) _
    refine XS.ifNo X14.here hx rfl (hb hby at_139) rfl ((if0 _ _).trans (teq ((lw_eq _ _).mpr (hc2 : (f_length (own_gap_fff p1 q2 q3 q4) (own_b_fff p1 q2) ((63 : Int32) - (f_lnlz (own_b_fff p1 q2))) (((2 : Int64) <<< (((63 : Int32) - (f_lnlz (own_b_fff p1 q2))) &&& 0x3f).toInt64) - (own_b_fff p1 q2))) = (own_exp_fff p1 q2 q3 q4)))).2) ?_
    show Steps p.tables e below (T14.setTop (mkF m 142 #[.val (.int p1), .val (.long q2), .second, .val (.long q3), .second, .val (.long q4), .second, .val (.int (own_k p1)), .val (.long (0 : Int64)), .second, .val (.long (own_b_fff p1 q2)), .second, .val (.long (own_r_fff p1 q2 q3)), .second, .val (.long (own_bound_fff p1 q2 q3)), .second, .val (.long (own_q_fff p1 q2 q3 q4)), .second, .val (.long (own_gap_fff p1 q2 q3 q4)), .second, .val (.long (1 : Int64)), .second, .val (.long (own_exp_fff p1 q2 q3 q4)), .second, .val (.ref b3)] [])) _
    refine XS.iconst X14.here hx rfl (hb hby at_142) ?_
    show Steps p.tables e below (T14.setTop (mkF m 143 #[.val (.int p1), .val (.long q2), .second, .val (.long q3), .second, .val (.long q4), .second, .val (.int (own_k p1)), .val (.long (0 : Int64)), .second, .val (.long (own_b_fff p1 q2)), .second, .val (.long (own_r_fff p1 q2 q3)), .second, .val (.long (own_bound_fff p1 q2 q3)), .second, .val (.long (own_q_fff p1 q2 q3 q4)), .second, .val (.long (own_gap_fff p1 q2 q3 q4)), .second, .val (.long (1 : Int64)), .second, .val (.long (own_exp_fff p1 q2 q3 q4)), .second, .val (.ref b3)] [(.int (1 : Int32))])) _
    refine XS.goto X14.here hx rfl (pc0 := 143) (pc' := 147) rfl (hb hby at_143) (by decide) (by decide) ?_
    show Steps p.tables e below (T14.setTop (mkF m 147 #[.val (.int p1), .val (.long q2), .second, .val (.long q3), .second, .val (.long q4), .second, .val (.int (own_k p1)), .val (.long (0 : Int64)), .second, .val (.long (own_b_fff p1 q2)), .second, .val (.long (own_r_fff p1 q2 q3)), .second, .val (.long (own_bound_fff p1 q2 q3)), .second, .val (.long (own_q_fff p1 q2 q3 q4)), .second, .val (.long (own_gap_fff p1 q2 q3 q4)), .second, .val (.long (1 : Int64)), .second, .val (.long (own_exp_fff p1 q2 q3 q4)), .second, .val (.ref b3)] [(.int (1 : Int32))])) _
    exact retN X14 hx (t := .boolean) Bd.returns (by simp) (hb hby at_147) hr
  · show Q_law Z p1 q2 q3 q4 h0 n0 _ T14.heap _
    rw [e14]
    exact ⟨rfl, N15⟩
theorem own_inlz (p1 : Int32) (h : 0 < p1.toInt) : (f_inlz p1).toInt = 31 - (Nat.log2 p1.toInt.toNat : Int) := by
  have z0 : (0 : Int32).toInt = 0 := by decide
  have z4 : (4 : Int32).toInt = 4 := by decide
  have z16 : (16 : Int32).toInt = 16 := by decide
  have z256 : (256 : Int32).toInt = 256 := by decide
  have z65536 : (65536 : Int32).toInt = 65536 := by decide
  have r0 := rng32 p1
  unfold f_inlz
  rw [if_pos (own_lt32.mpr (by omega))]
  by_cases c0 : p1 < (65536 : Int32)
  · rw [if_pos c0]
    have d0 := own_lt32.mp c0
    by_cases c1 : p1 < (256 : Int32)
    · rw [if_pos c1]
      have d1 := own_lt32.mp c1
      by_cases c2 : p1 < (16 : Int32)
      · rw [if_pos c2]
        have d2 := own_lt32.mp c2
        by_cases c3 : p1 < (4 : Int32)
        · rw [if_pos c3]
          have d3 := own_lt32.mp c3
          have ul := c_iushr p1 1 1 (by decide) (by decide)
          have e := c_isub 31 ((p1.toUInt32 >>> ((1 : Int32) &&& 31).toUInt32).toInt32)
          have g := rng32 (31 - ((p1.toUInt32 >>> ((1 : Int32) &&& 31).toUInt32).toInt32))
          have zn : (31 : Int32).toInt = 31 := by decide
          by_cases lo : p1.toInt < 2
          · have lg : Nat.log2 p1.toInt.toNat = 0 := (Nat.log2_eq_iff (by omega)).mpr ⟨by omega, by omega⟩
            rw [lg]; omega
          · have lg : Nat.log2 p1.toInt.toNat = 1 := (Nat.log2_eq_iff (by omega)).mpr ⟨by omega, by omega⟩
            rw [lg]; omega
        · rw [if_neg c3]
          have d3 : ¬ (p1).toInt < (4 : Int32).toInt := fun q => c3 (own_lt32.mpr q)
          have u0 := c_iushr p1 2 2 (by decide) (by decide)
          have ul := c_iushr ((p1.toUInt32 >>> ((2 : Int32) &&& 31).toUInt32).toInt32) 1 1 (by decide) (by decide)
          have e := c_isub 29 ((((p1.toUInt32 >>> ((2 : Int32) &&& 31).toUInt32).toInt32).toUInt32 >>> ((1 : Int32) &&& 31).toUInt32).toInt32)
          have g := rng32 (29 - ((((p1.toUInt32 >>> ((2 : Int32) &&& 31).toUInt32).toInt32).toUInt32 >>> ((1 : Int32) &&& 31).toUInt32).toInt32))
          have zn : (29 : Int32).toInt = 29 := by decide
          by_cases lo : p1.toInt < 8
          · have lg : Nat.log2 p1.toInt.toNat = 2 := (Nat.log2_eq_iff (by omega)).mpr ⟨by omega, by omega⟩
            rw [lg]; omega
          · have lg : Nat.log2 p1.toInt.toNat = 3 := (Nat.log2_eq_iff (by omega)).mpr ⟨by omega, by omega⟩
            rw [lg]; omega
      · rw [if_neg c2]
        have d2 : ¬ (p1).toInt < (16 : Int32).toInt := fun q => c2 (own_lt32.mpr q)
        by_cases c3 : ((p1.toUInt32 >>> ((4 : Int32) &&& 31).toUInt32).toInt32) < (4 : Int32)
        · rw [if_pos c3]
          have d3 := own_lt32.mp c3
          have u0 := c_iushr p1 4 4 (by decide) (by decide)
          have ul := c_iushr ((p1.toUInt32 >>> ((4 : Int32) &&& 31).toUInt32).toInt32) 1 1 (by decide) (by decide)
          have e := c_isub 27 ((((p1.toUInt32 >>> ((4 : Int32) &&& 31).toUInt32).toInt32).toUInt32 >>> ((1 : Int32) &&& 31).toUInt32).toInt32)
          have g := rng32 (27 - ((((p1.toUInt32 >>> ((4 : Int32) &&& 31).toUInt32).toInt32).toUInt32 >>> ((1 : Int32) &&& 31).toUInt32).toInt32))
          have zn : (27 : Int32).toInt = 27 := by decide
          by_cases lo : p1.toInt < 32
          · have lg : Nat.log2 p1.toInt.toNat = 4 := (Nat.log2_eq_iff (by omega)).mpr ⟨by omega, by omega⟩
            rw [lg]; omega
          · have lg : Nat.log2 p1.toInt.toNat = 5 := (Nat.log2_eq_iff (by omega)).mpr ⟨by omega, by omega⟩
            rw [lg]; omega
        · rw [if_neg c3]
          have d3 : ¬ (((p1.toUInt32 >>> ((4 : Int32) &&& 31).toUInt32).toInt32)).toInt < (4 : Int32).toInt := fun q => c3 (own_lt32.mpr q)
          have u0 := c_iushr p1 4 4 (by decide) (by decide)
          have u1 := c_iushr ((p1.toUInt32 >>> ((4 : Int32) &&& 31).toUInt32).toInt32) 2 2 (by decide) (by decide)
          have ul := c_iushr ((((p1.toUInt32 >>> ((4 : Int32) &&& 31).toUInt32).toInt32).toUInt32 >>> ((2 : Int32) &&& 31).toUInt32).toInt32) 1 1 (by decide) (by decide)
          have e := c_isub 25 ((((((p1.toUInt32 >>> ((4 : Int32) &&& 31).toUInt32).toInt32).toUInt32 >>> ((2 : Int32) &&& 31).toUInt32).toInt32).toUInt32 >>> ((1 : Int32) &&& 31).toUInt32).toInt32)
          have g := rng32 (25 - ((((((p1.toUInt32 >>> ((4 : Int32) &&& 31).toUInt32).toInt32).toUInt32 >>> ((2 : Int32) &&& 31).toUInt32).toInt32).toUInt32 >>> ((1 : Int32) &&& 31).toUInt32).toInt32))
          have zn : (25 : Int32).toInt = 25 := by decide
          by_cases lo : p1.toInt < 128
          · have lg : Nat.log2 p1.toInt.toNat = 6 := (Nat.log2_eq_iff (by omega)).mpr ⟨by omega, by omega⟩
            rw [lg]; omega
          · have lg : Nat.log2 p1.toInt.toNat = 7 := (Nat.log2_eq_iff (by omega)).mpr ⟨by omega, by omega⟩
            rw [lg]; omega
    · rw [if_neg c1]
      have d1 : ¬ (p1).toInt < (256 : Int32).toInt := fun q => c1 (own_lt32.mpr q)
      by_cases c2 : ((p1.toUInt32 >>> ((8 : Int32) &&& 31).toUInt32).toInt32) < (16 : Int32)
      · rw [if_pos c2]
        have d2 := own_lt32.mp c2
        by_cases c3 : ((p1.toUInt32 >>> ((8 : Int32) &&& 31).toUInt32).toInt32) < (4 : Int32)
        · rw [if_pos c3]
          have d3 := own_lt32.mp c3
          have u0 := c_iushr p1 8 8 (by decide) (by decide)
          have ul := c_iushr ((p1.toUInt32 >>> ((8 : Int32) &&& 31).toUInt32).toInt32) 1 1 (by decide) (by decide)
          have e := c_isub 23 ((((p1.toUInt32 >>> ((8 : Int32) &&& 31).toUInt32).toInt32).toUInt32 >>> ((1 : Int32) &&& 31).toUInt32).toInt32)
          have g := rng32 (23 - ((((p1.toUInt32 >>> ((8 : Int32) &&& 31).toUInt32).toInt32).toUInt32 >>> ((1 : Int32) &&& 31).toUInt32).toInt32))
          have zn : (23 : Int32).toInt = 23 := by decide
          by_cases lo : p1.toInt < 512
          · have lg : Nat.log2 p1.toInt.toNat = 8 := (Nat.log2_eq_iff (by omega)).mpr ⟨by omega, by omega⟩
            rw [lg]; omega
          · have lg : Nat.log2 p1.toInt.toNat = 9 := (Nat.log2_eq_iff (by omega)).mpr ⟨by omega, by omega⟩
            rw [lg]; omega
        · rw [if_neg c3]
          have d3 : ¬ (((p1.toUInt32 >>> ((8 : Int32) &&& 31).toUInt32).toInt32)).toInt < (4 : Int32).toInt := fun q => c3 (own_lt32.mpr q)
          have u0 := c_iushr p1 8 8 (by decide) (by decide)
          have u1 := c_iushr ((p1.toUInt32 >>> ((8 : Int32) &&& 31).toUInt32).toInt32) 2 2 (by decide) (by decide)
          have ul := c_iushr ((((p1.toUInt32 >>> ((8 : Int32) &&& 31).toUInt32).toInt32).toUInt32 >>> ((2 : Int32) &&& 31).toUInt32).toInt32) 1 1 (by decide) (by decide)
          have e := c_isub 21 ((((((p1.toUInt32 >>> ((8 : Int32) &&& 31).toUInt32).toInt32).toUInt32 >>> ((2 : Int32) &&& 31).toUInt32).toInt32).toUInt32 >>> ((1 : Int32) &&& 31).toUInt32).toInt32)
          have g := rng32 (21 - ((((((p1.toUInt32 >>> ((8 : Int32) &&& 31).toUInt32).toInt32).toUInt32 >>> ((2 : Int32) &&& 31).toUInt32).toInt32).toUInt32 >>> ((1 : Int32) &&& 31).toUInt32).toInt32))
          have zn : (21 : Int32).toInt = 21 := by decide
          by_cases lo : p1.toInt < 2048
          · have lg : Nat.log2 p1.toInt.toNat = 10 := (Nat.log2_eq_iff (by omega)).mpr ⟨by omega, by omega⟩
            rw [lg]; omega
          · have lg : Nat.log2 p1.toInt.toNat = 11 := (Nat.log2_eq_iff (by omega)).mpr ⟨by omega, by omega⟩
            rw [lg]; omega
      · rw [if_neg c2]
        have d2 : ¬ (((p1.toUInt32 >>> ((8 : Int32) &&& 31).toUInt32).toInt32)).toInt < (16 : Int32).toInt := fun q => c2 (own_lt32.mpr q)
        by_cases c3 : ((((p1.toUInt32 >>> ((8 : Int32) &&& 31).toUInt32).toInt32).toUInt32 >>> ((4 : Int32) &&& 31).toUInt32).toInt32) < (4 : Int32)
        · rw [if_pos c3]
          have d3 := own_lt32.mp c3
          have u0 := c_iushr p1 8 8 (by decide) (by decide)
          have u1 := c_iushr ((p1.toUInt32 >>> ((8 : Int32) &&& 31).toUInt32).toInt32) 4 4 (by decide) (by decide)
          have ul := c_iushr ((((p1.toUInt32 >>> ((8 : Int32) &&& 31).toUInt32).toInt32).toUInt32 >>> ((4 : Int32) &&& 31).toUInt32).toInt32) 1 1 (by decide) (by decide)
          have e := c_isub 19 ((((((p1.toUInt32 >>> ((8 : Int32) &&& 31).toUInt32).toInt32).toUInt32 >>> ((4 : Int32) &&& 31).toUInt32).toInt32).toUInt32 >>> ((1 : Int32) &&& 31).toUInt32).toInt32)
          have g := rng32 (19 - ((((((p1.toUInt32 >>> ((8 : Int32) &&& 31).toUInt32).toInt32).toUInt32 >>> ((4 : Int32) &&& 31).toUInt32).toInt32).toUInt32 >>> ((1 : Int32) &&& 31).toUInt32).toInt32))
          have zn : (19 : Int32).toInt = 19 := by decide
          by_cases lo : p1.toInt < 8192
          · have lg : Nat.log2 p1.toInt.toNat = 12 := (Nat.log2_eq_iff (by omega)).mpr ⟨by omega, by omega⟩
            rw [lg]; omega
          · have lg : Nat.log2 p1.toInt.toNat = 13 := (Nat.log2_eq_iff (by omega)).mpr ⟨by omega, by omega⟩
            rw [lg]; omega
        · rw [if_neg c3]
          have d3 : ¬ (((((p1.toUInt32 >>> ((8 : Int32) &&& 31).toUInt32).toInt32).toUInt32 >>> ((4 : Int32) &&& 31).toUInt32).toInt32)).toInt < (4 : Int32).toInt := fun q => c3 (own_lt32.mpr q)
          have u0 := c_iushr p1 8 8 (by decide) (by decide)
          have u1 := c_iushr ((p1.toUInt32 >>> ((8 : Int32) &&& 31).toUInt32).toInt32) 4 4 (by decide) (by decide)
          have u2 := c_iushr ((((p1.toUInt32 >>> ((8 : Int32) &&& 31).toUInt32).toInt32).toUInt32 >>> ((4 : Int32) &&& 31).toUInt32).toInt32) 2 2 (by decide) (by decide)
          have ul := c_iushr ((((((p1.toUInt32 >>> ((8 : Int32) &&& 31).toUInt32).toInt32).toUInt32 >>> ((4 : Int32) &&& 31).toUInt32).toInt32).toUInt32 >>> ((2 : Int32) &&& 31).toUInt32).toInt32) 1 1 (by decide) (by decide)
          have e := c_isub 17 ((((((((p1.toUInt32 >>> ((8 : Int32) &&& 31).toUInt32).toInt32).toUInt32 >>> ((4 : Int32) &&& 31).toUInt32).toInt32).toUInt32 >>> ((2 : Int32) &&& 31).toUInt32).toInt32).toUInt32 >>> ((1 : Int32) &&& 31).toUInt32).toInt32)
          have g := rng32 (17 - ((((((((p1.toUInt32 >>> ((8 : Int32) &&& 31).toUInt32).toInt32).toUInt32 >>> ((4 : Int32) &&& 31).toUInt32).toInt32).toUInt32 >>> ((2 : Int32) &&& 31).toUInt32).toInt32).toUInt32 >>> ((1 : Int32) &&& 31).toUInt32).toInt32))
          have zn : (17 : Int32).toInt = 17 := by decide
          by_cases lo : p1.toInt < 32768
          · have lg : Nat.log2 p1.toInt.toNat = 14 := (Nat.log2_eq_iff (by omega)).mpr ⟨by omega, by omega⟩
            rw [lg]; omega
          · have lg : Nat.log2 p1.toInt.toNat = 15 := (Nat.log2_eq_iff (by omega)).mpr ⟨by omega, by omega⟩
            rw [lg]; omega
  · rw [if_neg c0]
    have d0 : ¬ (p1).toInt < (65536 : Int32).toInt := fun q => c0 (own_lt32.mpr q)
    by_cases c1 : ((p1.toUInt32 >>> ((16 : Int32) &&& 31).toUInt32).toInt32) < (256 : Int32)
    · rw [if_pos c1]
      have d1 := own_lt32.mp c1
      by_cases c2 : ((p1.toUInt32 >>> ((16 : Int32) &&& 31).toUInt32).toInt32) < (16 : Int32)
      · rw [if_pos c2]
        have d2 := own_lt32.mp c2
        by_cases c3 : ((p1.toUInt32 >>> ((16 : Int32) &&& 31).toUInt32).toInt32) < (4 : Int32)
        · rw [if_pos c3]
          have d3 := own_lt32.mp c3
          have u0 := c_iushr p1 16 16 (by decide) (by decide)
          have ul := c_iushr ((p1.toUInt32 >>> ((16 : Int32) &&& 31).toUInt32).toInt32) 1 1 (by decide) (by decide)
          have e := c_isub 15 ((((p1.toUInt32 >>> ((16 : Int32) &&& 31).toUInt32).toInt32).toUInt32 >>> ((1 : Int32) &&& 31).toUInt32).toInt32)
          have g := rng32 (15 - ((((p1.toUInt32 >>> ((16 : Int32) &&& 31).toUInt32).toInt32).toUInt32 >>> ((1 : Int32) &&& 31).toUInt32).toInt32))
          have zn : (15 : Int32).toInt = 15 := by decide
          by_cases lo : p1.toInt < 131072
          · have lg : Nat.log2 p1.toInt.toNat = 16 := (Nat.log2_eq_iff (by omega)).mpr ⟨by omega, by omega⟩
            rw [lg]; omega
          · have lg : Nat.log2 p1.toInt.toNat = 17 := (Nat.log2_eq_iff (by omega)).mpr ⟨by omega, by omega⟩
            rw [lg]; omega
        · rw [if_neg c3]
          have d3 : ¬ (((p1.toUInt32 >>> ((16 : Int32) &&& 31).toUInt32).toInt32)).toInt < (4 : Int32).toInt := fun q => c3 (own_lt32.mpr q)
          have u0 := c_iushr p1 16 16 (by decide) (by decide)
          have u1 := c_iushr ((p1.toUInt32 >>> ((16 : Int32) &&& 31).toUInt32).toInt32) 2 2 (by decide) (by decide)
          have ul := c_iushr ((((p1.toUInt32 >>> ((16 : Int32) &&& 31).toUInt32).toInt32).toUInt32 >>> ((2 : Int32) &&& 31).toUInt32).toInt32) 1 1 (by decide) (by decide)
          have e := c_isub 13 ((((((p1.toUInt32 >>> ((16 : Int32) &&& 31).toUInt32).toInt32).toUInt32 >>> ((2 : Int32) &&& 31).toUInt32).toInt32).toUInt32 >>> ((1 : Int32) &&& 31).toUInt32).toInt32)
          have g := rng32 (13 - ((((((p1.toUInt32 >>> ((16 : Int32) &&& 31).toUInt32).toInt32).toUInt32 >>> ((2 : Int32) &&& 31).toUInt32).toInt32).toUInt32 >>> ((1 : Int32) &&& 31).toUInt32).toInt32))
          have zn : (13 : Int32).toInt = 13 := by decide
          by_cases lo : p1.toInt < 524288
          · have lg : Nat.log2 p1.toInt.toNat = 18 := (Nat.log2_eq_iff (by omega)).mpr ⟨by omega, by omega⟩
            rw [lg]; omega
          · have lg : Nat.log2 p1.toInt.toNat = 19 := (Nat.log2_eq_iff (by omega)).mpr ⟨by omega, by omega⟩
            rw [lg]; omega
      · rw [if_neg c2]
        have d2 : ¬ (((p1.toUInt32 >>> ((16 : Int32) &&& 31).toUInt32).toInt32)).toInt < (16 : Int32).toInt := fun q => c2 (own_lt32.mpr q)
        by_cases c3 : ((((p1.toUInt32 >>> ((16 : Int32) &&& 31).toUInt32).toInt32).toUInt32 >>> ((4 : Int32) &&& 31).toUInt32).toInt32) < (4 : Int32)
        · rw [if_pos c3]
          have d3 := own_lt32.mp c3
          have u0 := c_iushr p1 16 16 (by decide) (by decide)
          have u1 := c_iushr ((p1.toUInt32 >>> ((16 : Int32) &&& 31).toUInt32).toInt32) 4 4 (by decide) (by decide)
          have ul := c_iushr ((((p1.toUInt32 >>> ((16 : Int32) &&& 31).toUInt32).toInt32).toUInt32 >>> ((4 : Int32) &&& 31).toUInt32).toInt32) 1 1 (by decide) (by decide)
          have e := c_isub 11 ((((((p1.toUInt32 >>> ((16 : Int32) &&& 31).toUInt32).toInt32).toUInt32 >>> ((4 : Int32) &&& 31).toUInt32).toInt32).toUInt32 >>> ((1 : Int32) &&& 31).toUInt32).toInt32)
          have g := rng32 (11 - ((((((p1.toUInt32 >>> ((16 : Int32) &&& 31).toUInt32).toInt32).toUInt32 >>> ((4 : Int32) &&& 31).toUInt32).toInt32).toUInt32 >>> ((1 : Int32) &&& 31).toUInt32).toInt32))
          have zn : (11 : Int32).toInt = 11 := by decide
          by_cases lo : p1.toInt < 2097152
          · have lg : Nat.log2 p1.toInt.toNat = 20 := (Nat.log2_eq_iff (by omega)).mpr ⟨by omega, by omega⟩
            rw [lg]; omega
          · have lg : Nat.log2 p1.toInt.toNat = 21 := (Nat.log2_eq_iff (by omega)).mpr ⟨by omega, by omega⟩
            rw [lg]; omega
        · rw [if_neg c3]
          have d3 : ¬ (((((p1.toUInt32 >>> ((16 : Int32) &&& 31).toUInt32).toInt32).toUInt32 >>> ((4 : Int32) &&& 31).toUInt32).toInt32)).toInt < (4 : Int32).toInt := fun q => c3 (own_lt32.mpr q)
          have u0 := c_iushr p1 16 16 (by decide) (by decide)
          have u1 := c_iushr ((p1.toUInt32 >>> ((16 : Int32) &&& 31).toUInt32).toInt32) 4 4 (by decide) (by decide)
          have u2 := c_iushr ((((p1.toUInt32 >>> ((16 : Int32) &&& 31).toUInt32).toInt32).toUInt32 >>> ((4 : Int32) &&& 31).toUInt32).toInt32) 2 2 (by decide) (by decide)
          have ul := c_iushr ((((((p1.toUInt32 >>> ((16 : Int32) &&& 31).toUInt32).toInt32).toUInt32 >>> ((4 : Int32) &&& 31).toUInt32).toInt32).toUInt32 >>> ((2 : Int32) &&& 31).toUInt32).toInt32) 1 1 (by decide) (by decide)
          have e := c_isub 9 ((((((((p1.toUInt32 >>> ((16 : Int32) &&& 31).toUInt32).toInt32).toUInt32 >>> ((4 : Int32) &&& 31).toUInt32).toInt32).toUInt32 >>> ((2 : Int32) &&& 31).toUInt32).toInt32).toUInt32 >>> ((1 : Int32) &&& 31).toUInt32).toInt32)
          have g := rng32 (9 - ((((((((p1.toUInt32 >>> ((16 : Int32) &&& 31).toUInt32).toInt32).toUInt32 >>> ((4 : Int32) &&& 31).toUInt32).toInt32).toUInt32 >>> ((2 : Int32) &&& 31).toUInt32).toInt32).toUInt32 >>> ((1 : Int32) &&& 31).toUInt32).toInt32))
          have zn : (9 : Int32).toInt = 9 := by decide
          by_cases lo : p1.toInt < 8388608
          · have lg : Nat.log2 p1.toInt.toNat = 22 := (Nat.log2_eq_iff (by omega)).mpr ⟨by omega, by omega⟩
            rw [lg]; omega
          · have lg : Nat.log2 p1.toInt.toNat = 23 := (Nat.log2_eq_iff (by omega)).mpr ⟨by omega, by omega⟩
            rw [lg]; omega
    · rw [if_neg c1]
      have d1 : ¬ (((p1.toUInt32 >>> ((16 : Int32) &&& 31).toUInt32).toInt32)).toInt < (256 : Int32).toInt := fun q => c1 (own_lt32.mpr q)
      by_cases c2 : ((((p1.toUInt32 >>> ((16 : Int32) &&& 31).toUInt32).toInt32).toUInt32 >>> ((8 : Int32) &&& 31).toUInt32).toInt32) < (16 : Int32)
      · rw [if_pos c2]
        have d2 := own_lt32.mp c2
        by_cases c3 : ((((p1.toUInt32 >>> ((16 : Int32) &&& 31).toUInt32).toInt32).toUInt32 >>> ((8 : Int32) &&& 31).toUInt32).toInt32) < (4 : Int32)
        · rw [if_pos c3]
          have d3 := own_lt32.mp c3
          have u0 := c_iushr p1 16 16 (by decide) (by decide)
          have u1 := c_iushr ((p1.toUInt32 >>> ((16 : Int32) &&& 31).toUInt32).toInt32) 8 8 (by decide) (by decide)
          have ul := c_iushr ((((p1.toUInt32 >>> ((16 : Int32) &&& 31).toUInt32).toInt32).toUInt32 >>> ((8 : Int32) &&& 31).toUInt32).toInt32) 1 1 (by decide) (by decide)
          have e := c_isub 7 ((((((p1.toUInt32 >>> ((16 : Int32) &&& 31).toUInt32).toInt32).toUInt32 >>> ((8 : Int32) &&& 31).toUInt32).toInt32).toUInt32 >>> ((1 : Int32) &&& 31).toUInt32).toInt32)
          have g := rng32 (7 - ((((((p1.toUInt32 >>> ((16 : Int32) &&& 31).toUInt32).toInt32).toUInt32 >>> ((8 : Int32) &&& 31).toUInt32).toInt32).toUInt32 >>> ((1 : Int32) &&& 31).toUInt32).toInt32))
          have zn : (7 : Int32).toInt = 7 := by decide
          by_cases lo : p1.toInt < 33554432
          · have lg : Nat.log2 p1.toInt.toNat = 24 := (Nat.log2_eq_iff (by omega)).mpr ⟨by omega, by omega⟩
            rw [lg]; omega
          · have lg : Nat.log2 p1.toInt.toNat = 25 := (Nat.log2_eq_iff (by omega)).mpr ⟨by omega, by omega⟩
            rw [lg]; omega
        · rw [if_neg c3]
          have d3 : ¬ (((((p1.toUInt32 >>> ((16 : Int32) &&& 31).toUInt32).toInt32).toUInt32 >>> ((8 : Int32) &&& 31).toUInt32).toInt32)).toInt < (4 : Int32).toInt := fun q => c3 (own_lt32.mpr q)
          have u0 := c_iushr p1 16 16 (by decide) (by decide)
          have u1 := c_iushr ((p1.toUInt32 >>> ((16 : Int32) &&& 31).toUInt32).toInt32) 8 8 (by decide) (by decide)
          have u2 := c_iushr ((((p1.toUInt32 >>> ((16 : Int32) &&& 31).toUInt32).toInt32).toUInt32 >>> ((8 : Int32) &&& 31).toUInt32).toInt32) 2 2 (by decide) (by decide)
          have ul := c_iushr ((((((p1.toUInt32 >>> ((16 : Int32) &&& 31).toUInt32).toInt32).toUInt32 >>> ((8 : Int32) &&& 31).toUInt32).toInt32).toUInt32 >>> ((2 : Int32) &&& 31).toUInt32).toInt32) 1 1 (by decide) (by decide)
          have e := c_isub 5 ((((((((p1.toUInt32 >>> ((16 : Int32) &&& 31).toUInt32).toInt32).toUInt32 >>> ((8 : Int32) &&& 31).toUInt32).toInt32).toUInt32 >>> ((2 : Int32) &&& 31).toUInt32).toInt32).toUInt32 >>> ((1 : Int32) &&& 31).toUInt32).toInt32)
          have g := rng32 (5 - ((((((((p1.toUInt32 >>> ((16 : Int32) &&& 31).toUInt32).toInt32).toUInt32 >>> ((8 : Int32) &&& 31).toUInt32).toInt32).toUInt32 >>> ((2 : Int32) &&& 31).toUInt32).toInt32).toUInt32 >>> ((1 : Int32) &&& 31).toUInt32).toInt32))
          have zn : (5 : Int32).toInt = 5 := by decide
          by_cases lo : p1.toInt < 134217728
          · have lg : Nat.log2 p1.toInt.toNat = 26 := (Nat.log2_eq_iff (by omega)).mpr ⟨by omega, by omega⟩
            rw [lg]; omega
          · have lg : Nat.log2 p1.toInt.toNat = 27 := (Nat.log2_eq_iff (by omega)).mpr ⟨by omega, by omega⟩
            rw [lg]; omega
      · rw [if_neg c2]
        have d2 : ¬ (((((p1.toUInt32 >>> ((16 : Int32) &&& 31).toUInt32).toInt32).toUInt32 >>> ((8 : Int32) &&& 31).toUInt32).toInt32)).toInt < (16 : Int32).toInt := fun q => c2 (own_lt32.mpr q)
        by_cases c3 : ((((((p1.toUInt32 >>> ((16 : Int32) &&& 31).toUInt32).toInt32).toUInt32 >>> ((8 : Int32) &&& 31).toUInt32).toInt32).toUInt32 >>> ((4 : Int32) &&& 31).toUInt32).toInt32) < (4 : Int32)
        · rw [if_pos c3]
          have d3 := own_lt32.mp c3
          have u0 := c_iushr p1 16 16 (by decide) (by decide)
          have u1 := c_iushr ((p1.toUInt32 >>> ((16 : Int32) &&& 31).toUInt32).toInt32) 8 8 (by decide) (by decide)
          have u2 := c_iushr ((((p1.toUInt32 >>> ((16 : Int32) &&& 31).toUInt32).toInt32).toUInt32 >>> ((8 : Int32) &&& 31).toUInt32).toInt32) 4 4 (by decide) (by decide)
          have ul := c_iushr ((((((p1.toUInt32 >>> ((16 : Int32) &&& 31).toUInt32).toInt32).toUInt32 >>> ((8 : Int32) &&& 31).toUInt32).toInt32).toUInt32 >>> ((4 : Int32) &&& 31).toUInt32).toInt32) 1 1 (by decide) (by decide)
          have e := c_isub 3 ((((((((p1.toUInt32 >>> ((16 : Int32) &&& 31).toUInt32).toInt32).toUInt32 >>> ((8 : Int32) &&& 31).toUInt32).toInt32).toUInt32 >>> ((4 : Int32) &&& 31).toUInt32).toInt32).toUInt32 >>> ((1 : Int32) &&& 31).toUInt32).toInt32)
          have g := rng32 (3 - ((((((((p1.toUInt32 >>> ((16 : Int32) &&& 31).toUInt32).toInt32).toUInt32 >>> ((8 : Int32) &&& 31).toUInt32).toInt32).toUInt32 >>> ((4 : Int32) &&& 31).toUInt32).toInt32).toUInt32 >>> ((1 : Int32) &&& 31).toUInt32).toInt32))
          have zn : (3 : Int32).toInt = 3 := by decide
          by_cases lo : p1.toInt < 536870912
          · have lg : Nat.log2 p1.toInt.toNat = 28 := (Nat.log2_eq_iff (by omega)).mpr ⟨by omega, by omega⟩
            rw [lg]; omega
          · have lg : Nat.log2 p1.toInt.toNat = 29 := (Nat.log2_eq_iff (by omega)).mpr ⟨by omega, by omega⟩
            rw [lg]; omega
        · rw [if_neg c3]
          have d3 : ¬ (((((((p1.toUInt32 >>> ((16 : Int32) &&& 31).toUInt32).toInt32).toUInt32 >>> ((8 : Int32) &&& 31).toUInt32).toInt32).toUInt32 >>> ((4 : Int32) &&& 31).toUInt32).toInt32)).toInt < (4 : Int32).toInt := fun q => c3 (own_lt32.mpr q)
          have u0 := c_iushr p1 16 16 (by decide) (by decide)
          have u1 := c_iushr ((p1.toUInt32 >>> ((16 : Int32) &&& 31).toUInt32).toInt32) 8 8 (by decide) (by decide)
          have u2 := c_iushr ((((p1.toUInt32 >>> ((16 : Int32) &&& 31).toUInt32).toInt32).toUInt32 >>> ((8 : Int32) &&& 31).toUInt32).toInt32) 4 4 (by decide) (by decide)
          have u3 := c_iushr ((((((p1.toUInt32 >>> ((16 : Int32) &&& 31).toUInt32).toInt32).toUInt32 >>> ((8 : Int32) &&& 31).toUInt32).toInt32).toUInt32 >>> ((4 : Int32) &&& 31).toUInt32).toInt32) 2 2 (by decide) (by decide)
          have ul := c_iushr ((((((((p1.toUInt32 >>> ((16 : Int32) &&& 31).toUInt32).toInt32).toUInt32 >>> ((8 : Int32) &&& 31).toUInt32).toInt32).toUInt32 >>> ((4 : Int32) &&& 31).toUInt32).toInt32).toUInt32 >>> ((2 : Int32) &&& 31).toUInt32).toInt32) 1 1 (by decide) (by decide)
          have e := c_isub 1 ((((((((((p1.toUInt32 >>> ((16 : Int32) &&& 31).toUInt32).toInt32).toUInt32 >>> ((8 : Int32) &&& 31).toUInt32).toInt32).toUInt32 >>> ((4 : Int32) &&& 31).toUInt32).toInt32).toUInt32 >>> ((2 : Int32) &&& 31).toUInt32).toInt32).toUInt32 >>> ((1 : Int32) &&& 31).toUInt32).toInt32)
          have g := rng32 (1 - ((((((((((p1.toUInt32 >>> ((16 : Int32) &&& 31).toUInt32).toInt32).toUInt32 >>> ((8 : Int32) &&& 31).toUInt32).toInt32).toUInt32 >>> ((4 : Int32) &&& 31).toUInt32).toInt32).toUInt32 >>> ((2 : Int32) &&& 31).toUInt32).toInt32).toUInt32 >>> ((1 : Int32) &&& 31).toUInt32).toInt32))
          have zn : (1 : Int32).toInt = 1 := by decide
          by_cases lo : p1.toInt < 2147483648
          · have lg : Nat.log2 p1.toInt.toNat = 30 := (Nat.log2_eq_iff (by omega)).mpr ⟨by omega, by omega⟩
            rw [lg]; omega
          · have lg : Nat.log2 p1.toInt.toNat = 31 := (Nat.log2_eq_iff (by omega)).mpr ⟨by omega, by omega⟩
            rw [lg]; omega
theorem own_inlz_neg (p1 : Int32) (h : p1.toInt < 0) : (f_inlz p1).toInt = 0 := by
  have z0 : (0 : Int32).toInt = 0 := by decide
  unfold f_inlz
  rw [if_neg (fun q => by rw [own_lt32] at q; omega), if_neg (fun q => by have := congrArg Int32.toInt q; omega)]
  decide
theorem own_log_div (n : Nat) (h : 1 ≤ n / 4294967296) : Nat.log2 n = 32 + Nat.log2 (n / 4294967296) := by
  have hn : n ≠ 0 := by omega
  have hd : n / 4294967296 ≠ 0 := by omega
  have e := (Nat.log2_eq_iff hd).mp rfl
  generalize Nat.log2 (n / 4294967296) = j at *
  refine (Nat.log2_eq_iff hn).mpr ⟨?_, ?_⟩
  · rw [Nat.pow_add]
    have := e.1
    omega
  · rw [show 32 + j + 1 = 32 + (j + 1) by omega, Nat.pow_add]
    have := e.2
    omega
theorem own_lnlz (b : Int64) (h : 0 < b.toInt) : (f_lnlz b).toInt = 63 - (Nat.log2 b.toInt.toNat : Int) := by
  have z0 : (0 : Int32).toInt = 0 := by decide
  have z32 : (32 : Int32).toInt = 32 := by decide
  have rb := rng64 b
  have u := c_lushr b 32 32 (by decide) (by decide)
  have l := c_l2i ((b.toUInt64 >>> ((32 : Int32) &&& 0x3f).toInt64.toUInt64).toInt64)
  have rl := rng32 (((b.toUInt64 >>> ((32 : Int32) &&& 0x3f).toInt64.toUInt64).toInt64).toInt32)
  have hi : (((b.toUInt64 >>> ((32 : Int32) &&& 0x3f).toInt64.toUInt64).toInt64).toInt32).toInt = b.toInt / 4294967296 := by omega
  unfold f_lnlz
  by_cases c : (((b.toUInt64 >>> ((32 : Int32) &&& 0x3f).toInt64.toUInt64).toInt64).toInt32) = (0 : Int32)
  · rw [if_pos c]
    have c' := congrArg Int32.toInt c
    have l2 := c_l2i b
    have r2 := rng32 b.toInt32
    have a := c_iadd 32 (f_inlz b.toInt32)
    have ra := rng32 (32 + f_inlz b.toInt32)
    by_cases d : b.toInt < 2147483648
    · have e : b.toInt32.toInt = b.toInt := by omega
      have q := own_inlz b.toInt32 (by omega)
      rw [e] at q
      have lg : Nat.log2 b.toInt.toNat < 31 := (Nat.log2_lt (by omega)).mpr (by omega)
      omega
    · have q := own_inlz_neg b.toInt32 (by omega)
      have lg : Nat.log2 b.toInt.toNat = 31 := (Nat.log2_eq_iff (by omega)).mpr ⟨by omega, by omega⟩
      rw [lg]
      omega
  · rw [if_neg c]
    have c' : ¬ (((b.toUInt64 >>> ((32 : Int32) &&& 0x3f).toInt64.toUInt64).toInt64).toInt32).toInt = 0 := fun q => c (own_eq32 (by omega))
    rw [own_inlz _ (by omega), hi]
    have e : (b.toInt / 4294967296).toNat = b.toInt.toNat / 4294967296 := by omega
    rw [e]
    have lg := own_log_div b.toInt.toNat (by omega)
    omega
theorem own_k_rng (p1 : Int32) : 0 ≤ (own_k p1).toInt ∧ (own_k p1).toInt ≤ 61 := by
  have e := own_imod_rng (p1 &&& 2147483647) 62 (own_mI p1).1 (by decide)
  have o : (62 : Int32).toInt = 62 := by decide
  unfold own_k; omega
theorem own_kn (k : Int32) (h0 : 0 ≤ k.toInt) (h1 : k.toInt ≤ 61) : k.toBitVec.toNat % 64 = k.toInt.toNat := by
  have e : k.toInt = if 2 * k.toBitVec.toNat < 2 ^ 32 then (k.toBitVec.toNat : Int) else (k.toBitVec.toNat : Int) - (2 ^ 32 : Nat) := BitVec.toInt_eq_toNat_cond _
  split at e <;> omega
theorem own_pow (K : Nat) (h : K ≤ 61) : 1 ≤ 2 ^ K ∧ 2 ^ K ≤ 2305843009213693952 := ⟨Nat.one_le_two_pow, by
  have := Nat.pow_le_pow_right (show 0 < 2 by decide) h
  exact Nat.le_trans this (by decide)⟩
theorem own_one (k : Int32) (h0 : 0 ≤ k.toInt) (h1 : k.toInt ≤ 61) : ((1 : Int64) <<< (k &&& 0x3f).toInt64).toInt = ((2 ^ k.toInt.toNat : Nat) : Int) := by
  have a := c_lshl 1 k k.toInt.toNat (own_kn k h0 h1)
  have p := own_pow k.toInt.toNat (by omega)
  have r := rng64 ((1 : Int64) <<< (k &&& 0x3f).toInt64)
  have o : (1 : Int64).toInt = 1 := by decide
  rw [o] at a
  omega
theorem own_two (k : Int32) (h0 : 0 ≤ k.toInt) (h1 : k.toInt ≤ 61) : ((2 : Int64) <<< (k &&& 0x3f).toInt64).toInt = 2 * ((2 ^ k.toInt.toNat : Nat) : Int) := by
  have a := c_lshl 2 k k.toInt.toNat (own_kn k h0 h1)
  have p := own_pow k.toInt.toNat (by omega)
  have r := rng64 ((2 : Int64) <<< (k &&& 0x3f).toInt64)
  have o : (2 : Int64).toInt = 2 := by decide
  rw [o] at a
  omega
theorem own_sb (k : Int32) (b : Int64) (h0 : 0 ≤ k.toInt) (h1 : k.toInt ≤ 61) (hb0 : ((2 ^ k.toInt.toNat : Nat) : Int) ≤ b.toInt) (hb1 : b.toInt < 2 * ((2 ^ k.toInt.toNat : Nat) : Int)) : (63 : Int32) - f_lnlz b = k := by
  have p := own_pow k.toInt.toNat (by omega)
  have z63 : (63 : Int32).toInt = 63 := by decide
  have e := own_lnlz b (by omega)
  have lg : Nat.log2 b.toInt.toNat = k.toInt.toNat := (Nat.log2_eq_iff (by omega)).mpr ⟨by omega, by rw [Nat.pow_succ]; omega⟩
  rw [lg] at e
  have a := c_isub 63 (f_lnlz b)
  have ra := rng32 (63 - f_lnlz b)
  exact own_eq32 (by omega)
theorem own_powI (k : Int32) (h0 : 0 ≤ k.toInt) (h1 : k.toInt ≤ 61) : (1 : Int) ≤ ((2 ^ k.toInt.toNat : Nat) : Int) ∧ ((2 ^ k.toInt.toNat : Nat) : Int) ≤ 2305843009213693952 := by
  have p := own_pow k.toInt.toNat (by omega)
  omega
set_option maxHeartbeats 4000000 in
theorem own_core (k : Int32) (b q3 q4 : Int64) (P : Int) (p : 1 ≤ P ∧ P ≤ 2305843009213693952) (hb0 : P ≤ b.toInt) (hb1 : b.toInt < 2 * P) (sb : (63 : Int32) - f_lnlz b = k) (t : ((2 : Int64) <<< (k &&& 0x3f).toInt64).toInt = 2 * P) (r q gap : Int64)
    (hr : r = (q3 &&& (9223372036854775807 : Int64)) % b) (hq : q = f_min (q4 &&& (9223372036854775807 : Int64)) (((9223372036854775807 : Int64) - r) / b)) (hg : gap = q * b + r) :
    ¬ (b = (0 : Int64)) ∧ ((r + b) < ((2 : Int64) <<< (k &&& 0x3f).toInt64) → f_length gap b ((63 : Int32) - (f_lnlz b)) (((2 : Int64) <<< (((63 : Int32) - (f_lnlz b)) &&& 0x3f).toInt64) - b) = ((q + (1 : Int64)) + k.toInt64) + (0 : Int64)) ∧ (¬ ((r + b) < ((2 : Int64) <<< (k &&& 0x3f).toInt64)) → f_length gap b ((63 : Int32) - (f_lnlz b)) (((2 : Int64) <<< (((63 : Int32) - (f_lnlz b)) &&& 0x3f).toInt64) - b) = ((q + (1 : Int64)) + k.toInt64) + (1 : Int64)) := by
  rw [sb]
  have m3 := own_mL q3
  have m4 := own_mL q4
  have rr := own_lmod_rng (q3 &&& 9223372036854775807) b m3.1 (by omega)
  rw [← hr] at rr
  have o : (9223372036854775807 : Int64).toInt = 9223372036854775807 := by decide
  have s1 := c_lsub 9223372036854775807 r
  have s2 := rng64 (9223372036854775807 - r)
  have sv : ((9223372036854775807 : Int64) - r).toInt = 9223372036854775807 - r.toInt := by omega
  have nb : b ≠ -1 := fun e => by have : b.toInt = -1 := by rw [e]; decide
                                  omega
  have dv := (c_ldiv ((9223372036854775807 : Int64) - r) b b.toInt rfl nb).1 (by omega)
  rw [sv] at dv
  have d0 := Int.mul_ediv_self_le (x := 9223372036854775807 - r.toInt) (k := b.toInt) (by omega)
  have d1 : 0 ≤ (9223372036854775807 - r.toInt) / b.toInt := Int.ediv_nonneg (by omega) (by omega)
  have hqr : 0 ≤ q.toInt ∧ q.toInt ≤ (9223372036854775807 - r.toInt) / b.toInt := by
    rw [hq]; unfold f_min
    by_cases c : (((9223372036854775807 : Int64) - r) / b) < (q4 &&& (9223372036854775807 : Int64))
    · rw [if_pos c]; omega
    · rw [if_neg c]
      have c' : ¬ (((9223372036854775807 : Int64) - r) / b).toInt < (q4 &&& (9223372036854775807 : Int64)).toInt := fun x => c (own_lt64.mpr x)
      omega
  have qb : q.toInt * b.toInt ≤ 9223372036854775807 - r.toInt := by
    have x := Int.mul_le_mul_of_nonneg_right hqr.2 (show 0 ≤ b.toInt by omega)
    rw [Int.mul_comm b.toInt] at d0
    omega
  have qb0 : 0 ≤ q.toInt * b.toInt := Int.mul_nonneg hqr.1 (by omega)
  have g1 := c_lmul q b
  have g2 := rng64 (q * b)
  have g3 := c_ladd (q * b) r
  have g4 := rng64 (q * b + r)
  have gv : gap.toInt = q.toInt * b.toInt + r.toInt := by rw [hg]; omega
  have gm : gap % b = r := own_eq64 (by
    rw [own_lmod gap b (by omega), gv, Int.add_comm, Int.add_mul_emod_self_right]
    exact Int.emod_eq_of_lt rr.1 rr.2)
  have gd : gap / b = q := own_eq64 (by
    rw [(c_ldiv gap b b.toInt rfl nb).1 (by omega), gv, Int.add_comm, Int.add_mul_ediv_right _ _ (by omega), Int.ediv_eq_zero_of_lt rr.1 rr.2, Int.zero_add])
  have a1 := c_ladd r b
  have a2 := rng64 (r + b)
  have a3 := c_lsub ((2 : Int64) <<< (k &&& 0x3f).toInt64) b
  have a4 := rng64 (((2 : Int64) <<< (k &&& 0x3f).toInt64) - b)
  refine ⟨own_nz64 (by omega), fun c => ?_, fun c => ?_⟩
  · have c' := own_lt64.mp c
    unfold f_length
    rw [gm, gd, if_pos (own_lt64.mpr (by omega))]
    rfl
  · have c' : ¬ (r + b).toInt < ((2 : Int64) <<< (k &&& 0x3f).toInt64).toInt := fun x => c (own_lt64.mpr x)
    unfold f_length
    rw [gm, gd, if_neg (fun x => by rw [own_lt64] at x; omega)]
    rfl
theorem own_b_rng (p1 : Int32) (q2 : Int64) : ((2 ^ (own_k p1).toInt.toNat : Nat) : Int) ≤ (own_b p1 q2).toInt ∧ (own_b p1 q2).toInt < 2 * ((2 ^ (own_k p1).toInt.toNat : Nat) : Int) := by
  have kr := own_k_rng p1
  have p := own_pow (own_k p1).toInt.toNat (by omega)
  have o := own_one (own_k p1) kr.1 kr.2
  have o1 : (1 : Int64).toInt = 1 := by decide
  have s := c_lsub ((1 : Int64) <<< (own_k p1 &&& 0x3f).toInt64) 1
  have s2 := rng64 (((1 : Int64) <<< (own_k p1 &&& 0x3f).toInt64) - 1)
  have sv : (((1 : Int64) <<< (own_k p1 &&& 0x3f).toInt64) - 1).toInt = ((2 ^ (own_k p1).toInt.toNat : Nat) : Int) - 1 := by omega
  have mv := c_maskL q2 (((1 : Int64) <<< (own_k p1 &&& 0x3f).toInt64) - 1) (own_k p1).toInt.toNat (by omega) (by
    change (((1 : Int64) <<< (own_k p1 &&& 0x3f).toInt64) - 1).toBitVec.toInt = _ at sv
    rw [BitVec.toInt_eq_toNat_cond] at sv
    split at sv <;> omega)
  have m0 := Int.emod_nonneg q2.toInt (show ((2 ^ (own_k p1).toInt.toNat : Nat) : Int) ≠ 0 by omega)
  have m1 := Int.emod_lt_of_pos q2.toInt (show (0 : Int) < ((2 ^ (own_k p1).toInt.toNat : Nat) : Int) by omega)
  have w := c_orL ((1 : Int64) <<< (own_k p1 &&& 0x3f).toInt64) (q2 &&& (((1 : Int64) <<< (own_k p1 &&& 0x3f).toInt64) - 1)) (own_k p1).toInt.toNat (by omega) _ rfl (by rw [o]; exact Int.emod_self) (by omega) (by omega)
  have rg := rng64 (((1 : Int64) <<< (own_k p1 &&& 0x3f).toInt64) ||| (q2 &&& (((1 : Int64) <<< (own_k p1 &&& 0x3f).toInt64) - 1)))
  unfold own_b
  omega
theorem own_b61 (p1 : Int32) (q2 : Int64) : (((1 : Int64) <<< ((own_k p1) &&& 0x3f).toInt64) ||| (q2 &&& (0 : Int64))) = ((1 : Int64) <<< ((own_k p1) &&& 0x3f).toInt64) := by
  rw [Int64.and_zero, Int64.or_zero]
theorem own_b61_rng (p1 : Int32) (q2 : Int64) : ((2 ^ (own_k p1).toInt.toNat : Nat) : Int) ≤ ((((1 : Int64) <<< ((own_k p1) &&& 0x3f).toInt64) ||| (q2 &&& (0 : Int64)))).toInt ∧ ((((1 : Int64) <<< ((own_k p1) &&& 0x3f).toInt64) ||| (q2 &&& (0 : Int64)))).toInt < 2 * ((2 ^ (own_k p1).toInt.toNat : Nat) : Int) := by
  have kr := own_k_rng p1
  have p := own_pow (own_k p1).toInt.toNat (by omega)
  have o := own_one (own_k p1) kr.1 kr.2
  rw [own_b61]; omega
theorem own_plain (p1 : Int32) (q2 q3 q4 : Int64) : Road_ttf p1 q2 q3 q4 ∨ Road_tff p1 q2 q3 q4 ∨ Road_ftf p1 q2 q3 q4 ∨ Road_fff p1 q2 q3 q4 := by
  have kr := own_k_rng p1
  by_cases c : own_k p1 = (61 : Int32)
  · have B := own_b61_rng p1 q2
    by_cases d : (own_r_ftf p1 q2 q3 + own_b_ftf p1 q2) < ((2 : Int64) <<< ((own_k p1) &&& 0x3f).toInt64)
    · have K := own_core (own_k p1) (own_b_ftf p1 q2) q3 q4 _ (own_powI _ kr.1 kr.2) B.1 B.2 (own_sb _ _ kr.1 kr.2 B.1 B.2) (own_two _ kr.1 kr.2) (own_r_ftf p1 q2 q3) (own_q_ftf p1 q2 q3 q4) (own_gap_ftf p1 q2 q3 q4) rfl rfl rfl
      exact Or.inr (Or.inr (Or.inl ⟨K.1, c, d, K.2.1 d⟩))
    · have K := own_core (own_k p1) (own_b_fff p1 q2) q3 q4 _ (own_powI _ kr.1 kr.2) B.1 B.2 (own_sb _ _ kr.1 kr.2 B.1 B.2) (own_two _ kr.1 kr.2) (own_r_fff p1 q2 q3) (own_q_fff p1 q2 q3 q4) (own_gap_fff p1 q2 q3 q4) rfl rfl rfl
      exact Or.inr (Or.inr (Or.inr ⟨K.1, c, d, K.2.2 d⟩))
  · have B := own_b_rng p1 q2
    have K := own_core (own_k p1) (own_b p1 q2) q3 q4 _ (own_powI _ kr.1 kr.2) B.1 B.2 (own_sb _ _ kr.1 kr.2 B.1 B.2) (own_two _ kr.1 kr.2) (own_r p1 q2 q3) (own_q p1 q2 q3 q4) (own_gap p1 q2 q3 q4) rfl rfl rfl
    by_cases d : (own_r p1 q2 q3 + own_b p1 q2) < ((2 : Int64) <<< ((own_k p1) &&& 0x3f).toInt64)
    · exact Or.inl ⟨K.1, c, d, K.2.1 d⟩
    · exact Or.inr (Or.inl ⟨K.1, c, d, K.2.2 d⟩)
set_option maxRecDepth 65536 in
set_option maxHeartbeats 40000000 in
theorem rm_law (l : Launch) (Z : State) (a0 : Array Value) (hw : ∀ d ∈ tables_1, d.before a0 Z = true) (ws : List Jvm.Cond) (p1 : Int32) (q2 : Int64) (q3 : Int64) (q4 : Int64) (h0 : Heap) (n0 : Nat) (Z0 : n0 ≤ h0.size) :
    MetFree l x (head1 (Jvm.Cond.code x code maxLocals ret :: ws) room_1) (fun a U => a = #[(.int p1), (.long q2), (.long q3), (.long q4)] ∧ Z.Warmed39 U.vm ∧ U.heap = h0) (fun _ _ _ _ _ => True) (fun _ U o U' => ∃ v L, o = .returned v ∧ Q_law Z p1 q2 q3 q4 h0 n0 v U'.heap L ∧ FrameEnd U o U' L room_1.cells room_1.slots) := by
  rcases own_plain p1 q2 q3 q4 with h | h | h | h
  · exact rm_law_ttf l Z a0 hw ws p1 q2 q3 q4 h0 n0 Z0 h
  · exact rm_law_tff l Z a0 hw ws p1 q2 q3 q4 h0 n0 Z0 h
  · exact rm_law_ftf l Z a0 hw ws p1 q2 q3 q4 h0 n0 Z0 h
  · exact rm_law_fff l Z a0 hw ws p1 q2 q3 q4 h0 n0 Z0 h
set_option maxRecDepth 65536 in
set_option maxHeartbeats 40000000 in
theorem comes_1 {Post : Tables → Env → Array Value → State → Outcome → State → Prop} (hpost : ∀ tb e args s v u, (limb_1_1.after args s (.returned v) u = true ∧ limb_1_2.after args s (.returned v) u = true ∧ True) → FrameEnd s (.returned v) u (Jvm.fieldLocs frame_1_writes args s ++ Jvm.arrayLocs frame_1_arrays args s ++ Jvm.staticLocs frame_1_statics s) 16 128 → Post tb e args s (.returned v) u) :
    ArmFor flags0 classFile x code maxLocals ret World_1 tables_1 room_1 Calls_1 rest_1 Pre_1 Post := by
  intro l hfl _ _ p e ha hc hk s m args below hf hA hF happ hP
  obtain ⟨hcalls, hrest, hpre⟩ := hP
  obtain ⟨-, -, -, hnamed, -, -, -, hat⟩ := (Spec.applies_iff hf).mp happ
  obtain ⟨hg, hn⟩ := and_e (Cond.before_iff.mp (show (Jvm.Cond.and given_1 narrow_1).before args s = true from hpre))
  obtain ⟨g1, g2⟩ := and_e hg
  obtain ⟨g3, g4⟩ := and_e g2
  obtain ⟨g5, g6⟩ := and_e g4
  obtain ⟨g7, g8⟩ := and_e g6
  obtain ⟨w0, w1, w2, w3, rfl⟩ : ∃ w0 w1 w2 w3 : Value, args = #[w0, w1, w2, w3] := by
    have hs : args.size = 4 := by simpa [Cond.value, given_1] using g1
    obtain ⟨L⟩ := args
    match L, hs with
    | [w0, w1, w2, w3], _ => exact ⟨w0, w1, w2, w3, rfl⟩
  have hw := fun d (hd : d ∈ tables_1) => atoms_spec (ws := Jvm.Cond.code x code maxLocals ret :: tables_1) hat d (List.mem_cons_of_mem _ hd)
  have hfit : Fit s := fun {y c} hc i hi => by
    obtain ⟨ha, rfl⟩ := Array.getElem?_eq_some_iff.mp hc
    have q := List.all_eq_true.mp ((Array.all_eq_true_iff_forall_mem.mp hF) _ (Array.getElem_mem ha)) i (List.mem_range.mpr hi)
    simpa [Array.getElem?_eq_getElem hi] using q
  obtain ⟨i0, ei0⟩ := is_v g3
  obtain rfl : w0 = (.int i0) := Option.some.inj ei0
  obtain ⟨i1, ei1⟩ := isL_v g5
  obtain rfl : w1 = (.long i1) := Option.some.inj ei1
  obtain ⟨i2, ei2⟩ := isL_v g7
  obtain rfl : w2 = (.long i2) := Option.some.inj ei2
  obtain ⟨i3, ei3⟩ := isL_v g8
  obtain rfl : w3 = (.long i3) := Option.some.inj ei3
  obtain ⟨n, o, h1, h2, h3, _, L, rfl, ⟨rfl, N⟩, hq⟩ := rm_law l s _ hw tables_1 i0 i1 i2 i3 s.heap s.heap.size (Nat.le_refl _) p e ha hc hk s m _ below hf ((Spec.applies_iff_loose hf).mp happ).1 ⟨rfl, State.Warmed39.refl s, rfl⟩ trivial
  refine ⟨n, _, h1, h2, h3, hpost _ _ _ _ _ _ ⟨Cond.after_iff.mpr rfl, Cond.after_iff.mpr (eq_i res_at (Term.int_eval (1)) rfl), trivial⟩ ⟨hq.1, hq.2.1, (hq.2.2.sift fun y hy => Or.inr (N y hy)).mono (by decide) (by decide)⟩⟩
theorem main_1_1 : Claimed_1_1 := comes_1 fun _ _ _ _ _ _ h hF => ⟨h.1, hF⟩
theorem main_1_2 : Claimed_1_2 := comes_1 fun _ _ _ _ _ _ h hF => ⟨h.2.1, hF⟩
end Jvm.Pilot.@@N@@
namespace Jvm.Pilot.@@N@@
open Jvm Jvm.ClassFile Sem Op Lib Jvm.Free Jvm.Stand Jvm.Pilot.@@N@@.Jvm.D
/-! MADE BY PROGRAM (witnessworld.py) out of the Statement's table words and the real class files: 16 classes; the members and pool entries that the words name. The judged class is class 1, her method 1. -/
namespace start1
open Jvm.ClassFile
def u (s : String) : CpInfo := .utf8 (stringToUtf16 s)
/-- a pool by its gaps: so many unusable entries, then the entry; so many at the end -/
def gap : Nat → List CpInfo → List CpInfo
  | 0, r => r
  | n + 1, r => .unusable :: gap n r
def poolList (es : List (Nat × CpInfo)) (last : Nat) : List CpInfo := es.foldr (fun e r => gap e.1 (e.2 :: r)) (gap last [])
def pool (es : List (Nat × CpInfo)) (last : Nat) : Array CpInfo := ⟨poolList es last⟩
def fileOf (pool : Array CpInfo) (this : Nat) (attrs : Array Attribute := #[]) (ms : Array MethodInfo := #[]) (fl : Nat := 33) (sup : Nat := 0) (ifs : Array Nat := #[]) (fds : Array FieldInfo := #[]) : ClassFile where
  minorVersion := 0
  majorVersion := 65
  constantPool := pool
  accessFlags := fl
  thisClass := this
  superClass := sup
  interfaces := ifs
  fields := fds
  methods := ms
  attributes := attrs
def plain (name : String) (sup : Option ClassId) : Class where
  name := name
  kind := .ordinary
  loader := none
  accessFlags := 33
  super := sup
  interfaces := #[]
  cf := none
  fields := #[]
  methods := #[]
  instanceTypes := #[]
  staticTypes := #[]
  resolved := #[]
  callSites := []
  init := .initialized
  statics := none
  mirror := none

def pool0 : Array CpInfo := pool [(5, u "<init>"), (0, u "()V"), (1, .class_ 10), (1, u "java/lang/Object")] 113

def k0c0 : Code := { maxStack := 0, maxLocals := 1, code := object_method_1_code, exceptionTable := #[], attributes := #[] }
def k0m0 : Method := { name := "<init>", desc := "()V", sig := { parameters := [], returnType := none }, accessFlags := 1, code := some k0c0 }
/-- java/lang/Object -/
def k0 : Class := { plain "java/lang/Object" none with
  accessFlags := 33
  interfaces := #[]
  cf := some (fileOf pool0 8 #[] #[{ accessFlags := 1, nameIndex := 5, descriptorIndex := 6, attributes := #[] }] 33 0 #[] #[])
  fields := #[]
  methods := #[k0m0]
  instanceTypes := #[]
  staticTypes := #[]
  resolved := Array.replicate 124 none
  statics := none }

def pool1 : Array CpInfo := pool [(2, .class_ 4), (1, u "java/lang/Object"), (0, u "<init>"), (0, u "()V"), (0, .integer 2147483647), (2, .long 9223372036854775807), (1, .methodref 13 14), (0, .class_ 15), (0, .nameAndType 16 17), (0, u "java/lang/Math"), (0, u "min"), (0, u "(JJ)J"), (0, .long 2), (1, .class_ 21), (0, u "com/example/libmaybe/libmaybe/GolombCode"), (0, .methodref 20 23), (0, .nameAndType 5 24), (0, u "(J)V"), (0, .methodref 20 26), (0, .nameAndType 27 28), (0, u "length"), (0, u "(J)J"), (0, .class_ 30), (0, u "com/example/libmaybe/libmaybe/GolombCodeLengthPinLaw"), (2, u "law"), (0, u "(IJJJ)Z")] 3

def k1m0 : Method := { name := "<init>", desc := "()V", sig := { parameters := [], returnType := none }, accessFlags := 1, code := none }
def k1c1 : Code := { maxStack := 6, maxLocals := 25, code := code, exceptionTable := #[], attributes := #[] }
def k1m1 : Method := { name := "law", desc := "(IJJJ)Z", sig := { parameters := [.int, .long, .long, .long], returnType := some .boolean }, accessFlags := 9, code := some k1c1 }
/-- com/example/libmaybe/libmaybe/GolombCodeLengthPinLaw -/
def k1 : Class := { plain "com/example/libmaybe/libmaybe/GolombCodeLengthPinLaw" (some 0) with
  accessFlags := 49
  interfaces := #[]
  cf := some (fileOf pool1 29 #[] #[{ accessFlags := 1, nameIndex := 5, descriptorIndex := 6, attributes := #[] }, { accessFlags := 9, nameIndex := 33, descriptorIndex := 34, attributes := #[] }] 49 2 #[] #[])
  fields := #[]
  methods := #[k1m0, k1m1]
  instanceTypes := #[]
  staticTypes := #[]
  resolved := Array.replicate 38 none
  statics := none }

def pool2 : Array CpInfo := pool [(1, .class_ 2), (0, u "java/lang/Math"), (1, .class_ 6), (1, u "java/lang/Object"), (0, u "<init>"), (0, u "()V"), (89, .class_ 100), (1, u "java/lang/Math$RandomNumberGeneratorHolder"), (20, u "(JJ)J"), (50, u "negativeZeroFloatBits"), (0, u "J"), (2, u "negativeZeroDoubleBits"), (24, u "min"), (43, u "$assertionsDisabled"), (0, u "Z"), (91, u "twoToTheDoubleScaleDown"), (0, u "D"), (4, u "twoToTheDoubleScaleUp"), (9, u "E"), (3, u "PI"), (2, u "TAU"), (2, u "DEGREES_TO_RADIANS"), (0, u "RADIANS_TO_DEGREES")] 94

def k2m0 : Method := { name := "<init>", desc := "()V", sig := { parameters := [], returnType := none }, accessFlags := 2, code := none }
def k2c1 : Code := { maxStack := 4, maxLocals := 4, code := jdk_29_method_70_code, exceptionTable := #[], attributes := #[] }
def k2m1 : Method := { name := "min", desc := "(JJ)J", sig := { parameters := [.long, .long], returnType := some .long }, accessFlags := 9, code := some k2c1 }
/-- java/lang/Math -/
def k2 : Class := { plain "java/lang/Math" (some 0) with
  accessFlags := 49
  interfaces := #[]
  cf := some (fileOf pool2 1 #[.nestMembers #[98]] #[{ accessFlags := 2, nameIndex := 7, descriptorIndex := 8, attributes := #[] }, { accessFlags := 9, nameIndex := 201, descriptorIndex := 121, attributes := #[] }] 49 4 #[] #[{ accessFlags := 25, nameIndex := 354, descriptorIndex := 339, attributes := #[] }, { accessFlags := 25, nameIndex := 358, descriptorIndex := 339, attributes := #[] }, { accessFlags := 25, nameIndex := 361, descriptorIndex := 339, attributes := #[] }, { accessFlags := 26, nameIndex := 364, descriptorIndex := 339, attributes := #[] }, { accessFlags := 26, nameIndex := 365, descriptorIndex := 339, attributes := #[] }, { accessFlags := 26, nameIndex := 172, descriptorIndex := 173, attributes := #[] }, { accessFlags := 26, nameIndex := 176, descriptorIndex := 173, attributes := #[] }, { accessFlags := 8, nameIndex := 344, descriptorIndex := 339, attributes := #[] }, { accessFlags := 8, nameIndex := 338, descriptorIndex := 339, attributes := #[] }, { accessFlags := 4120, nameIndex := 245, descriptorIndex := 246, attributes := #[] }])
  fields := #[{ name := "E", type := .double, accessFlags := 25, slot := 0, constantValue := 0 }, { name := "PI", type := .double, accessFlags := 25, slot := 1, constantValue := 0 }, { name := "TAU", type := .double, accessFlags := 25, slot := 2, constantValue := 0 }, { name := "DEGREES_TO_RADIANS", type := .double, accessFlags := 26, slot := 3, constantValue := 0 }, { name := "RADIANS_TO_DEGREES", type := .double, accessFlags := 26, slot := 4, constantValue := 0 }, { name := "negativeZeroFloatBits", type := .long, accessFlags := 26, slot := 5, constantValue := 0 }, { name := "negativeZeroDoubleBits", type := .long, accessFlags := 26, slot := 6, constantValue := 0 }, { name := "twoToTheDoubleScaleUp", type := .double, accessFlags := 8, slot := 7, constantValue := 0 }, { name := "twoToTheDoubleScaleDown", type := .double, accessFlags := 8, slot := 8, constantValue := 0 }, { name := "$assertionsDisabled", type := .boolean, accessFlags := 4120, slot := 9, constantValue := 0 }]
  methods := #[k2m0, k2m1]
  instanceTypes := #[]
  staticTypes := #[.double, .double, .double, .double, .double, .long, .long, .double, .double, .boolean]
  resolved := Array.replicate 460 none
  statics := none }

def pool3 : Array CpInfo := pool [(1, .methodref 2 3), (0, .class_ 4), (0, .nameAndType 5 6), (0, u "java/lang/Object"), (0, u "<init>"), (0, u "()V"), (0, .fieldref 8 9), (0, .class_ 10), (0, .nameAndType 11 12), (0, u "com/example/libmaybe/libmaybe/GolombCode"), (0, u "parameter"), (0, u "J"), (0, .class_ 14), (0, u "java/lang/Long"), (0, .methodref 13 16), (0, .nameAndType 17 18), (0, u "numberOfLeadingZeros"), (0, u "(J)I"), (0, .fieldref 8 20), (0, .nameAndType 21 22), (0, u "shortBits"), (0, u "I"), (0, .long 2), (1, .fieldref 8 26), (0, .nameAndType 27 12), (0, u "shortCount"), (18, u "(J)V"), (1, .class_ 50), (1, u "com/example/libmaybe/libmaybe/GolombCode$Writer"), (6, .class_ 59), (1, u "com/example/libmaybe/libmaybe/GolombCode$Reader"), (19, u "UNARY"), (0, u "Lcom/example/libmaybe/libmaybe/GolombCode;"), (6, u "length"), (0, u "(J)J")] 14

def k3c0 : Code := { maxStack := 5, maxLocals := 3, code := prog_19_method_1_code, exceptionTable := #[], attributes := #[] }
def k3m0 : Method := { name := "<init>", desc := "(J)V", sig := { parameters := [.long], returnType := none }, accessFlags := 0, code := some k3c0 }
def k3c1 : Code := { maxStack := 6, maxLocals := 5, code := prog_19_method_4_code, exceptionTable := #[], attributes := #[] }
def k3m1 : Method := { name := "length", desc := "(J)J", sig := { parameters := [.long], returnType := some .long }, accessFlags := 0, code := some k3c1 }
/-- com/example/libmaybe/libmaybe/GolombCode -/
def k3 : Class := { plain "com/example/libmaybe/libmaybe/GolombCode" (some 0) with
  accessFlags := 32
  interfaces := #[]
  cf := some (fileOf pool3 8 #[.nestMembers #[57, 48]] #[{ accessFlags := 0, nameIndex := 5, descriptorIndex := 46, attributes := #[] }, { accessFlags := 0, nameIndex := 87, descriptorIndex := 88, attributes := #[] }] 32 2 #[] #[{ accessFlags := 24, nameIndex := 79, descriptorIndex := 80, attributes := #[] }, { accessFlags := 18, nameIndex := 11, descriptorIndex := 12, attributes := #[] }, { accessFlags := 18, nameIndex := 21, descriptorIndex := 22, attributes := #[] }, { accessFlags := 18, nameIndex := 27, descriptorIndex := 12, attributes := #[] }])
  fields := #[{ name := "UNARY", type := (.object "com/example/libmaybe/libmaybe/GolombCode"), accessFlags := 24, slot := 0, constantValue := 0 }, { name := "parameter", type := .long, accessFlags := 18, slot := 0, constantValue := 0 }, { name := "shortBits", type := .int, accessFlags := 18, slot := 1, constantValue := 0 }, { name := "shortCount", type := .long, accessFlags := 18, slot := 2, constantValue := 0 }]
  methods := #[k3m0, k3m1]
  instanceTypes := #[.long, .int, .long]
  staticTypes := #[(.object "com/example/libmaybe/libmaybe/GolombCode")]
  resolved := Array.replicate 103 none
  statics := none }

def pool4 : Array CpInfo := pool [(1, .class_ 2), (0, u "java/io/Serializable"), (0, .class_ 4), (0, u "java/lang/Object")] 2

/-- java/io/Serializable -/
def k4 : Class := { plain "java/io/Serializable" (some 0) with
  accessFlags := 1537
  interfaces := #[]
  cf := some (fileOf pool4 1 #[] #[] 1537 3 #[] #[])
  fields := #[]
  methods := #[]
  instanceTypes := #[]
  staticTypes := #[]
  resolved := Array.replicate 7 none
  statics := none }

def pool5 : Array CpInfo := pool [(2, .class_ 4), (1, u "java/lang/Object"), (0, u "<init>"), (0, u "()V"), (1, .class_ 10), (1, u "java/lang/Number"), (2, .class_ 14), (0, u "java/io/Serializable"), (0, u "serialVersionUID"), (0, u "J")] 20

def k5m0 : Method := { name := "<init>", desc := "()V", sig := { parameters := [], returnType := none }, accessFlags := 1, code := none }
/-- java/lang/Number -/
def k5 : Class := { plain "java/lang/Number" (some 0) with
  accessFlags := 1057
  interfaces := #[4]
  cf := some (fileOf pool5 8 #[] #[{ accessFlags := 1, nameIndex := 5, descriptorIndex := 6, attributes := #[] }] 1057 2 #[13] #[{ accessFlags := 26, nameIndex := 15, descriptorIndex := 16, attributes := #[] }])
  fields := #[{ name := "serialVersionUID", type := .long, accessFlags := 26, slot := 0, constantValue := 0 }]
  methods := #[k5m0]
  instanceTypes := #[]
  staticTypes := #[.long]
  resolved := Array.replicate 37 none
  statics := none }

def pool6 : Array CpInfo := pool [(1, .class_ 2), (0, u "java/lang/Comparable"), (0, .class_ 4), (0, u "java/lang/Object")] 7

/-- java/lang/Comparable -/
def k6 : Class := { plain "java/lang/Comparable" (some 0) with
  accessFlags := 1537
  interfaces := #[]
  cf := some (fileOf pool6 1 #[] #[] 1537 3 #[] #[])
  fields := #[]
  methods := #[]
  instanceTypes := #[]
  staticTypes := #[]
  resolved := Array.replicate 12 none
  statics := none }

def pool7 : Array CpInfo := pool [(1, .class_ 2), (0, u "java/lang/constant/Constable"), (0, .class_ 4), (0, u "java/lang/Object")] 6

/-- java/lang/constant/Constable -/
def k7 : Class := { plain "java/lang/constant/Constable" (some 0) with
  accessFlags := 1537
  interfaces := #[]
  cf := some (fileOf pool7 1 #[] #[] 1537 3 #[] #[])
  fields := #[]
  methods := #[]
  instanceTypes := #[]
  staticTypes := #[]
  resolved := Array.replicate 11 none
  statics := none }

def pool8 : Array CpInfo := pool [(1, .class_ 2), (0, u "java/lang/constant/ConstantDesc"), (0, .class_ 4), (0, u "java/lang/Object")] 32

/-- java/lang/constant/ConstantDesc -/
def k8 : Class := { plain "java/lang/constant/ConstantDesc" (some 0) with
  accessFlags := 1537
  interfaces := #[]
  cf := some (fileOf pool8 1 #[] #[] 1537 3 #[] #[])
  fields := #[]
  methods := #[]
  instanceTypes := #[]
  staticTypes := #[]
  resolved := Array.replicate 37 none
  statics := none }

def pool9 : Array CpInfo := pool [(1, .class_ 2), (0, u "java/lang/Long"), (15, .class_ 20), (1, u "java/lang/Integer"), (79, u "numberOfLeadingZeros"), (0, u "(J)I"), (133, .class_ 237), (1, u "java/lang/Long$LongCache"), (33, .class_ 272), (0, u "java/lang/Number"), (2, u "value"), (0, u "J"), (31, .methodref 18 309), (0, .nameAndType 100 310), (0, u "(I)I"), (50, u "TYPE"), (0, u "Ljava/lang/Class;"), (0, .class_ 364), (0, u "java/lang/Comparable"), (0, .class_ 366), (0, u "java/lang/constant/Constable"), (0, .class_ 368), (0, u "java/lang/constant/ConstantDesc"), (0, u "MIN_VALUE"), (1, u "MAX_VALUE"), (4, u "SIZE"), (0, u "I"), (1, u "BYTES"), (1, u "serialVersionUID")] 142

def k9c0 : Code := { maxStack := 3, maxLocals := 3, code := jdk_35_method_48_code, exceptionTable := #[], attributes := #[] }
def k9m0 : Method := { name := "numberOfLeadingZeros", desc := "(J)I", sig := { parameters := [.long], returnType := some .int }, accessFlags := 9, code := some k9c0 }
/-- java/lang/Long -/
def k9 : Class := { plain "java/lang/Long" (some 5) with
  accessFlags := 49
  interfaces := #[6, 7, 8]
  cf := some (fileOf pool9 1 #[.nestMembers #[235]] #[{ accessFlags := 9, nameIndex := 100, descriptorIndex := 101, attributes := #[] }] 49 271 #[363, 365, 367] #[{ accessFlags := 25, nameIndex := 369, descriptorIndex := 276, attributes := #[] }, { accessFlags := 25, nameIndex := 371, descriptorIndex := 276, attributes := #[] }, { accessFlags := 25, nameIndex := 361, descriptorIndex := 362, attributes := #[] }, { accessFlags := 18, nameIndex := 275, descriptorIndex := 276, attributes := #[] }, { accessFlags := 25, nameIndex := 376, descriptorIndex := 377, attributes := #[] }, { accessFlags := 25, nameIndex := 379, descriptorIndex := 377, attributes := #[] }, { accessFlags := 26, nameIndex := 381, descriptorIndex := 276, attributes := #[] }])
  fields := #[{ name := "MIN_VALUE", type := .long, accessFlags := 25, slot := 0, constantValue := 0 }, { name := "MAX_VALUE", type := .long, accessFlags := 25, slot := 1, constantValue := 0 }, { name := "TYPE", type := (.object "java/lang/Class"), accessFlags := 25, slot := 2, constantValue := 0 }, { name := "value", type := .long, accessFlags := 18, slot := 0, constantValue := 0 }, { name := "SIZE", type := .int, accessFlags := 25, slot := 3, constantValue := 0 }, { name := "BYTES", type := .int, accessFlags := 25, slot := 4, constantValue := 0 }, { name := "serialVersionUID", type := .long, accessFlags := 26, slot := 5, constantValue := 0 }]
  methods := #[k9m0]
  instanceTypes := #[.long]
  staticTypes := #[.long, .long, (.object "java/lang/Class"), .int, .int, .long]
  resolved := Array.replicate 524 none
  statics := none }

def pool10 : Array CpInfo := pool [(1, .class_ 2), (0, u "java/lang/Integer"), (16, u "digits"), (0, u "[C"), (32, u "numberOfLeadingZeros"), (0, u "(I)I"), (30, u "DigitOnes"), (0, u "[B"), (2, u "DigitTens"), (99, .class_ 190), (0, u "java/lang/Integer$IntegerCache"), (3, u "I"), (8, .class_ 204), (0, u "java/lang/Number"), (2, u "value"), (56, .integer 65536), (37, u "TYPE"), (0, u "Ljava/lang/Class;"), (0, .class_ 305), (0, u "java/lang/Comparable"), (0, .class_ 307), (0, u "java/lang/constant/Constable"), (0, .class_ 309), (0, u "java/lang/constant/ConstantDesc"), (0, u "MIN_VALUE"), (1, u "MAX_VALUE"), (3, u "SIZE"), (1, u "BYTES"), (1, u "serialVersionUID"), (0, u "J")] 131

def k10c0 : Code := { maxStack := 3, maxLocals := 2, code := jdk_33_method_47_code, exceptionTable := #[], attributes := #[] }
def k10m0 : Method := { name := "numberOfLeadingZeros", desc := "(I)I", sig := { parameters := [.int], returnType := some .int }, accessFlags := 9, code := some k10c0 }
/-- java/lang/Integer -/
def k10 : Class := { plain "java/lang/Integer" (some 5) with
  accessFlags := 49
  interfaces := #[6, 7, 8]
  cf := some (fileOf pool10 1 #[.nestMembers #[189]] #[{ accessFlags := 9, nameIndex := 53, descriptorIndex := 54, attributes := #[] }] 49 203 #[304, 306, 308] #[{ accessFlags := 25, nameIndex := 310, descriptorIndex := 194, attributes := #[] }, { accessFlags := 25, nameIndex := 312, descriptorIndex := 194, attributes := #[] }, { accessFlags := 25, nameIndex := 302, descriptorIndex := 303, attributes := #[] }, { accessFlags := 24, nameIndex := 19, descriptorIndex := 20, attributes := #[] }, { accessFlags := 24, nameIndex := 89, descriptorIndex := 86, attributes := #[] }, { accessFlags := 24, nameIndex := 85, descriptorIndex := 86, attributes := #[] }, { accessFlags := 18, nameIndex := 207, descriptorIndex := 194, attributes := #[] }, { accessFlags := 25, nameIndex := 316, descriptorIndex := 194, attributes := #[] }, { accessFlags := 25, nameIndex := 318, descriptorIndex := 194, attributes := #[] }, { accessFlags := 26, nameIndex := 320, descriptorIndex := 321, attributes := #[] }])
  fields := #[{ name := "MIN_VALUE", type := .int, accessFlags := 25, slot := 0, constantValue := 0 }, { name := "MAX_VALUE", type := .int, accessFlags := 25, slot := 1, constantValue := 0 }, { name := "TYPE", type := (.object "java/lang/Class"), accessFlags := 25, slot := 2, constantValue := 0 }, { name := "digits", type := (.array .char), accessFlags := 24, slot := 3, constantValue := 0 }, { name := "DigitTens", type := (.array .byte), accessFlags := 24, slot := 4, constantValue := 0 }, { name := "DigitOnes", type := (.array .byte), accessFlags := 24, slot := 5, constantValue := 0 }, { name := "value", type := .int, accessFlags := 18, slot := 0, constantValue := 0 }, { name := "SIZE", type := .int, accessFlags := 25, slot := 6, constantValue := 0 }, { name := "BYTES", type := .int, accessFlags := 25, slot := 7, constantValue := 0 }, { name := "serialVersionUID", type := .long, accessFlags := 26, slot := 8, constantValue := 0 }]
  methods := #[k10m0]
  instanceTypes := #[.int]
  staticTypes := #[.int, .int, (.object "java/lang/Class"), (.array .char), (.array .byte), (.array .byte), .int, .int, .long]
  resolved := Array.replicate 453 none
  statics := none }

def pool11 : Array CpInfo := pool [(1, u "java/lang/Cloneable"), (0, .class_ 1), (0, u "java/lang/Object"), (0, .class_ 3)] 3

/-- java/lang/Cloneable -/
def k11 : Class := { plain "java/lang/Cloneable" (some 0) with
  accessFlags := 1537
  interfaces := #[]
  cf := some (fileOf pool11 2 #[] #[] 1537 4 #[] #[])
  fields := #[]
  methods := #[]
  instanceTypes := #[]
  staticTypes := #[]
  resolved := Array.replicate 8 none
  statics := none }

/-- the primitive byte -/
def k12 : Class := { plain "byte" none with kind := .primitive 'B', accessFlags := 0x411 }
/-- [B -/
def k13 : Class := { plain "[B" (some 0) with kind := .array 12 .byte, interfaces := #[11, 4], accessFlags := 1041 }

/-- the primitive int -/
def k14 : Class := { plain "int" none with kind := .primitive 'I', accessFlags := 0x411 }
/-- [I -/
def k15 : Class := { plain "[I" (some 0) with kind := .array 14 .int, interfaces := #[11, 4], accessFlags := 1041 }

def heap : Heap := #[]
def classes : Array Class := #[k0, k1, k2, k3, k4, k5, k6, k7, k8, k9, k10, k11, k12, k13, k14, k15]
def interned : List (Array UInt16 × Addr) := []
def slotsUsed : Nat := 0
def theMethod : MethodId := ⟨1, 1⟩
def args0 : Array Value := #[.int 5, .long 300, .long 7, .long 9]
def aboutOver (below : List Frame) : State where
  vm := { classes := classes, interned := interned.toArray }
  heap := heap
  slotsUsed := slotsUsed
  threads := #[{ frames := .invoking theMethod args0 :: below }]
def below0 : List Frame := [.native { method := ⟨0, 0⟩, args := #[] }]
def about1 : State := aboutOver below0
def p0 : Program := .bare "" "" ""
def e0 : Env := launch0.env 0 0 0
theorem w_frames : about1.frames = Frame.invoking theMethod args0 :: below0 := rfl
set_option maxRecDepth 65536 in
theorem w_args : argsFit about1.vm theMethod args0 = true := by decide +kernel
set_option maxRecDepth 65536 in
theorem w_heap : heapFits about1 = true := by decide +kernel
set_option maxRecDepth 65536 in
theorem w_runnable : about1.curStatus? = some .runnable := by decide +kernel
set_option maxRecDepth 65536 in
theorem w_alone : about1.alone = true := by decide +kernel
set_option maxRecDepth 65536 in
theorem w_named : about1.methodNamed? x = some theMethod := by decide +kernel
set_option maxRecDepth 65536 in
theorem w_hears : about1.hears theMethod below0 = true := by decide +kernel
set_option maxRecDepth 65536 in
theorem w_ripe : about1.ripe theMethod args0 below0 = true := by decide +kernel
theorem w_running : about1.status = .running := rfl
set_option maxRecDepth 65536 in
theorem w_room : about1.hasRoom e0.platform room_1 = true :=
  launch0.hasRoom_least _ room_1 (by decide +kernel) (by decide +kernel) (by decide +kernel) (by decide +kernel) (by decide +kernel) (by decide +kernel)
theorem allAtoms_all (ts : List Jvm.Cond) (a : Array Jvm.Value) (st : Jvm.State) : (allAtoms ts).before a st = ts.all (fun c => c.before a st) := by
  induction ts with
  | nil => rfl
  | cons c t ih =>
    show (Jvm.Cond.and c (allAtoms t)).before a st = _
    rw [Jvm.Cond.before_and, ih, List.all_cons]
def words1 : List Jvm.Cond := Jvm.Cond.code x code maxLocals ret :: tables_1
/-- a 'code' word, met by the world's own term for the bytes: nothing is compared byte by byte -/
theorem code_word {y : MethodName} {bytes : ByteArray} {mx : Nat} {rt : Option FieldType} {a : Array Value} {s : State} {m : MethodId} {meth : Method} {c : Code} (h1 : s.methodNamed? y = some m) (h2 : s.vm.method? m = some meth) (h3 : meth.code = some c) (h4 : c.code = bytes)
    (h5 : (c.maxLocals == mx && c.exceptionTable.isEmpty && decide (c.maxStack ≤ mostOperands) && decide (meth.sig.returnType = rt) && !meth.locks && decide (parseMethodDescriptor y.desc = some meth.sig)) = true) : (Jvm.Cond.code y bytes mx rt).before a s = true := by
  simp only [Bool.and_eq_true, beq_iff_eq, Bool.not_eq_true', decide_eq_true_eq] at h5
  obtain ⟨⟨⟨⟨⟨g1, g2⟩, g3⟩, g4⟩, g5⟩, g6⟩ := h5
  simp [Cond.before, Cond.holds, Cond.value, h1, h2, h3, h4, g1, g2, g3, g4, g5, g6]
def isCode : Jvm.Cond → Bool
  | .code _ _ _ _ => true
  | _ => false
theorem all_split {L : List Jvm.Cond} {P : Jvm.Cond → Bool} (h1 : L.all (fun c => isCode c || P c) = true) (h2 : ∀ c ∈ L.filter isCode, P c = true) : L.all P = true := by
  refine List.all_eq_true.mpr fun c hc => ?_
  have h := List.all_eq_true.mp h1 c hc
  rcases Bool.eq_false_or_eq_true (isCode c) with hi | hi
  · exact h2 c (List.mem_filter.mpr ⟨hc, hi⟩)
  · simpa [hi] using h
set_option maxRecDepth 65536 in
theorem w_c0 : (Jvm.Cond.code x code maxLocals ret).before args0 about1 = true := code_word (m := ⟨1, 1⟩) (meth := k1m1) (c := k1c1) (by decide +kernel) rfl rfl rfl (by decide +kernel)
set_option maxRecDepth 65536 in
theorem w_c1 : (Jvm.Cond.code ({ cls := "java/lang/Math", name := "min", desc := "(JJ)J" } : Jvm.MethodName) jdk_29_method_70_code (4 : Nat) (Option.some Jvm.ClassFile.FieldType.long)).before args0 about1 = true := code_word (m := ⟨2, 1⟩) (meth := k2m1) (c := k2c1) (by decide +kernel) rfl rfl rfl (by decide +kernel)
set_option maxRecDepth 65536 in
theorem w_c2 : (Jvm.Cond.code ({ cls := "com/example/libmaybe/libmaybe/GolombCode", name := "<init>", desc := "(J)V" } : Jvm.MethodName) prog_19_method_1_code (3 : Nat) (Option.none : Option Jvm.ClassFile.FieldType)).before args0 about1 = true := code_word (m := ⟨3, 0⟩) (meth := k3m0) (c := k3c0) (by decide +kernel) rfl rfl rfl (by decide +kernel)
set_option maxRecDepth 65536 in
theorem w_c3 : (Jvm.Cond.code ({ cls := "java/lang/Object", name := "<init>", desc := "()V" } : Jvm.MethodName) object_method_1_code (1 : Nat) (Option.none : Option Jvm.ClassFile.FieldType)).before args0 about1 = true := code_word (m := ⟨0, 0⟩) (meth := k0m0) (c := k0c0) (by decide +kernel) rfl rfl rfl (by decide +kernel)
set_option maxRecDepth 65536 in
theorem w_c4 : (Jvm.Cond.code ({ cls := "java/lang/Long", name := "numberOfLeadingZeros", desc := "(J)I" } : Jvm.MethodName) jdk_35_method_48_code (3 : Nat) (Option.some Jvm.ClassFile.FieldType.int)).before args0 about1 = true := code_word (m := ⟨9, 0⟩) (meth := k9m0) (c := k9c0) (by decide +kernel) rfl rfl rfl (by decide +kernel)
set_option maxRecDepth 65536 in
theorem w_c5 : (Jvm.Cond.code ({ cls := "java/lang/Integer", name := "numberOfLeadingZeros", desc := "(I)I" } : Jvm.MethodName) jdk_33_method_47_code (2 : Nat) (Option.some Jvm.ClassFile.FieldType.int)).before args0 about1 = true := code_word (m := ⟨10, 0⟩) (meth := k10m0) (c := k10c0) (by decide +kernel) rfl rfl rfl (by decide +kernel)
set_option maxRecDepth 65536 in
theorem w_c6 : (Jvm.Cond.code ({ cls := "com/example/libmaybe/libmaybe/GolombCode", name := "length", desc := "(J)J" } : Jvm.MethodName) prog_19_method_4_code (5 : Nat) (Option.some Jvm.ClassFile.FieldType.long)).before args0 about1 = true := code_word (m := ⟨3, 1⟩) (meth := k3m1) (c := k3c1) (by decide +kernel) rfl rfl rfl (by decide +kernel)
def codes1 : List Jvm.Cond := [Jvm.Cond.code x code maxLocals ret, Jvm.Cond.code ({ cls := "java/lang/Math", name := "min", desc := "(JJ)J" } : Jvm.MethodName) jdk_29_method_70_code (4 : Nat) (Option.some Jvm.ClassFile.FieldType.long), Jvm.Cond.code ({ cls := "com/example/libmaybe/libmaybe/GolombCode", name := "<init>", desc := "(J)V" } : Jvm.MethodName) prog_19_method_1_code (3 : Nat) (Option.none : Option Jvm.ClassFile.FieldType), Jvm.Cond.code ({ cls := "java/lang/Object", name := "<init>", desc := "()V" } : Jvm.MethodName) object_method_1_code (1 : Nat) (Option.none : Option Jvm.ClassFile.FieldType), Jvm.Cond.code ({ cls := "java/lang/Long", name := "numberOfLeadingZeros", desc := "(J)I" } : Jvm.MethodName) jdk_35_method_48_code (3 : Nat) (Option.some Jvm.ClassFile.FieldType.int), Jvm.Cond.code ({ cls := "java/lang/Integer", name := "numberOfLeadingZeros", desc := "(I)I" } : Jvm.MethodName) jdk_33_method_47_code (2 : Nat) (Option.some Jvm.ClassFile.FieldType.int), Jvm.Cond.code ({ cls := "com/example/libmaybe/libmaybe/GolombCode", name := "length", desc := "(J)J" } : Jvm.MethodName) prog_19_method_4_code (5 : Nat) (Option.some Jvm.ClassFile.FieldType.long)]
set_option maxRecDepth 65536 in
theorem codes_eq : words1.filter isCode = codes1 := rfl
theorem w_codes : ∀ c ∈ words1.filter isCode, c.before args0 about1 = true := by
  rw [codes_eq]
  intro c hc
  simp only [codes1, List.mem_cons, List.not_mem_nil, or_false] at hc
  rcases hc with rfl | rfl | rfl | rfl | rfl | rfl | rfl
  · exact w_c0
  · exact w_c1
  · exact w_c2
  · exact w_c3
  · exact w_c4
  · exact w_c5
  · exact w_c6
set_option maxRecDepth 65536 in
theorem w_t1 : (words1.take 24).all (fun c => isCode c || c.before args0 about1) = true := by decide +kernel
set_option maxRecDepth 65536 in
theorem w_t2 : (words1.drop 24).all (fun c => isCode c || c.before args0 about1) = true := by decide +kernel
theorem w_tables : (allAtoms (Jvm.Cond.code x code maxLocals ret :: tables_1)).before args0 about1 = true := by
  rw [allAtoms_all]
  show words1.all (fun c => c.before args0 about1) = true
  refine all_split ?_ w_codes
  rw [← List.take_append_drop 24 words1, List.all_append, w_t1, w_t2]
  rfl
set_option maxRecDepth 65536 in
theorem w_case : (Jvm.Cond.and given_1 narrow_1).before args0 about1 = true := by decide +kernel
theorem w_applies : (headSpec (Jvm.Cond.code x code maxLocals ret :: tables_1) room_1).applies x e0.platform about1 = true :=
  (Spec.applies_iff w_frames).mpr ⟨w_running, w_runnable, w_alone, w_named, w_hears, w_ripe, w_room, w_tables⟩
theorem atStart : AtStart classFile x code maxLocals ret World_1 tables_1 room_1 Calls_1 rest_1 Pre_1 launch0 p0 e0 about1 theMethod args0 below0 :=
  ⟨lists_1, trivial, launch0.admits_env _ _ _, launch0.least_env, fairChoices_fair.cas, fairChoices_fair.clock, w_frames, w_args, w_heap, w_applies, trivial, trivial, w_case⟩
end start1
theorem witness_1 : WitnessClaimed_1 := ⟨start1.p0, start1.e0, start1.about1, start1.theMethod, start1.args0, start1.below0, start1.atStart⟩
end Jvm.Pilot.@@N@@
