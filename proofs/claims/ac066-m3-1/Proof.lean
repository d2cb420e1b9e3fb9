import JvmDerived
import JvmDerived.Pilot.@@N@@Statement
import JvmDerived.Pilot.@@N@@Code
set_option linter.unusedVariables false
set_option linter.unusedSimpArgs false
namespace Jvm.RoadKit
open Sem ClassFile Op Lib Jvm.Stand Jvm.Free Jvm.LawKit
section New
variable {p : Program} {l : Launch} {e : Env} {R : Room} {s : State} {m : MethodId} {args : Array Value} {below : List Frame} {meth : Method} {c : Code} {T : State} {locs : List Loc} {cells slots : Nat}
theorem retI (X : Stand p l e R s m args below meth c T locs cells slots) (hx : p.tables.exec = Jvm.exec) {pc : Nat} {Ls : Array Slot} {z : Int32} {rest : List Value} (hret : meth.sig.returnType = some .int) (hd : decode c.code pc = .ok (.ireturn, 1)) {fs : List Frame}
    (hl : ∀ (f : JFrame) (acts : List Action), f.method = m → f.locked = none → f.entered = [] → (doReturn e (T.setTop f) acts (some (.int z))).1 = T.setFrames fs) : Steps p.tables e below (T.setTop (mkF m pc Ls (.int z :: rest))) (T.setFrames fs) := by
  have hm' : T.vm.method? m = some meth := X.method'
  have hn : narrow .int (.int z) = .int z := rfl
  show Steps p.tables e below (T.setTop { method := m, pc := pc, locals := Ls, stack := _ :: rest, locked := none }) _
  jvm_step X.here [X.here.top, hx, hd, hm', hret, hn]
  first | (intro acts; rw [hl _ acts rfl rfl rfl]) | rw [hl _ _ rfl rfl rfl]
  exact Steps.refl _
end New
end Jvm.RoadKit
namespace Jvm.Pilot.@@N@@
open Jvm Jvm.ClassFile Sem Op Lib Jvm.Free Jvm.Stand Jvm.LawKit Jvm.RoadKit Bundle Jvm.Pilot.@@N@@.Jvm.D
theorem own_lmod (x y : Int64) (hx : 0 ≤ x.toInt) : (x % y).toInt = x.toInt % y.toInt := by
  rw [Int64.toInt_mod]; exact Int.tmod_eq_emod_of_nonneg hx
theorem own_imod (x y : Int32) (hx : 0 ≤ x.toInt) : (x % y).toInt = x.toInt % y.toInt := by
  rw [Int32.toInt_mod]; exact Int.tmod_eq_emod_of_nonneg hx
theorem own_lmod_rng (x y : Int64) (hx : 0 ≤ x.toInt) (hy : 0 < y.toInt) : 0 ≤ (x % y).toInt ∧ (x % y).toInt < y.toInt := by
  rw [own_lmod x y hx]; exact ⟨Int.emod_nonneg _ (by omega), Int.emod_lt_of_pos _ hy⟩
theorem own_imod_rng (x y : Int32) (hx : 0 ≤ x.toInt) (hy : 0 < y.toInt) : 0 ≤ (x % y).toInt ∧ (x % y).toInt < y.toInt := by
  rw [own_imod x y hx]; exact ⟨Int.emod_nonneg _ (by omega), Int.emod_lt_of_pos _ hy⟩
theorem own_mI (x : Int32) : 0 ≤ (x &&& (2147483647 : Int32)).toInt ∧ (x &&& (2147483647 : Int32)).toInt ≤ 2147483647 := by
  have h := c_and x 2147483647 (by decide)
  have e : (2147483647 : Int32).toInt = 2147483647 := by decide
  omega
theorem own_mL (x : Int64) : 0 ≤ (x &&& (9223372036854775807 : Int64)).toInt ∧ (x &&& (9223372036854775807 : Int64)).toInt ≤ 9223372036854775807 := by
  have h := (c_andSL x 9223372036854775807).2.2 (by decide)
  have := rng64 (x &&& (9223372036854775807 : Int64))
  omega
theorem own_nz32 {x : Int32} (h : 0 < x.toInt) : ¬ (x = (0 : Int32)) := fun e => by subst e; revert h; decide
theorem own_nz64 {x : Int64} (h : 0 < x.toInt) : ¬ (x = (0 : Int64)) := fun e => by subst e; revert h; decide
theorem own_lt32 {x y : Int32} : x < y ↔ x.toInt < y.toInt := Int32.lt_iff_toInt_lt
theorem own_lt64 {x y : Int64} : x < y ↔ x.toInt < y.toInt := Int64.lt_iff_toInt_lt
theorem own_eq32 {x y : Int32} (h : x.toInt = y.toInt) : x = y := Int32.toInt_inj.mp h
theorem own_eq64 {x y : Int64} (h : x.toInt = y.toInt) : x = y := Int64.toInt_inj.mp h
theorem d2_0 : decode jdk_29_method_70_code 0 = .ok (.lload_n 0, 1) := by decide +kernel
theorem d2_1 : decode jdk_29_method_70_code 1 = .ok (.lload_n 2, 1) := by decide +kernel
theorem d2_2 : decode jdk_29_method_70_code 2 = .ok (.lcmp, 1) := by decide +kernel
theorem d2_3 : decode jdk_29_method_70_code 3 = .ok (.ifCond .gt 7, 3) := by decide +kernel
theorem d2_10 : decode jdk_29_method_70_code 10 = .ok (.lload_n 2, 1) := by decide +kernel
theorem d2_11 : decode jdk_29_method_70_code 11 = .ok (.lreturn, 1) := by decide +kernel
theorem d2_6 : decode jdk_29_method_70_code 6 = .ok (.lload_n 0, 1) := by decide +kernel
theorem d2_7 : decode jdk_29_method_70_code 7 = .ok (.goto 4, 3) := by decide +kernel
theorem ef_2_JJ (m : MethodId) (x0 : Int64) (x1 : Int64) : entryFrame m #[(.long x0), (.long x1)] 4 = mkF m 0 #[.val (.long x0), .second, .val (.long x1), .second] [] := by first | (simp [entryFrame, mkF, argsToLocals, Value.category]; done) | rfl
def f_min (q1 : Int64) (q2 : Int64) : Int64 := (if q2 < q1 then q2 else q1)
def Q_min (Z : State) (q1 : Int64) (q2 : Int64) (h0 : Heap) (n0 : Nat) (v : Option Value) (h : Heap) (L : List Loc) : Prop := v = some (.long (f_min q1 q2)) ∧ Fr n0 L ∧ h = h0
set_option maxRecDepth 65536 in
set_option maxHeartbeats 40000000 in
theorem rm_min_t (l : Launch) (Z : State) (a0 : Array Value) (hw : ∀ d ∈ tables_1, d.before a0 Z = true) (ws : List Jvm.Cond) (q1 : Int64) (q2 : Int64) (h0 : Heap) (n0 : Nat) (Z0 : n0 ≤ h0.size) (hc0 : q2 < q1) (hret : (f_min q1 q2) = q2) :
    MetFree l (⟨"java/lang/Math", "min", "(JJ)J"⟩ : MethodName) (head1 (Jvm.Cond.code (⟨"java/lang/Math", "min", "(JJ)J"⟩ : MethodName) jdk_29_method_70_code 4 (some .long) :: ws) ({ frames := 0, cells := 0, slots := 0, locals := 0 } : Room)) (fun a U => a = #[(.long q1), (.long q2)] ∧ Z.Warmed39 U.vm ∧ U.heap = h0) (fun _ _ _ _ _ => True) (fun _ U o U' => ∃ v L, o = .returned v ∧ Q_min Z q1 q2 h0 n0 v U'.heap L ∧ FrameEnd U o U' L ({ frames := 0, cells := 0, slots := 0, locals := 0 } : Room).cells ({ frames := 0, cells := 0, slots := 0, locals := 0 } : Room).slots) := by
  refine MetFree.of_bodySF (Jvm.Free.JP.mathPlain rfl (by decide +kernel)) hisR ?_
  intro p e s m args below meth c s₁ Bd hml0 hP hK
  obtain ⟨rfl, hZ, hh⟩ := hP
  have hx := Bd.exec
  have hby := Bd.bytes
  have hml : c.maxLocals = 4 := hml0
  have hown : s.vm.findClass "java/lang/Math" = some m.cls := findClass_of_methodNamed Bd.named
  have hnm := (name_of_methodNamed Bd.named Bd.method).1
  have X0 : Stand p l e ({ frames := 0, cells := 0, slots := 0, locals := 0 } : Room) s m #[(.long q1), (.long q2)] below meth c s₁ [] 0 0 := Stand.of_body Bd
  have e0 : s₁.heap = h0 := by rw [← hh, Bd.state]; rfl
  have N0 := Fr.nil n0
  have pre0 : ∀ t, Steps p.tables e below (s₁.setTop (mkF m 0 #[.val (.long q1), .second, .val (.long q2), .second] [])) t → Steps p.tables e below (s₁.setTop (entryFrame m #[(.long q1), (.long q2)] 4)) t := fun t k => castTop (ef_2_JJ m q1 q2) k
  obtain ⟨fs, hr, hrun, hended, hW, hsame⟩ := X0.leave (v := some (.long q2)) (fun h => by rw [Bd.returns] at h; cases h)
  refine ⟨_, _, pre0 _ ?_, hrun, hended, _, _, rfl, ?_, ⟨_, rfl⟩, hW, hsame.mono (by decide) (by decide)⟩
  · show Steps p.tables e below (s₁.setTop (mkF m 0 #[.val (.long q1), .second, .val (.long q2), .second] [])) _
    refine XS.lloadN X0.here hx rfl (hb hby d2_0) rfl ?_
    show Steps p.tables e below (s₁.setTop (mkF m 1 #[.val (.long q1), .second, .val (.long q2), .second] [(.long q1)])) _
    refine XS.lloadN X0.here hx rfl (hb hby d2_1) rfl ?_
    show Steps p.tables e below (s₁.setTop (mkF m 2 #[.val (.long q1), .second, .val (.long q2), .second] [(.long q2), (.long q1)])) _
    refine XS.lcmp X0.here hx rfl (hb hby d2_2) rfl ?_
    show Steps p.tables e below (s₁.setTop (mkF m 3 #[.val (.long q1), .second, .val (.long q2), .second] [(.int (lcmpW q1 q2))])) _
    refine XS.ifYes X0.here hx rfl (pc0 := 3) (pc' := 10) rfl (hb hby d2_3) rfl ((if0 _ _).trans (tlt ((lw_gt _ _).mpr (hc0 : q2 < q1))).2.2.1) (by decide) (by decide) ?_
    show Steps p.tables e below (s₁.setTop (mkF m 10 #[.val (.long q1), .second, .val (.long q2), .second] [])) _
    refine XS.lloadN X0.here hx rfl (hb hby d2_10) rfl ?_
    show Steps p.tables e below (s₁.setTop (mkF m 11 #[.val (.long q1), .second, .val (.long q2), .second] [(.long q2)])) _
    jvm_step X0.here [X0.here.top, hx, (hb hby d2_11), X0.method', Bd.returns, narrow]
    first | (intro acts; rw [hr _ acts rfl rfl rfl]) | rw [hr _ _ rfl rfl rfl]
    exact Steps.refl _
  · show Q_min Z q1 q2 h0 n0 _ s₁.heap _
    rw [e0]
    exact ⟨by rw [hret], N0, rfl⟩
set_option maxRecDepth 65536 in
set_option maxHeartbeats 40000000 in
theorem rm_min_f (l : Launch) (Z : State) (a0 : Array Value) (hw : ∀ d ∈ tables_1, d.before a0 Z = true) (ws : List Jvm.Cond) (q1 : Int64) (q2 : Int64) (h0 : Heap) (n0 : Nat) (Z0 : n0 ≤ h0.size) (hc0 : ¬ (q2 < q1)) (hret : (f_min q1 q2) = q1) :
    MetFree l (⟨"java/lang/Math", "min", "(JJ)J"⟩ : MethodName) (head1 (Jvm.Cond.code (⟨"java/lang/Math", "min", "(JJ)J"⟩ : MethodName) jdk_29_method_70_code 4 (some .long) :: ws) ({ frames := 0, cells := 0, slots := 0, locals := 0 } : Room)) (fun a U => a = #[(.long q1), (.long q2)] ∧ Z.Warmed39 U.vm ∧ U.heap = h0) (fun _ _ _ _ _ => True) (fun _ U o U' => ∃ v L, o = .returned v ∧ Q_min Z q1 q2 h0 n0 v U'.heap L ∧ FrameEnd U o U' L ({ frames := 0, cells := 0, slots := 0, locals := 0 } : Room).cells ({ frames := 0, cells := 0, slots := 0, locals := 0 } : Room).slots) := by
  refine MetFree.of_bodySF (Jvm.Free.JP.mathPlain rfl (by decide +kernel)) hisR ?_
  intro p e s m args below meth c s₁ Bd hml0 hP hK
  obtain ⟨rfl, hZ, hh⟩ := hP
  have hx := Bd.exec
  have hby := Bd.bytes
  have hml : c.maxLocals = 4 := hml0
  have hown : s.vm.findClass "java/lang/Math" = some m.cls := findClass_of_methodNamed Bd.named
  have hnm := (name_of_methodNamed Bd.named Bd.method).1
  have X0 : Stand p l e ({ frames := 0, cells := 0, slots := 0, locals := 0 } : Room) s m #[(.long q1), (.long q2)] below meth c s₁ [] 0 0 := Stand.of_body Bd
  have e0 : s₁.heap = h0 := by rw [← hh, Bd.state]; rfl
  have N0 := Fr.nil n0
  have pre0 : ∀ t, Steps p.tables e below (s₁.setTop (mkF m 0 #[.val (.long q1), .second, .val (.long q2), .second] [])) t → Steps p.tables e below (s₁.setTop (entryFrame m #[(.long q1), (.long q2)] 4)) t := fun t k => castTop (ef_2_JJ m q1 q2) k
  obtain ⟨fs, hr, hrun, hended, hW, hsame⟩ := X0.leave (v := some (.long q1)) (fun h => by rw [Bd.returns] at h; cases h)
  refine ⟨_, _, pre0 _ ?_, hrun, hended, _, _, rfl, ?_, ⟨_, rfl⟩, hW, hsame.mono (by decide) (by decide)⟩
  · show Steps p.tables e below (s₁.setTop (mkF m 0 #[.val (.long q1), .second, .val (.long q2), .second] [])) _
    refine XS.lloadN X0.here hx rfl (hb hby d2_0) rfl ?_
    show Steps p.tables e below (s₁.setTop (mkF m 1 #[.val (.long q1), .second, .val (.long q2), .second] [(.long q1)])) _
    refine XS.lloadN X0.here hx rfl (hb hby d2_1) rfl ?_
    show Steps p.tables e below (s₁.setTop (mkF m 2 #[.val (.long q1), .second, .val (.long q2), .second] [(.long q2), (.long q1)])) _
    refine XS.lcmp X0.here hx rfl (hb hby d2_2) rfl ?_
    show Steps p.tables e below (s₁.setTop (mkF m 3 #[.val (.long q1), .second, .val (.long q2), .second] [(.int (lcmpW q1 q2))])) _
    refine XS.ifNo X0.here hx rfl (hb hby d2_3) rfl ((if0 _ _).trans (flt (fun q => (hc0 : ¬ (q2 < q1)) ((lw_gt _ _).mp q))).2.2.1) ?_
    show Steps p.tables e below (s₁.setTop (mkF m 6 #[.val (.long q1), .second, .val (.long q2), .second] [])) _
    refine XS.lloadN X0.here hx rfl (hb hby d2_6) rfl ?_
    show Steps p.tables e below (s₁.setTop (mkF m 7 #[.val (.long q1), .second, .val (.long q2), .second] [(.long q1)])) _
    refine XS.goto X0.here hx rfl (pc0 := 7) (pc' := 11) rfl (hb hby d2_7) (by decide) (by decide) ?_
    show Steps p.tables e below (s₁.setTop (mkF m 11 #[.val (.long q1), .second, .val (.long q2), .second] [(.long q1)])) _
    jvm_step X0.here [X0.here.top, hx, (hb hby d2_11), X0.method', Bd.returns, narrow]
    first | (intro acts; rw [hr _ acts rfl rfl rfl]) | rw [hr _ _ rfl rfl rfl]
    exact Steps.refl _
  · show Q_min Z q1 q2 h0 n0 _ s₁.heap _
    rw [e0]
    exact ⟨by rw [hret], N0, rfl⟩
set_option maxRecDepth 65536 in
set_option maxHeartbeats 40000000 in
theorem rm_min (l : Launch) (Z : State) (a0 : Array Value) (hw : ∀ d ∈ tables_1, d.before a0 Z = true) (ws : List Jvm.Cond) (q1 : Int64) (q2 : Int64) (h0 : Heap) (n0 : Nat) (Z0 : n0 ≤ h0.size) :
    MetFree l (⟨"java/lang/Math", "min", "(JJ)J"⟩ : MethodName) (head1 (Jvm.Cond.code (⟨"java/lang/Math", "min", "(JJ)J"⟩ : MethodName) jdk_29_method_70_code 4 (some .long) :: ws) ({ frames := 0, cells := 0, slots := 0, locals := 0 } : Room)) (fun a U => a = #[(.long q1), (.long q2)] ∧ Z.Warmed39 U.vm ∧ U.heap = h0) (fun _ _ _ _ _ => True) (fun _ U o U' => ∃ v L, o = .returned v ∧ Q_min Z q1 q2 h0 n0 v U'.heap L ∧ FrameEnd U o U' L ({ frames := 0, cells := 0, slots := 0, locals := 0 } : Room).cells ({ frames := 0, cells := 0, slots := 0, locals := 0 } : Room).slots) := by
  by_cases c0 : q2 < q1
  · skip
    exact rm_min_t l Z a0 hw ws q1 q2 h0 n0 Z0  c0 (by unfold f_min; rw [if_pos c0])
  · skip
    exact rm_min_f l Z a0 hw ws q1 q2 h0 n0 Z0  c0 (by unfold f_min; rw [if_neg c0])
theorem d1_0 : decode prog_27_method_5_code 0 = .ok (.iload_n 3, 1) := by decide +kernel
theorem d1_1 : decode prog_27_method_5_code 1 = .ok (.iconst 1, 1) := by decide +kernel
theorem d1_2 : decode prog_27_method_5_code 2 = .ok (.if_icmp .ne 8, 3) := by decide +kernel
theorem d1_10 : decode prog_27_method_5_code 10 = .ok (.lload_n 0, 1) := by decide +kernel
theorem d1_11 : decode prog_27_method_5_code 11 = .ok (.iload_n 2, 1) := by decide +kernel
theorem d1_12 : decode prog_27_method_5_code 12 = .ok (.i2l, 1) := by decide +kernel
theorem d1_13 : decode prog_27_method_5_code 13 = .ok (.lrem, 1) := by decide +kernel
theorem d1_14 : decode prog_27_method_5_code 14 = .ok (.l2i, 1) := by decide +kernel
theorem d1_15 : decode prog_27_method_5_code 15 = .ok (.ireturn, 1) := by decide +kernel
theorem d1_5 : decode prog_27_method_5_code 5 = .ok (.lload_n 0, 1) := by decide +kernel
theorem d1_6 : decode prog_27_method_5_code 6 = .ok (.l2i, 1) := by decide +kernel
theorem d1_7 : decode prog_27_method_5_code 7 = .ok (.goto 8, 3) := by decide +kernel
theorem pn_com_example_libmaybe_libmaybe_Pages : plainName "com/example/libmaybe/libmaybe/Pages" = true := by first | (simp [plainName, overriddenIn]; done) | decide +kernel
theorem ef_1_JII (m : MethodId) (x0 : Int64) (x1 : Int32) (x2 : Int32) : entryFrame m #[(.long x0), (.int x1), (.int x2)] 4 = mkF m 0 #[.val (.long x0), .second, .val (.int x1), .val (.int x2)] [] := by first | (simp [entryFrame, mkF, argsToLocals, Value.category]; done) | rfl
def f_offset (q1 : Int64) (p2 : Int32) (p3 : Int32) : Int32 := (if p3 = (1 : Int32) then (q1.toInt32) else ((q1 % (p2.toInt64)).toInt32))
def Q_offset (Z : State) (q1 : Int64) (p2 : Int32) (p3 : Int32) (h0 : Heap) (n0 : Nat) (v : Option Value) (h : Heap) (L : List Loc) : Prop := v = some (.int (f_offset q1 p2 p3)) ∧ Fr n0 L ∧ h = h0
set_option maxRecDepth 65536 in
set_option maxHeartbeats 40000000 in
theorem rm_offset_t (l : Launch) (Z : State) (a0 : Array Value) (hw : ∀ d ∈ tables_1, d.before a0 Z = true) (ws : List Jvm.Cond) (q1 : Int64) (p2 : Int32) (p3 : Int32) (h0 : Heap) (n0 : Nat) (Z0 : n0 ≤ h0.size) (hnz0 : ¬ ((p2.toInt64) = (0 : Int64))) (hc0 : ¬ (p3 = (1 : Int32))) (hret : (f_offset q1 p2 p3) = ((q1 % (p2.toInt64)).toInt32)) :
    MetFree l (⟨"com/example/libmaybe/libmaybe/Pages", "offset", "(JII)I"⟩ : MethodName) (head1 (Jvm.Cond.code (⟨"com/example/libmaybe/libmaybe/Pages", "offset", "(JII)I"⟩ : MethodName) prog_27_method_5_code 4 (some .int) :: ws) ({ frames := 0, cells := 0, slots := 0, locals := 0 } : Room)) (fun a U => a = #[(.long q1), (.int p2), (.int p3)] ∧ Z.Warmed39 U.vm ∧ U.heap = h0) (fun _ _ _ _ _ => True) (fun _ U o U' => ∃ v L, o = .returned v ∧ Q_offset Z q1 p2 p3 h0 n0 v U'.heap L ∧ FrameEnd U o U' L ({ frames := 0, cells := 0, slots := 0, locals := 0 } : Room).cells ({ frames := 0, cells := 0, slots := 0, locals := 0 } : Room).slots) := by
  refine MetFree.of_bodySF (plainFor_of_name pn_com_example_libmaybe_libmaybe_Pages) hisR ?_
  intro p e s m args below meth c s₁ Bd hml0 hP hK
  obtain ⟨rfl, hZ, hh⟩ := hP
  have hx := Bd.exec
  have hby := Bd.bytes
  have hml : c.maxLocals = 4 := hml0
  have hown : s.vm.findClass "com/example/libmaybe/libmaybe/Pages" = some m.cls := findClass_of_methodNamed Bd.named
  have hnm := (name_of_methodNamed Bd.named Bd.method).1
  have X0 : Stand p l e ({ frames := 0, cells := 0, slots := 0, locals := 0 } : Room) s m #[(.long q1), (.int p2), (.int p3)] below meth c s₁ [] 0 0 := Stand.of_body Bd
  have e0 : s₁.heap = h0 := by rw [← hh, Bd.state]; rfl
  have N0 := Fr.nil n0
  have pre0 : ∀ t, Steps p.tables e below (s₁.setTop (mkF m 0 #[.val (.long q1), .second, .val (.int p2), .val (.int p3)] [])) t → Steps p.tables e below (s₁.setTop (entryFrame m #[(.long q1), (.int p2), (.int p3)] 4)) t := fun t k => castTop (ef_1_JII m q1 p2 p3) k
  obtain ⟨fs, hr, hrun, hended, hW, hsame⟩ := X0.leave (v := some (.int ((q1 % (p2.toInt64)).toInt32))) (fun h => by rw [Bd.returns] at h; cases h)
  refine ⟨_, _, pre0 _ ?_, hrun, hended, _, _, rfl, ?_, ⟨_, rfl⟩, hW, hsame.mono (by decide) (by decide)⟩
  · show Steps p.tables e below (s₁.setTop (mkF m 0 #[.val (.long q1), .second, .val (.int p2), .val (.int p3)] [])) _
    refine XS.iloadN X0.here hx rfl (hb hby d1_0) rfl ?_
    show Steps p.tables e below (s₁.setTop (mkF m 1 #[.val (.long q1), .second, .val (.int p2), .val (.int p3)] [(.int p3)])) _
    refine XS.iconst X0.here hx rfl (hb hby d1_1) ?_
    show Steps p.tables e below (s₁.setTop (mkF m 2 #[.val (.long q1), .second, .val (.int p2), .val (.int p3)] [(.int (1 : Int32)), (.int p3)])) _
    refine XS.icmpYes X0.here hx rfl (pc0 := 2) (pc' := 10) rfl (hb hby d1_2) rfl (feq hc0).2 (by decide) (by decide) ?_
    show Steps p.tables e below (s₁.setTop (mkF m 10 #[.val (.long q1), .second, .val (.int p2), .val (.int p3)] [])) _
    refine XS.lloadN X0.here hx rfl (hb hby d1_10) rfl ?_
    show Steps p.tables e below (s₁.setTop (mkF m 11 #[.val (.long q1), .second, .val (.int p2), .val (.int p3)] [(.long q1)])) _
    refine XS.iloadN X0.here hx rfl (hb hby d1_11) rfl ?_
    show Steps p.tables e below (s₁.setTop (mkF m 12 #[.val (.long q1), .second, .val (.int p2), .val (.int p3)] [(.int p2), (.long q1)])) _
    refine XS.i2l X0.here hx rfl (hb hby d1_12) rfl ?_
    show Steps p.tables e below (s₁.setTop (mkF m 13 #[.val (.long q1), .second, .val (.int p2), .val (.int p3)] [(.long (p2.toInt64)), (.long q1)])) _
    refine XS.lrem X0.here hx rfl (hb hby d1_13) rfl hnz0 ?_
    rw [lrem_mod]
    show Steps p.tables e below (s₁.setTop (mkF m 14 #[.val (.long q1), .second, .val (.int p2), .val (.int p3)] [(.long (q1 % (p2.toInt64)))])) _
    refine XS.l2i X0.here hx rfl (hb hby d1_14) rfl ?_
    show Steps p.tables e below (s₁.setTop (mkF m 15 #[.val (.long q1), .second, .val (.int p2), .val (.int p3)] [(.int ((q1 % (p2.toInt64)).toInt32))])) _
    exact retI X0 hx Bd.returns (hb hby d1_15) hr
  · show Q_offset Z q1 p2 p3 h0 n0 _ s₁.heap _
    rw [e0]
    exact ⟨by rw [hret], N0, rfl⟩
set_option maxRecDepth 65536 in
set_option maxHeartbeats 40000000 in
theorem rm_offset_f (l : Launch) (Z : State) (a0 : Array Value) (hw : ∀ d ∈ tables_1, d.before a0 Z = true) (ws : List Jvm.Cond) (q1 : Int64) (p2 : Int32) (p3 : Int32) (h0 : Heap) (n0 : Nat) (Z0 : n0 ≤ h0.size) (hc0 : p3 = (1 : Int32)) (hret : (f_offset q1 p2 p3) = (q1.toInt32)) :
    MetFree l (⟨"com/example/libmaybe/libmaybe/Pages", "offset", "(JII)I"⟩ : MethodName) (head1 (Jvm.Cond.code (⟨"com/example/libmaybe/libmaybe/Pages", "offset", "(JII)I"⟩ : MethodName) prog_27_method_5_code 4 (some .int) :: ws) ({ frames := 0, cells := 0, slots := 0, locals := 0 } : Room)) (fun a U => a = #[(.long q1), (.int p2), (.int p3)] ∧ Z.Warmed39 U.vm ∧ U.heap = h0) (fun _ _ _ _ _ => True) (fun _ U o U' => ∃ v L, o = .returned v ∧ Q_offset Z q1 p2 p3 h0 n0 v U'.heap L ∧ FrameEnd U o U' L ({ frames := 0, cells := 0, slots := 0, locals := 0 } : Room).cells ({ frames := 0, cells := 0, slots := 0, locals := 0 } : Room).slots) := by
  refine MetFree.of_bodySF (plainFor_of_name pn_com_example_libmaybe_libmaybe_Pages) hisR ?_
  intro p e s m args below meth c s₁ Bd hml0 hP hK
  obtain ⟨rfl, hZ, hh⟩ := hP
  have hx := Bd.exec
  have hby := Bd.bytes
  have hml : c.maxLocals = 4 := hml0
  have hown : s.vm.findClass "com/example/libmaybe/libmaybe/Pages" = some m.cls := findClass_of_methodNamed Bd.named
  have hnm := (name_of_methodNamed Bd.named Bd.method).1
  have X0 : Stand p l e ({ frames := 0, cells := 0, slots := 0, locals := 0 } : Room) s m #[(.long q1), (.int p2), (.int p3)] below meth c s₁ [] 0 0 := Stand.of_body Bd
  have e0 : s₁.heap = h0 := by rw [← hh, Bd.state]; rfl
  have N0 := Fr.nil n0
  have pre0 : ∀ t, Steps p.tables e below (s₁.setTop (mkF m 0 #[.val (.long q1), .second, .val (.int p2), .val (.int p3)] [])) t → Steps p.tables e below (s₁.setTop (entryFrame m #[(.long q1), (.int p2), (.int p3)] 4)) t := fun t k => castTop (ef_1_JII m q1 p2 p3) k
  obtain ⟨fs, hr, hrun, hended, hW, hsame⟩ := X0.leave (v := some (.int (q1.toInt32))) (fun h => by rw [Bd.returns] at h; cases h)
  refine ⟨_, _, pre0 _ ?_, hrun, hended, _, _, rfl, ?_, ⟨_, rfl⟩, hW, hsame.mono (by decide) (by decide)⟩
  · show Steps p.tables e below (s₁.setTop (mkF m 0 #[.val (.long q1), .second, .val (.int p2), .val (.int p3)] [])) _
    refine XS.iloadN X0.here hx rfl (hb hby d1_0) rfl ?_
    show Steps p.tables e below (s₁.setTop (mkF m 1 #[.val (.long q1), .second, .val (.int p2), .val (.int p3)] [(.int p3)])) _
    refine XS.iconst X0.here hx rfl (hb hby d1_1) ?_
    show Steps p.tables e below (s₁.setTop (mkF m 2 #[.val (.long q1), .second, .val (.int p2), .val (.int p3)] [(.int (1 : Int32)), (.int p3)])) _
    refine XS.icmpNo X0.here hx rfl (hb hby d1_2) rfl (teq hc0).2 ?_
    show Steps p.tables e below (s₁.setTop (mkF m 5 #[.val (.long q1), .second, .val (.int p2), .val (.int p3)] [])) _
    refine XS.lloadN X0.here hx rfl (hb hby d1_5) rfl ?_
    show Steps p.tables e below (s₁.setTop (mkF m 6 #[.val (.long q1), .second, .val (.int p2), .val (.int p3)] [(.long q1)])) _
    refine XS.l2i X0.here hx rfl (hb hby d1_6) rfl ?_
    show Steps p.tables e below (s₁.setTop (mkF m 7 #[.val (.long q1), .second, .val (.int p2), .val (.int p3)] [(.int (q1.toInt32))])) _
    refine XS.goto X0.here hx rfl (pc0 := 7) (pc' := 15) rfl (hb hby d1_7) (by decide) (by decide) ?_
    show Steps p.tables e below (s₁.setTop (mkF m 15 #[.val (.long q1), .second, .val (.int p2), .val (.int p3)] [(.int (q1.toInt32))])) _
    exact retI X0 hx Bd.returns (hb hby d1_15) hr
  · show Q_offset Z q1 p2 p3 h0 n0 _ s₁.heap _
    rw [e0]
    exact ⟨by rw [hret], N0, rfl⟩
set_option maxRecDepth 65536 in
set_option maxHeartbeats 40000000 in
theorem rm_offset (l : Launch) (Z : State) (a0 : Array Value) (hw : ∀ d ∈ tables_1, d.before a0 Z = true) (ws : List Jvm.Cond) (q1 : Int64) (p2 : Int32) (p3 : Int32) (h0 : Heap) (n0 : Nat) (Z0 : n0 ≤ h0.size) (hnz0 : ¬ ((p2.toInt64) = (0 : Int64))) :
    MetFree l (⟨"com/example/libmaybe/libmaybe/Pages", "offset", "(JII)I"⟩ : MethodName) (head1 (Jvm.Cond.code (⟨"com/example/libmaybe/libmaybe/Pages", "offset", "(JII)I"⟩ : MethodName) prog_27_method_5_code 4 (some .int) :: ws) ({ frames := 0, cells := 0, slots := 0, locals := 0 } : Room)) (fun a U => a = #[(.long q1), (.int p2), (.int p3)] ∧ Z.Warmed39 U.vm ∧ U.heap = h0) (fun _ _ _ _ _ => True) (fun _ U o U' => ∃ v L, o = .returned v ∧ Q_offset Z q1 p2 p3 h0 n0 v U'.heap L ∧ FrameEnd U o U' L ({ frames := 0, cells := 0, slots := 0, locals := 0 } : Room).cells ({ frames := 0, cells := 0, slots := 0, locals := 0 } : Room).slots) := by
  by_cases c0 : p3 = (1 : Int32)
  · skip
    exact rm_offset_f l Z a0 hw ws q1 p2 p3 h0 n0 Z0  c0 (by unfold f_offset; rw [if_pos c0])
  · skip
    exact rm_offset_t l Z a0 hw ws q1 p2 p3 h0 n0 Z0 hnz0 c0 (by unfold f_offset; rw [if_neg c0])
def own_per (p1 : Int32) : Int32 := ((1 : Int32) + ((p1 &&& (2147483647 : Int32)) % (2147483647 : Int32)))
def own_off (p1 : Int32) (p3 : Int32) : Int32 := ((p3 &&& (2147483647 : Int32)) % (own_per p1))
theorem pd_0 : parseMethodDescriptor "(JII)I" = some ⟨[.long, .int, .int], some .int⟩ := by decide +kernel
theorem pd_1 : parseMethodDescriptor "(JJ)J" = some ⟨[.long, .long], some .long⟩ := by decide +kernel
theorem pn_com_example_libmaybe_libmaybe_PagesOffsetPinLaw : plainName "com/example/libmaybe/libmaybe/PagesOffsetPinLaw" = true := by first | (simp [plainName, overriddenIn]; done) | decide +kernel
theorem ef_0_IIII (m : MethodId) (x0 : Int32) (x1 : Int32) (x2 : Int32) (x3 : Int32) : entryFrame m #[(.int x0), (.int x1), (.int x2), (.int x3)] maxLocals = mkF m 0 #[.val (.int x0), .val (.int x1), .val (.int x2), .val (.int x3), .unset, .unset, .unset, .unset, .unset, .unset, .unset, .unset] [] := by first | (simp [entryFrame, mkF, argsToLocals, Value.category, maxLocals]; done) | rfl
def Q_law (Z : State) (p1 : Int32) (p2 : Int32) (p3 : Int32) (p4 : Int32) (h0 : Heap) (n0 : Nat) (v : Option Value) (h : Heap) (L : List Loc) : Prop := v = some (.int (1 : Int32)) ∧ Fr n0 L
def Road_ffff (p1 : Int32) (p2 : Int32) (p3 : Int32) (p4 : Int32) : Prop := (¬ ((own_per p1) = (0 : Int32))) ∧ (¬ (((own_per p1).toInt64) = (0 : Int64))) ∧ (¬ ((p4 &&& (1 : Int32)) = (0 : Int32))) ∧ ((f_offset ((((0 : Int32).toInt64) * ((own_per p1).toInt64)) + ((own_off p1 p3).toInt64)) (own_per p1) (1 : Int32)) = (own_off p1 p3)) ∧ (¬ ((f_offset ((((0 : Int32).toInt64) * ((own_per p1).toInt64)) + ((own_off p1 p3).toInt64)) (own_per p1) (1 : Int32)) < (0 : Int32))) ∧ ((f_offset ((((0 : Int32).toInt64) * ((own_per p1).toInt64)) + ((own_off p1 p3).toInt64)) (own_per p1) (1 : Int32)) < (own_per p1))
set_option maxRecDepth 65536 in
set_option maxHeartbeats 40000000 in
theorem rm_law_ffff (l : Launch) (Z : State) (a0 : Array Value) (hw : ∀ d ∈ tables_1, d.before a0 Z = true) (ws : List Jvm.Cond) (p1 : Int32) (p2 : Int32) (p3 : Int32) (p4 : Int32) (h0 : Heap) (n0 : Nat) (Z0 : n0 ≤ h0.size) (hroad : Road_ffff p1 p2 p3 p4) :
    MetFree l x (head1 (Jvm.Cond.code x code maxLocals ret :: ws) room_1) (fun a U => a = #[(.int p1), (.int p2), (.int p3), (.int p4)] ∧ Z.Warmed39 U.vm ∧ U.heap = h0) (fun _ _ _ _ _ => True) (fun _ U o U' => ∃ v L, o = .returned v ∧ Q_law Z p1 p2 p3 p4 h0 n0 v U'.heap L ∧ FrameEnd U o U' L room_1.cells room_1.slots) := by
  obtain ⟨hnz0, hp1, hc0, hc1, hc2, hc3⟩ := hroad
  refine MetFree.of_bodySF (plainFor_of_name pn_com_example_libmaybe_libmaybe_PagesOffsetPinLaw) hisR ?_
  intro p e s m args below meth c s₁ Bd hml0 hP hK
  obtain ⟨rfl, hZ, hh⟩ := hP
  have hx := Bd.exec
  have hby := Bd.bytes
  have hml : c.maxLocals = 12 := hml0
  have hown : s.vm.findClass "com/example/libmaybe/libmaybe/PagesOffsetPinLaw" = some m.cls := findClass_of_methodNamed Bd.named
  have hnm := (name_of_methodNamed Bd.named Bd.method).1
  have X0 : Stand p l e room_1 s m #[(.int p1), (.int p2), (.int p3), (.int p4)] below meth c s₁ [] 0 0 := Stand.of_body Bd
  have e0 : s₁.heap = h0 := by rw [← hh, Bd.state]; rfl
  have N0 := Fr.nil n0
  have pre0 : ∀ t, Steps p.tables e below (s₁.setTop (mkF m 0 #[.val (.int p1), .val (.int p2), .val (.int p3), .val (.int p4), .unset, .unset, .unset, .unset, .unset, .unset, .unset, .unset] [])) t → Steps p.tables e below (s₁.setTop (entryFrame m #[(.int p1), (.int p2), (.int p3), (.int p4)] maxLocals)) t := fun t k => castTop (ef_0_IIII m p1 p2 p3 p4) k
  obtain ⟨_, _, ⟨T1, L1, k1, n1⟩, -, X1, ⟨Lc1, hQ1, l1, y1, z1⟩, st1⟩ := Jvm.LawKit.callS X0 hx (y := (⟨"com/example/libmaybe/libmaybe/Pages", "offset", "(JII)I"⟩ : MethodName)) hown (mvT hZ (hw _ (List.mem_of_getElem? (i := 1) rfl))) (mvT hZ (hw _ (List.mem_of_getElem? (i := 2) rfl))) (mvT hZ (hw _ (List.mem_of_getElem? (i := 3) rfl))) (mvT hZ (hw _ (List.mem_of_getElem? (i := 4) rfl))) (by decide) (backOf (W := 0) (rm_offset l Z a0 hw [] ((((0 : Int32).toInt64) * ((own_per p1).toInt64)) + ((own_off p1 p3).toInt64)) (own_per p1) (1 : Int32) h0 n0 Z0 hp1) hZ (hw _ (List.mem_of_getElem? (i := 4) rfl)) (hw _ (List.mem_of_getElem? (i := 3) rfl)) (by decide) (by decide)) (g := (mkF m 102 #[.val (.int p1), .val (.int p2), .val (.int p3), .val (.int p4), .val (.int (own_per p1)), .val (.int (1 : Int32)), .val (.int (0 : Int32)), .val (.int (own_off p1 p3)), .val (.long ((((0 : Int32).toInt64) * ((own_per p1).toInt64)) + ((own_off p1 p3).toInt64))), .second, .val (.int (1 : Int32)), .unset] [(.int (1 : Int32)), (.int (own_per p1)), (.long ((((0 : Int32).toInt64) * ((own_per p1).toInt64)) + ((own_off p1 p3).toInt64)))])) rfl (by rw [hml]; rfl) (argsL := [(.long ((((0 : Int32).toInt64) * ((own_per p1).toInt64)) + ((own_off p1 p3).toInt64))), (.int (own_per p1)), (.int (1 : Int32))]) (rest := []) (lenOf pd_0 rfl) rfl (by show 2 * 0 + _ ≤ _; exact Nat.le_of_eq rfl) (hb hby at_102) (fun _ _ => ⟨rfl, e0, (by decide : 0 + 0 ≤ _), (by decide : 0 + 0 ≤ _)⟩)
  dsimp only [Pt.U, Pt.locs, Pt.cells, Pt.slots] at X1 l1 y1 z1 st1 hQ1
  subst l1 y1 z1
  obtain ⟨rfl, Nq1, e1⟩ := hQ1
  have N2 := Fr.app N0 Nq1
  obtain ⟨fs, hr, hrun, hended, hW, hsame⟩ := X1.leave (v := some (.int (1 : Int32))) (fun h => by rw [Bd.returns] at h; cases h)
  refine ⟨_, _, pre0 _ ?_, hrun, hended, _, _, rfl, ?_, ⟨_, rfl⟩, hW, hsame.mono (by decide) (by decide)⟩
  · show Steps p.tables e below (s₁.setTop (mkF m 0 #[.val (.int p1), .val (.int p2), .val (.int p3), .val (.int p4), .unset, .unset, .unset, .unset, .unset, .unset, .unset, .unset] [])) _
    refine XS.iconst X0.here hx rfl (hb hby at_0) ?_
    show Steps p.tables e below (s₁.setTop (mkF m 1 #[.val (.int p1), .val (.int p2), .val (.int p3), .val (.int p4), .unset, .unset, .unset, .unset, .unset, .unset, .unset, .unset] [(.int (1 : Int32))])) _
    refine XS.iloadN X0.here hx rfl (hb hby at_1) rfl ?_
    show Steps p.tables e below (s₁.setTop (mkF m 2 #[.val (.int p1), .val (.int p2), .val (.int p3), .val (.int p4), .unset, .unset, .unset, .unset, .unset, .unset, .unset, .unset] [(.int p1), (.int (1 : Int32))])) _
    refine X0.ldcInt hx hown (mvT hZ (hw _ (List.mem_of_getElem? (i := 0) rfl))) (g := (mkF m 2 #[.val (.int p1), .val (.int p2), .val (.int p3), .val (.int p4), .unset, .unset, .unset, .unset, .unset, .unset, .unset, .unset] [(.int p1), (.int (1 : Int32))])) rfl (hb hby at_2) _ ?_
    show Steps p.tables e below (s₁.setTop (mkF m 4 #[.val (.int p1), .val (.int p2), .val (.int p3), .val (.int p4), .unset, .unset, .unset, .unset, .unset, .unset, .unset, .unset] [(.int (2147483647 : Int32)), (.int p1), (.int (1 : Int32))])) _
    refine XS.iand X0.here hx rfl (hb hby at_4) rfl ?_
    show Steps p.tables e below (s₁.setTop (mkF m 5 #[.val (.int p1), .val (.int p2), .val (.int p3), .val (.int p4), .unset, .unset, .unset, .unset, .unset, .unset, .unset, .unset] [(.int (p1 &&& (2147483647 : Int32))), (.int (1 : Int32))])) _
    refine X0.ldcInt hx hown (mvT hZ (hw _ (List.mem_of_getElem? (i := 0) rfl))) (g := (mkF m 5 #[.val (.int p1), .val (.int p2), .val (.int p3), .val (.int p4), .unset, .unset, .unset, .unset, .unset, .unset, .unset, .unset] [(.int (p1 &&& (2147483647 : Int32))), (.int (1 : Int32))])) rfl (hb hby at_5) _ ?_
    show Steps p.tables e below (s₁.setTop (mkF m 7 #[.val (.int p1), .val (.int p2), .val (.int p3), .val (.int p4), .unset, .unset, .unset, .unset, .unset, .unset, .unset, .unset] [(.int (2147483647 : Int32)), (.int (p1 &&& (2147483647 : Int32))), (.int (1 : Int32))])) _
    refine iremM X0 hx rfl (hb hby at_7) rfl (by decide) ?_
    show Steps p.tables e below (s₁.setTop (mkF m 8 #[.val (.int p1), .val (.int p2), .val (.int p3), .val (.int p4), .unset, .unset, .unset, .unset, .unset, .unset, .unset, .unset] [(.int ((p1 &&& (2147483647 : Int32)) % (2147483647 : Int32))), (.int (1 : Int32))])) _
    refine XS.iadd X0.here hx rfl (hb hby at_8) rfl ?_
    show Steps p.tables e below (s₁.setTop (mkF m 9 #[.val (.int p1), .val (.int p2), .val (.int p3), .val (.int p4), .unset, .unset, .unset, .unset, .unset, .unset, .unset, .unset] [(.int ((1 : Int32) + ((p1 &&& (2147483647 : Int32)) % (2147483647 : Int32))))])) _
    refine XS.istore X0.here hx rfl (hb hby at_9) rfl (l' := #[.val (.int p1), .val (.int p2), .val (.int p3), .val (.int p4), .val (.int (own_per p1)), .unset, .unset, .unset, .unset, .unset, .unset, .unset]) rfl ?_
    show Steps p.tables e below (s₁.setTop (mkF m 11 #[.val (.int p1), .val (.int p2), .val (.int p3), .val (.int p4), .val (.int (own_per p1)), .unset, .unset, .unset, .unset, .unset, .unset, .unset] [])) _
    refine XS.iloadN X0.here hx rfl (hb hby at_11) rfl ?_
    show Steps p.tables e below (s₁.setTop (mkF m 12 #[.val (.int p1), .val (.int p2), .val (.int p3), .val (.int p4), .val (.int (own_per p1)), .unset, .unset, .unset, .unset, .unset, .unset, .unset] [(.int p4)])) _
    refine XS.iconst X0.here hx rfl (hb hby at_12) ?_
    show Steps p.tables e below (s₁.setTop (mkF m 13 #[.val (.int p1), .val (.int p2), .val (.int p3), .val (.int p4), .val (.int (own_per p1)), .unset, .unset, .unset, .unset, .unset, .unset, .unset] [(.int (1 : Int32)), (.int p4)])) _
    refine XS.iand X0.here hx rfl (hb hby at_13) rfl ?_
    show Steps p.tables e below (s₁.setTop (mkF m 14 #[.val (.int p1), .val (.int p2), .val (.int p3), .val (.int p4), .val (.int (own_per p1)), .unset, .unset, .unset, .unset, .unset, .unset, .unset] [(.int (p4 &&& (1 : Int32)))])) _
    refine XS.ifNo X0.here hx rfl (hb hby at_14) rfl ((if0 _ _).trans (feq hc0).1) ?_
    show Steps p.tables e below (s₁.setTop (mkF m 17 #[.val (.int p1), .val (.int p2), .val (.int p3), .val (.int p4), .val (.int (own_per p1)), .unset, .unset, .unset, .unset, .unset, .unset, .unset] [])) _
    refine XS.iconst X0.here hx rfl (hb hby at_17) ?_
    show Steps p.tables e below (s₁.setTop (mkF m 18 #[.val (.int p1), .val (.int p2), .val (.int p3), .val (.int p4), .val (.int (own_per p1)), .unset, .unset, .unset, .unset, .unset, .unset, .unset] [(.int (1 : Int32))])) _
    refine XS.goto X0.here hx rfl (pc0 := 18) (pc' := 22) rfl (hb hby at_18) (by decide) (by decide) ?_
    show Steps p.tables e below (s₁.setTop (mkF m 22 #[.val (.int p1), .val (.int p2), .val (.int p3), .val (.int p4), .val (.int (own_per p1)), .unset, .unset, .unset, .unset, .unset, .unset, .unset] [(.int (1 : Int32))])) _
    refine XS.istore X0.here hx rfl (hb hby at_22) rfl (l' := #[.val (.int p1), .val (.int p2), .val (.int p3), .val (.int p4), .val (.int (own_per p1)), .val (.int (1 : Int32)), .unset, .unset, .unset, .unset, .unset, .unset]) rfl ?_
    show Steps p.tables e below (s₁.setTop (mkF m 24 #[.val (.int p1), .val (.int p2), .val (.int p3), .val (.int p4), .val (.int (own_per p1)), .val (.int (1 : Int32)), .unset, .unset, .unset, .unset, .unset, .unset] [])) _
    refine XS.iload X0.here hx rfl (hb hby at_24) rfl ?_
    show Steps p.tables e below (s₁.setTop (mkF m 26 #[.val (.int p1), .val (.int p2), .val (.int p3), .val (.int p4), .val (.int (own_per p1)), .val (.int (1 : Int32)), .unset, .unset, .unset, .unset, .unset, .unset] [(.int (1 : Int32))])) _
    refine XS.ifNo X0.here hx rfl (hb hby at_26) rfl ((if0 _ _).trans (feq (by decide : ¬ ((1 : Int32) = (0 : Int32)))).1) ?_
    show Steps p.tables e below (s₁.setTop (mkF m 29 #[.val (.int p1), .val (.int p2), .val (.int p3), .val (.int p4), .val (.int (own_per p1)), .val (.int (1 : Int32)), .unset, .unset, .unset, .unset, .unset, .unset] [])) _
    refine XS.iconst X0.here hx rfl (hb hby at_29) ?_
    show Steps p.tables e below (s₁.setTop (mkF m 30 #[.val (.int p1), .val (.int p2), .val (.int p3), .val (.int p4), .val (.int (own_per p1)), .val (.int (1 : Int32)), .unset, .unset, .unset, .unset, .unset, .unset] [(.int (0 : Int32))])) _
    refine XS.goto X0.here hx rfl (pc0 := 30) (pc' := 40) rfl (hb hby at_30) (by decide) (by decide) ?_
    show Steps p.tables e below (s₁.setTop (mkF m 40 #[.val (.int p1), .val (.int p2), .val (.int p3), .val (.int p4), .val (.int (own_per p1)), .val (.int (1 : Int32)), .unset, .unset, .unset, .unset, .unset, .unset] [(.int (0 : Int32))])) _
    refine XS.istore X0.here hx rfl (hb hby at_40) rfl (l' := #[.val (.int p1), .val (.int p2), .val (.int p3), .val (.int p4), .val (.int (own_per p1)), .val (.int (1 : Int32)), .val (.int (0 : Int32)), .unset, .unset, .unset, .unset, .unset]) rfl ?_
    show Steps p.tables e below (s₁.setTop (mkF m 42 #[.val (.int p1), .val (.int p2), .val (.int p3), .val (.int p4), .val (.int (own_per p1)), .val (.int (1 : Int32)), .val (.int (0 : Int32)), .unset, .unset, .unset, .unset, .unset] [])) _
    refine XS.iloadN X0.here hx rfl (hb hby at_42) rfl ?_
    show Steps p.tables e below (s₁.setTop (mkF m 43 #[.val (.int p1), .val (.int p2), .val (.int p3), .val (.int p4), .val (.int (own_per p1)), .val (.int (1 : Int32)), .val (.int (0 : Int32)), .unset, .unset, .unset, .unset, .unset] [(.int p3)])) _
    refine X0.ldcInt hx hown (mvT hZ (hw _ (List.mem_of_getElem? (i := 0) rfl))) (g := (mkF m 43 #[.val (.int p1), .val (.int p2), .val (.int p3), .val (.int p4), .val (.int (own_per p1)), .val (.int (1 : Int32)), .val (.int (0 : Int32)), .unset, .unset, .unset, .unset, .unset] [(.int p3)])) rfl (hb hby at_43) _ ?_
    show Steps p.tables e below (s₁.setTop (mkF m 45 #[.val (.int p1), .val (.int p2), .val (.int p3), .val (.int p4), .val (.int (own_per p1)), .val (.int (1 : Int32)), .val (.int (0 : Int32)), .unset, .unset, .unset, .unset, .unset] [(.int (2147483647 : Int32)), (.int p3)])) _
    refine XS.iand X0.here hx rfl (hb hby at_45) rfl ?_
    show Steps p.tables e below (s₁.setTop (mkF m 46 #[.val (.int p1), .val (.int p2), .val (.int p3), .val (.int p4), .val (.int (own_per p1)), .val (.int (1 : Int32)), .val (.int (0 : Int32)), .unset, .unset, .unset, .unset, .unset] [(.int (p3 &&& (2147483647 : Int32)))])) _
    refine XS.iload X0.here hx rfl (hb hby at_46) rfl ?_
    show Steps p.tables e below (s₁.setTop (mkF m 48 #[.val (.int p1), .val (.int p2), .val (.int p3), .val (.int p4), .val (.int (own_per p1)), .val (.int (1 : Int32)), .val (.int (0 : Int32)), .unset, .unset, .unset, .unset, .unset] [(.int (own_per p1)), (.int (p3 &&& (2147483647 : Int32)))])) _
    refine iremM X0 hx rfl (hb hby at_48) rfl hnz0 ?_
    show Steps p.tables e below (s₁.setTop (mkF m 49 #[.val (.int p1), .val (.int p2), .val (.int p3), .val (.int p4), .val (.int (own_per p1)), .val (.int (1 : Int32)), .val (.int (0 : Int32)), .unset, .unset, .unset, .unset, .unset] [(.int ((p3 &&& (2147483647 : Int32)) % (own_per p1)))])) _
    refine XS.istore X0.here hx rfl (hb hby at_49) rfl (l' := #[.val (.int p1), .val (.int p2), .val (.int p3), .val (.int p4), .val (.int (own_per p1)), .val (.int (1 : Int32)), .val (.int (0 : Int32)), .val (.int (own_off p1 p3)), .unset, .unset, .unset, .unset]) rfl ?_
    show Steps p.tables e below (s₁.setTop (mkF m 51 #[.val (.int p1), .val (.int p2), .val (.int p3), .val (.int p4), .val (.int (own_per p1)), .val (.int (1 : Int32)), .val (.int (0 : Int32)), .val (.int (own_off p1 p3)), .unset, .unset, .unset, .unset] [])) _
    refine XS.iload X0.here hx rfl (hb hby at_51) rfl ?_
    show Steps p.tables e below (s₁.setTop (mkF m 53 #[.val (.int p1), .val (.int p2), .val (.int p3), .val (.int p4), .val (.int (own_per p1)), .val (.int (1 : Int32)), .val (.int (0 : Int32)), .val (.int (own_off p1 p3)), .unset, .unset, .unset, .unset] [(.int (0 : Int32))])) _
    refine XS.i2l X0.here hx rfl (hb hby at_53) rfl ?_
    show Steps p.tables e below (s₁.setTop (mkF m 54 #[.val (.int p1), .val (.int p2), .val (.int p3), .val (.int p4), .val (.int (own_per p1)), .val (.int (1 : Int32)), .val (.int (0 : Int32)), .val (.int (own_off p1 p3)), .unset, .unset, .unset, .unset] [(.long ((0 : Int32).toInt64))])) _
    refine XS.iload X0.here hx rfl (hb hby at_54) rfl ?_
    show Steps p.tables e below (s₁.setTop (mkF m 56 #[.val (.int p1), .val (.int p2), .val (.int p3), .val (.int p4), .val (.int (own_per p1)), .val (.int (1 : Int32)), .val (.int (0 : Int32)), .val (.int (own_off p1 p3)), .unset, .unset, .unset, .unset] [(.int (own_per p1)), (.long ((0 : Int32).toInt64))])) _
    refine XS.i2l X0.here hx rfl (hb hby at_56) rfl ?_
    show Steps p.tables e below (s₁.setTop (mkF m 57 #[.val (.int p1), .val (.int p2), .val (.int p3), .val (.int p4), .val (.int (own_per p1)), .val (.int (1 : Int32)), .val (.int (0 : Int32)), .val (.int (own_off p1 p3)), .unset, .unset, .unset, .unset] [(.long ((own_per p1).toInt64)), (.long ((0 : Int32).toInt64))])) _
    refine XS.lmul X0.here hx rfl (hb hby at_57) rfl ?_
    show Steps p.tables e below (s₁.setTop (mkF m 58 #[.val (.int p1), .val (.int p2), .val (.int p3), .val (.int p4), .val (.int (own_per p1)), .val (.int (1 : Int32)), .val (.int (0 : Int32)), .val (.int (own_off p1 p3)), .unset, .unset, .unset, .unset] [(.long (((0 : Int32).toInt64) * ((own_per p1).toInt64)))])) _
    refine XS.iload X0.here hx rfl (hb hby at_58) rfl ?_
    show Steps p.tables e below (s₁.setTop (mkF m 60 #[.val (.int p1), .val (.int p2), .val (.int p3), .val (.int p4), .val (.int (own_per p1)), .val (.int (1 : Int32)), .val (.int (0 : Int32)), .val (.int (own_off p1 p3)), .unset, .unset, .unset, .unset] [(.int (own_off p1 p3)), (.long (((0 : Int32).toInt64) * ((own_per p1).toInt64)))])) _
    refine XS.i2l X0.here hx rfl (hb hby at_60) rfl ?_
    show Steps p.tables e below (s₁.setTop (mkF m 61 #[.val (.int p1), .val (.int p2), .val (.int p3), .val (.int p4), .val (.int (own_per p1)), .val (.int (1 : Int32)), .val (.int (0 : Int32)), .val (.int (own_off p1 p3)), .unset, .unset, .unset, .unset] [(.long ((own_off p1 p3).toInt64)), (.long (((0 : Int32).toInt64) * ((own_per p1).toInt64)))])) _
    refine XS.ladd X0.here hx rfl (hb hby at_61) rfl ?_
    show Steps p.tables e below (s₁.setTop (mkF m 62 #[.val (.int p1), .val (.int p2), .val (.int p3), .val (.int p4), .val (.int (own_per p1)), .val (.int (1 : Int32)), .val (.int (0 : Int32)), .val (.int (own_off p1 p3)), .unset, .unset, .unset, .unset] [(.long ((((0 : Int32).toInt64) * ((own_per p1).toInt64)) + ((own_off p1 p3).toInt64)))])) _
    refine XS.lstore X0.here hx rfl (hb hby at_62) rfl (l' := #[.val (.int p1), .val (.int p2), .val (.int p3), .val (.int p4), .val (.int (own_per p1)), .val (.int (1 : Int32)), .val (.int (0 : Int32)), .val (.int (own_off p1 p3)), .val (.long ((((0 : Int32).toInt64) * ((own_per p1).toInt64)) + ((own_off p1 p3).toInt64))), .second, .unset, .unset]) rfl ?_
    show Steps p.tables e below (s₁.setTop (mkF m 64 #[.val (.int p1), .val (.int p2), .val (.int p3), .val (.int p4), .val (.int (own_per p1)), .val (.int (1 : Int32)), .val (.int (0 : Int32)), .val (.int (own_off p1 p3)), .val (.long ((((0 : Int32).toInt64) * ((own_per p1).toInt64)) + ((own_off p1 p3).toInt64))), .second, .unset, .unset] [])) _
    refine XS.iload X0.here hx rfl (hb hby at_64) rfl ?_
    show Steps p.tables e below (s₁.setTop (mkF m 66 #[.val (.int p1), .val (.int p2), .val (.int p3), .val (.int p4), .val (.int (own_per p1)), .val (.int (1 : Int32)), .val (.int (0 : Int32)), .val (.int (own_off p1 p3)), .val (.long ((((0 : Int32).toInt64) * ((own_per p1).toInt64)) + ((own_off p1 p3).toInt64))), .second, .unset, .unset] [(.int (1 : Int32))])) _
    refine XS.ifNo X0.here hx rfl (hb hby at_66) rfl ((if0 _ _).trans (feq (by decide : ¬ ((1 : Int32) = (0 : Int32)))).1) ?_
    show Steps p.tables e below (s₁.setTop (mkF m 69 #[.val (.int p1), .val (.int p2), .val (.int p3), .val (.int p4), .val (.int (own_per p1)), .val (.int (1 : Int32)), .val (.int (0 : Int32)), .val (.int (own_off p1 p3)), .val (.long ((((0 : Int32).toInt64) * ((own_per p1).toInt64)) + ((own_off p1 p3).toInt64))), .second, .unset, .unset] [])) _
    refine XS.iconst X0.here hx rfl (hb hby at_69) ?_
    show Steps p.tables e below (s₁.setTop (mkF m 70 #[.val (.int p1), .val (.int p2), .val (.int p3), .val (.int p4), .val (.int (own_per p1)), .val (.int (1 : Int32)), .val (.int (0 : Int32)), .val (.int (own_off p1 p3)), .val (.long ((((0 : Int32).toInt64) * ((own_per p1).toInt64)) + ((own_off p1 p3).toInt64))), .second, .unset, .unset] [(.int (1 : Int32))])) _
    refine XS.goto X0.here hx rfl (pc0 := 70) (pc' := 94) rfl (hb hby at_70) (by decide) (by decide) ?_
    show Steps p.tables e below (s₁.setTop (mkF m 94 #[.val (.int p1), .val (.int p2), .val (.int p3), .val (.int p4), .val (.int (own_per p1)), .val (.int (1 : Int32)), .val (.int (0 : Int32)), .val (.int (own_off p1 p3)), .val (.long ((((0 : Int32).toInt64) * ((own_per p1).toInt64)) + ((own_off p1 p3).toInt64))), .second, .unset, .unset] [(.int (1 : Int32))])) _
    refine XS.istore X0.here hx rfl (hb hby at_94) rfl (l' := #[.val (.int p1), .val (.int p2), .val (.int p3), .val (.int p4), .val (.int (own_per p1)), .val (.int (1 : Int32)), .val (.int (0 : Int32)), .val (.int (own_off p1 p3)), .val (.long ((((0 : Int32).toInt64) * ((own_per p1).toInt64)) + ((own_off p1 p3).toInt64))), .second, .val (.int (1 : Int32)), .unset]) rfl ?_
    show Steps p.tables e below (s₁.setTop (mkF m 96 #[.val (.int p1), .val (.int p2), .val (.int p3), .val (.int p4), .val (.int (own_per p1)), .val (.int (1 : Int32)), .val (.int (0 : Int32)), .val (.int (own_off p1 p3)), .val (.long ((((0 : Int32).toInt64) * ((own_per p1).toInt64)) + ((own_off p1 p3).toInt64))), .second, .val (.int (1 : Int32)), .unset] [])) _
    refine XS.lload X0.here hx rfl (hb hby at_96) rfl ?_
    show Steps p.tables e below (s₁.setTop (mkF m 98 #[.val (.int p1), .val (.int p2), .val (.int p3), .val (.int p4), .val (.int (own_per p1)), .val (.int (1 : Int32)), .val (.int (0 : Int32)), .val (.int (own_off p1 p3)), .val (.long ((((0 : Int32).toInt64) * ((own_per p1).toInt64)) + ((own_off p1 p3).toInt64))), .second, .val (.int (1 : Int32)), .unset] [(.long ((((0 : Int32).toInt64) * ((own_per p1).toInt64)) + ((own_off p1 p3).toInt64)))])) _
    refine XS.iload X0.here hx rfl (hb hby at_98) rfl ?_
    show Steps p.tables e below (s₁.setTop (mkF m 100 #[.val (.int p1), .val (.int p2), .val (.int p3), .val (.int p4), .val (.int (own_per p1)), .val (.int (1 : Int32)), .val (.int (0 : Int32)), .val (.int (own_off p1 p3)), .val (.long ((((0 : Int32).toInt64) * ((own_per p1).toInt64)) + ((own_off p1 p3).toInt64))), .second, .val (.int (1 : Int32)), .unset] [(.int (own_per p1)), (.long ((((0 : Int32).toInt64) * ((own_per p1).toInt64)) + ((own_off p1 p3).toInt64)))])) _
    refine XS.iload X0.here hx rfl (hb hby at_100) rfl ?_
    show Steps p.tables e below (s₁.setTop (mkF m 102 #[.val (.int p1), .val (.int p2), .val (.int p3), .val (.int p4), .val (.int (own_per p1)), .val (.int (1 : Int32)), .val (.int (0 : Int32)), .val (.int (own_off p1 p3)), .val (.long ((((0 : Int32).toInt64) * ((own_per p1).toInt64)) + ((own_off p1 p3).toInt64))), .second, .val (.int (1 : Int32)), .unset] [(.int (1 : Int32)), (.int (own_per p1)), (.long ((((0 : Int32).toInt64) * ((own_per p1).toInt64)) + ((own_off p1 p3).toInt64)))])) _
    refine st1 _ ?_
    show Steps p.tables e below (T1.setTop (mkF m 105 #[.val (.int p1), .val (.int p2), .val (.int p3), .val (.int p4), .val (.int (own_per p1)), .val (.int (1 : Int32)), .val (.int (0 : Int32)), .val (.int (own_off p1 p3)), .val (.long ((((0 : Int32).toInt64) * ((own_per p1).toInt64)) + ((own_off p1 p3).toInt64))), .second, .val (.int (1 : Int32)), .unset] [(.int (f_offset ((((0 : Int32).toInt64) * ((own_per p1).toInt64)) + ((own_off p1 p3).toInt64)) (own_per p1) (1 : Int32)))])) _
    refine XS.istore X1.here hx rfl (hb hby at_105) rfl (l' := #[.val (.int p1), .val (.int p2), .val (.int p3), .val (.int p4), .val (.int (own_per p1)), .val (.int (1 : Int32)), .val (.int (0 : Int32)), .val (.int (own_off p1 p3)), .val (.long ((((0 : Int32).toInt64) * ((own_per p1).toInt64)) + ((own_off p1 p3).toInt64))), .second, .val (.int (1 : Int32)), .val (.int (f_offset ((((0 : Int32).toInt64) * ((own_per p1).toInt64)) + ((own_off p1 p3).toInt64)) (own_per p1) (1 : Int32)))]) rfl ?_
    show Steps p.tables e below (T1.setTop (mkF m 107 #[.val (.int p1), .val (.int p2), .val (.int p3), .val (.int p4), .val (.int (own_per p1)), .val (.int (1 : Int32)), .val (.int (0 : Int32)), .val (.int (own_off p1 p3)), .val (.long ((((0 : Int32).toInt64) * ((own_per p1).toInt64)) + ((own_off p1 p3).toInt64))), .second, .val (.int (1 : Int32)), .val (.int (f_offset ((((0 : Int32).toInt64) * ((own_per p1).toInt64)) + ((own_off p1 p3).toInt64)) (own_per p1) (1 : Int32)))] [])) _
    refine XS.iload X1.here hx rfl (hb hby at_107) rfl ?_
    show Steps p.tables e below (T1.setTop (mkF m 109 #[.val (.int p1), .val (.int p2), .val (.int p3), .val (.int p4), .val (.int (own_per p1)), .val (.int (1 : Int32)), .val (.int (0 : Int32)), .val (.int (own_off p1 p3)), .val (.long ((((0 : Int32).toInt64) * ((own_per p1).toInt64)) + ((own_off p1 p3).toInt64))), .second, .val (.int (1 : Int32)), .val (.int (f_offset ((((0 : Int32).toInt64) * ((own_per p1).toInt64)) + ((own_off p1 p3).toInt64)) (own_per p1) (1 : Int32)))] [(.int (f_offset ((((0 : Int32).toInt64) * ((own_per p1).toInt64)) + ((own_off p1 p3).toInt64)) (own_per p1) (1 : Int32)))])) _
    refine XS.iload X1.here hx rfl (hb hby at_109) rfl ?_
    show Steps p.tables e below (T1.setTop (mkF m 111 #[.val (.int p1), .val (.int p2), .val (.int p3), .val (.int p4), .val (.int (own_per p1)), .val (.int (1 : Int32)), .val (.int (0 : Int32)), .val (.int (own_off p1 p3)), .val (.long ((((0 : Int32).toInt64) * ((own_per p1).toInt64)) + ((own_off p1 p3).toInt64))), .second, .val (.int (1 : Int32)), .val (.int (f_offset ((((0 : Int32).toInt64) * ((own_per p1).toInt64)) + ((own_off p1 p3).toInt64)) (own_per p1) (1 : Int32)))] [(.int (own_off p1 p3)), (.int (f_offset ((((0 : Int32).toInt64) * ((own_per p1).toInt64)) + ((own_off p1 p3).toInt64)) (own_per p1) (1 : Int32)))])) _
    refine XS.icmpNo X1.here hx rfl (hb hby at_111) rfl (teq hc1).2 ?_
    show Steps p.tables e below (T1.setTop (mkF m 114 #[.val (.int p1), .val (.int p2), .val (.int p3), .val (.int p4), .val (.int (own_per p1)), .val (.int (1 : Int32)), .val (.int (0 : Int32)), .val (.int (own_off p1 p3)), .val (.long ((((0 : Int32).toInt64) * ((own_per p1).toInt64)) + ((own_off p1 p3).toInt64))), .second, .val (.int (1 : Int32)), .val (.int (f_offset ((((0 : Int32).toInt64) * ((own_per p1).toInt64)) + ((own_off p1 p3).toInt64)) (own_per p1) (1 : Int32)))] [])) _
    refine XS.iload X1.here hx rfl (hb hby at_114) rfl ?_
    show Steps p.tables e below (T1.setTop (mkF m 116 #[.val (.int p1), .val (.int p2), .val (.int p3), .val (.int p4), .val (.int (own_per p1)), .val (.int (1 : Int32)), .val (.int (0 : Int32)), .val (.int (own_off p1 p3)), .val (.long ((((0 : Int32).toInt64) * ((own_per p1).toInt64)) + ((own_off p1 p3).toInt64))), .second, .val (.int (1 : Int32)), .val (.int (f_offset ((((0 : Int32).toInt64) * ((own_per p1).toInt64)) + ((own_off p1 p3).toInt64)) (own_per p1) (1 : Int32)))] [(.int (f_offset ((((0 : Int32).toInt64) * ((own_per p1).toInt64)) + ((own_off p1 p3).toInt64)) (own_per p1) (1 : Int32)))])) _
    refine XS.ifNo X1.here hx rfl (hb hby at_116) rfl ((if0 _ _).trans (flt hc2).1) ?_
    show Steps p.tables e below (T1.setTop (mkF m 119 #[.val (.int p1), .val (.int p2), .val (.int p3), .val (.int p4), .val (.int (own_per p1)), .val (.int (1 : Int32)), .val (.int (0 : Int32)), .val (.int (own_off p1 p3)), .val (.long ((((0 : Int32).toInt64) * ((own_per p1).toInt64)) + ((own_off p1 p3).toInt64))), .second, .val (.int (1 : Int32)), .val (.int (f_offset ((((0 : Int32).toInt64) * ((own_per p1).toInt64)) + ((own_off p1 p3).toInt64)) (own_per p1) (1 : Int32)))] [])) _
    refine XS.iload X1.here hx rfl (hb hby at_119) rfl ?_
    show Steps p.tables e below (T1.setTop (mkF m 121 #[.val (.int p1), .val (.int p2), .val (.int p3), .val (.int p4), .val (.int (own_per p1)), .val (.int (1 : Int32)), .val (.int (0 : Int32)), .val (.int (own_off p1 p3)), .val (.long ((((0 : Int32).toInt64) * ((own_per p1).toInt64)) + ((own_off p1 p3).toInt64))), .second, .val (.int (1 : Int32)), .val (.int (f_offset ((((0 : Int32).toInt64) * ((own_per p1).toInt64)) + ((own_off p1 p3).toInt64)) (own_per p1) (1 : Int32)))] [(.int (f_offset ((((0 : Int32).toInt64) * ((own_per p1).toInt64)) + ((own_off p1 p3).toInt64)) (own_per p1) (1 : Int32)))])) _
    refine XS.iload X1.here hx rfl (hb hby at_121) rfl ?_
    show Steps p.tables e below (T1.setTop (mkF m 123 #[.val (.int p1), .val (.int p2), .val (.int p3), .val (.int p4), .val (.int (own_per p1)), .val (.int (1 : Int32)), .val (.int (0 : Int32)), .val (.int (own_off p1 p3)), .val (.long ((((0 : Int32).toInt64) * ((own_per p1).toInt64)) + ((own_off p1 p3).toInt64))), .second, .val (.int (1 : Int32)), .val (.int (f_offset ((((0 : Int32).toInt64) * ((own_per p1).toInt64)) + ((own_off p1 p3).toInt64)) (own_per p1) (1 : Int32)))] [(.int (own_per p1)), (.int (f_offset ((((0 : Int32).toInt64) * ((own_per p1).toInt64)) + ((own_off p1 p3).toInt64)) (own_per p1) (1 : Int32)))])) _
    refine XS.icmpNo X1.here hx rfl (hb hby at_123) rfl (tlt hc3).2.1 ?_
    show Steps p.tables e below (T1.setTop (mkF m 126 #[.val (.int p1), .val (.int p2), .val (.int p3), .val (.int p4), .val (.int (own_per p1)), .val (.int (1 : Int32)), .val (.int (0 : Int32)), .val (.int (own_off p1 p3)), .val (.long ((((0 : Int32).toInt64) * ((own_per p1).toInt64)) + ((own_off p1 p3).toInt64))), .second, .val (.int (1 : Int32)), .val (.int (f_offset ((((0 : Int32).toInt64) * ((own_per p1).toInt64)) + ((own_off p1 p3).toInt64)) (own_per p1) (1 : Int32)))] [])) _
    refine XS.iconst X1.here hx rfl (hb hby at_126) ?_
    show Steps p.tables e below (T1.setTop (mkF m 127 #[.val (.int p1), .val (.int p2), .val (.int p3), .val (.int p4), .val (.int (own_per p1)), .val (.int (1 : Int32)), .val (.int (0 : Int32)), .val (.int (own_off p1 p3)), .val (.long ((((0 : Int32).toInt64) * ((own_per p1).toInt64)) + ((own_off p1 p3).toInt64))), .second, .val (.int (1 : Int32)), .val (.int (f_offset ((((0 : Int32).toInt64) * ((own_per p1).toInt64)) + ((own_off p1 p3).toInt64)) (own_per p1) (1 : Int32)))] [(.int (1 : Int32))])) _
    refine XS.goto X1.here hx rfl (pc0 := 127) (pc' := 131) rfl (hb hby at_127) (by decide) (by decide) ?_
    show Steps p.tables e below (T1.setTop (mkF m 131 #[.val (.int p1), .val (.int p2), .val (.int p3), .val (.int p4), .val (.int (own_per p1)), .val (.int (1 : Int32)), .val (.int (0 : Int32)), .val (.int (own_off p1 p3)), .val (.long ((((0 : Int32).toInt64) * ((own_per p1).toInt64)) + ((own_off p1 p3).toInt64))), .second, .val (.int (1 : Int32)), .val (.int (f_offset ((((0 : Int32).toInt64) * ((own_per p1).toInt64)) + ((own_off p1 p3).toInt64)) (own_per p1) (1 : Int32)))] [(.int (1 : Int32))])) _
    exact retN X1 hx (t := .boolean) Bd.returns (by simp) (hb hby at_131) hr
  · show Q_law Z p1 p2 p3 p4 h0 n0 _ T1.heap _
    rw [e1]
    exact ⟨rfl, N2⟩
def Road_tfff (p1 : Int32) (p2 : Int32) (p3 : Int32) (p4 : Int32) : Prop := (¬ ((own_per p1) = (0 : Int32))) ∧ (¬ (((own_per p1).toInt64) = (0 : Int64))) ∧ ((p4 &&& (1 : Int32)) = (0 : Int32)) ∧ ((f_offset (((((p2 &&& (2147483647 : Int32)) % (2147483647 : Int32)).toInt64) * ((own_per p1).toInt64)) + ((own_off p1 p3).toInt64)) (own_per p1) ((f_min (2147483647 : Int64) (((((p2 &&& (2147483647 : Int32)) % (2147483647 : Int32)).toInt64) + (1 : Int64)) + ((((p4.toUInt32 >>> ((1 : Int32) &&& 31).toUInt32).toInt32) &&& (255 : Int32)).toInt64))).toInt32)) = (own_off p1 p3)) ∧ (¬ ((f_offset (((((p2 &&& (2147483647 : Int32)) % (2147483647 : Int32)).toInt64) * ((own_per p1).toInt64)) + ((own_off p1 p3).toInt64)) (own_per p1) ((f_min (2147483647 : Int64) (((((p2 &&& (2147483647 : Int32)) % (2147483647 : Int32)).toInt64) + (1 : Int64)) + ((((p4.toUInt32 >>> ((1 : Int32) &&& 31).toUInt32).toInt32) &&& (255 : Int32)).toInt64))).toInt32)) < (0 : Int32))) ∧ ((f_offset (((((p2 &&& (2147483647 : Int32)) % (2147483647 : Int32)).toInt64) * ((own_per p1).toInt64)) + ((own_off p1 p3).toInt64)) (own_per p1) ((f_min (2147483647 : Int64) (((((p2 &&& (2147483647 : Int32)) % (2147483647 : Int32)).toInt64) + (1 : Int64)) + ((((p4.toUInt32 >>> ((1 : Int32) &&& 31).toUInt32).toInt32) &&& (255 : Int32)).toInt64))).toInt32)) < (own_per p1))
set_option maxRecDepth 65536 in
set_option maxHeartbeats 40000000 in
theorem rm_law_tfff (l : Launch) (Z : State) (a0 : Array Value) (hw : ∀ d ∈ tables_1, d.before a0 Z = true) (ws : List Jvm.Cond) (p1 : Int32) (p2 : Int32) (p3 : Int32) (p4 : Int32) (h0 : Heap) (n0 : Nat) (Z0 : n0 ≤ h0.size) (hroad : Road_tfff p1 p2 p3 p4) :
    MetFree l x (head1 (Jvm.Cond.code x code maxLocals ret :: ws) room_1) (fun a U => a = #[(.int p1), (.int p2), (.int p3), (.int p4)] ∧ Z.Warmed39 U.vm ∧ U.heap = h0) (fun _ _ _ _ _ => True) (fun _ U o U' => ∃ v L, o = .returned v ∧ Q_law Z p1 p2 p3 p4 h0 n0 v U'.heap L ∧ FrameEnd U o U' L room_1.cells room_1.slots) := by
  obtain ⟨hnz0, hp1, hc0, hc1, hc2, hc3⟩ := hroad
  refine MetFree.of_bodySF (plainFor_of_name pn_com_example_libmaybe_libmaybe_PagesOffsetPinLaw) hisR ?_
  intro p e s m args below meth c s₁ Bd hml0 hP hK
  obtain ⟨rfl, hZ, hh⟩ := hP
  have hx := Bd.exec
  have hby := Bd.bytes
  have hml : c.maxLocals = 12 := hml0
  have hown : s.vm.findClass "com/example/libmaybe/libmaybe/PagesOffsetPinLaw" = some m.cls := findClass_of_methodNamed Bd.named
  have hnm := (name_of_methodNamed Bd.named Bd.method).1
  have X0 : Stand p l e room_1 s m #[(.int p1), (.int p2), (.int p3), (.int p4)] below meth c s₁ [] 0 0 := Stand.of_body Bd
  have e0 : s₁.heap = h0 := by rw [← hh, Bd.state]; rfl
  have N0 := Fr.nil n0
  have pre0 : ∀ t, Steps p.tables e below (s₁.setTop (mkF m 0 #[.val (.int p1), .val (.int p2), .val (.int p3), .val (.int p4), .unset, .unset, .unset, .unset, .unset, .unset, .unset, .unset] [])) t → Steps p.tables e below (s₁.setTop (entryFrame m #[(.int p1), (.int p2), (.int p3), (.int p4)] maxLocals)) t := fun t k => castTop (ef_0_IIII m p1 p2 p3 p4) k
  obtain ⟨_, _, ⟨T1, L1, k1, n1⟩, -, X1, ⟨Lc1, hQ1, l1, y1, z1⟩, st1⟩ := Jvm.LawKit.callS X0 hx (y := (⟨"java/lang/Math", "min", "(JJ)J"⟩ : MethodName)) hown (mvT hZ (hw _ (List.mem_of_getElem? (i := 6) rfl))) (mvT hZ (hw _ (List.mem_of_getElem? (i := 7) rfl))) (mvT hZ (hw _ (List.mem_of_getElem? (i := 8) rfl))) (mvT hZ (hw _ (List.mem_of_getElem? (i := 9) rfl))) (by decide) (backOf (W := 0) (rm_min l Z a0 hw [] (2147483647 : Int64) (((((p2 &&& (2147483647 : Int32)) % (2147483647 : Int32)).toInt64) + (1 : Int64)) + ((((p4.toUInt32 >>> ((1 : Int32) &&& 31).toUInt32).toInt32) &&& (255 : Int32)).toInt64)) h0 n0 Z0 ) hZ (hw _ (List.mem_of_getElem? (i := 9) rfl)) (hw _ (List.mem_of_getElem? (i := 8) rfl)) (by decide) (by decide)) (g := (mkF m 90 #[.val (.int p1), .val (.int p2), .val (.int p3), .val (.int p4), .val (.int (own_per p1)), .val (.int (0 : Int32)), .val (.int ((p2 &&& (2147483647 : Int32)) % (2147483647 : Int32))), .val (.int (own_off p1 p3)), .val (.long (((((p2 &&& (2147483647 : Int32)) % (2147483647 : Int32)).toInt64) * ((own_per p1).toInt64)) + ((own_off p1 p3).toInt64))), .second, .unset, .unset] [(.long (((((p2 &&& (2147483647 : Int32)) % (2147483647 : Int32)).toInt64) + (1 : Int64)) + ((((p4.toUInt32 >>> ((1 : Int32) &&& 31).toUInt32).toInt32) &&& (255 : Int32)).toInt64))), (.long (2147483647 : Int64))])) rfl (by rw [hml]; rfl) (argsL := [(.long (2147483647 : Int64)), (.long (((((p2 &&& (2147483647 : Int32)) % (2147483647 : Int32)).toInt64) + (1 : Int64)) + ((((p4.toUInt32 >>> ((1 : Int32) &&& 31).toUInt32).toInt32) &&& (255 : Int32)).toInt64)))]) (rest := []) (lenOf pd_1 rfl) rfl (by show 2 * 0 + _ ≤ _; exact Nat.le_of_eq rfl) (hb hby at_90) (fun _ _ => ⟨rfl, e0, (by decide : 0 + 0 ≤ _), (by decide : 0 + 0 ≤ _)⟩)
  dsimp only [Pt.U, Pt.locs, Pt.cells, Pt.slots] at X1 l1 y1 z1 st1 hQ1
  subst l1 y1 z1
  obtain ⟨rfl, Nq1, e1⟩ := hQ1
  have N2 := Fr.app N0 Nq1
  obtain ⟨_, _, ⟨T3, L3, k3, n3⟩, -, X3, ⟨Lc3, hQ3, l3, y3, z3⟩, st3⟩ := Jvm.LawKit.callS X1 hx (y := (⟨"com/example/libmaybe/libmaybe/Pages", "offset", "(JII)I"⟩ : MethodName)) hown (mvT hZ (hw _ (List.mem_of_getElem? (i := 1) rfl))) (mvT hZ (hw _ (List.mem_of_getElem? (i := 2) rfl))) (mvT hZ (hw _ (List.mem_of_getElem? (i := 3) rfl))) (mvT hZ (hw _ (List.mem_of_getElem? (i := 4) rfl))) (by decide) (backOf (W := 0) (rm_offset l Z a0 hw [] (((((p2 &&& (2147483647 : Int32)) % (2147483647 : Int32)).toInt64) * ((own_per p1).toInt64)) + ((own_off p1 p3).toInt64)) (own_per p1) ((f_min (2147483647 : Int64) (((((p2 &&& (2147483647 : Int32)) % (2147483647 : Int32)).toInt64) + (1 : Int64)) + ((((p4.toUInt32 >>> ((1 : Int32) &&& 31).toUInt32).toInt32) &&& (255 : Int32)).toInt64))).toInt32) h0 n0 Z0 hp1) hZ (hw _ (List.mem_of_getElem? (i := 4) rfl)) (hw _ (List.mem_of_getElem? (i := 3) rfl)) (by decide) (by decide)) (g := (mkF m 102 #[.val (.int p1), .val (.int p2), .val (.int p3), .val (.int p4), .val (.int (own_per p1)), .val (.int (0 : Int32)), .val (.int ((p2 &&& (2147483647 : Int32)) % (2147483647 : Int32))), .val (.int (own_off p1 p3)), .val (.long (((((p2 &&& (2147483647 : Int32)) % (2147483647 : Int32)).toInt64) * ((own_per p1).toInt64)) + ((own_off p1 p3).toInt64))), .second, .val (.int ((f_min (2147483647 : Int64) (((((p2 &&& (2147483647 : Int32)) % (2147483647 : Int32)).toInt64) + (1 : Int64)) + ((((p4.toUInt32 >>> ((1 : Int32) &&& 31).toUInt32).toInt32) &&& (255 : Int32)).toInt64))).toInt32)), .unset] [(.int ((f_min (2147483647 : Int64) (((((p2 &&& (2147483647 : Int32)) % (2147483647 : Int32)).toInt64) + (1 : Int64)) + ((((p4.toUInt32 >>> ((1 : Int32) &&& 31).toUInt32).toInt32) &&& (255 : Int32)).toInt64))).toInt32)), (.int (own_per p1)), (.long (((((p2 &&& (2147483647 : Int32)) % (2147483647 : Int32)).toInt64) * ((own_per p1).toInt64)) + ((own_off p1 p3).toInt64)))])) rfl (by rw [hml]; rfl) (argsL := [(.long (((((p2 &&& (2147483647 : Int32)) % (2147483647 : Int32)).toInt64) * ((own_per p1).toInt64)) + ((own_off p1 p3).toInt64))), (.int (own_per p1)), (.int ((f_min (2147483647 : Int64) (((((p2 &&& (2147483647 : Int32)) % (2147483647 : Int32)).toInt64) + (1 : Int64)) + ((((p4.toUInt32 >>> ((1 : Int32) &&& 31).toUInt32).toInt32) &&& (255 : Int32)).toInt64))).toInt32))]) (rest := []) (lenOf pd_0 rfl) rfl (by show 2 * 0 + _ ≤ _; exact Nat.le_of_eq rfl) (hb hby at_102) (fun _ _ => ⟨rfl, e1, (by decide : 0 + 0 ≤ _), (by decide : 0 + 0 ≤ _)⟩)
  dsimp only [Pt.U, Pt.locs, Pt.cells, Pt.slots] at X3 l3 y3 z3 st3 hQ3
  subst l3 y3 z3
  obtain ⟨rfl, Nq3, e3⟩ := hQ3
  have N4 := Fr.app N2 Nq3
  obtain ⟨fs, hr, hrun, hended, hW, hsame⟩ := X3.leave (v := some (.int (1 : Int32))) (fun h => by rw [Bd.returns] at h; cases h)
  refine ⟨_, _, pre0 _ ?_, hrun, hended, _, _, rfl, ?_, ⟨_, rfl⟩, hW, hsame.mono (by decide) (by decide)⟩
  · show Steps p.tables e below (s₁.setTop (mkF m 0 #[.val (.int p1), .val (.int p2), .val (.int p3), .val (.int p4), .unset, .unset, .unset, .unset, .unset, .unset, .unset, .unset] [])) _
    refine XS.iconst X0.here hx rfl (hb hby at_0) ?_
    show Steps p.tables e below (s₁.setTop (mkF m 1 #[.val (.int p1), .val (.int p2), .val (.int p3), .val (.int p4), .unset, .unset, .unset, .unset, .unset, .unset, .unset, .unset] [(.int (1 : Int32))])) _
    refine XS.iloadN X0.here hx rfl (hb hby at_1) rfl ?_
    show Steps p.tables e below (s₁.setTop (mkF m 2 #[.val (.int p1), .val (.int p2), .val (.int p3), .val (.int p4), .unset, .unset, .unset, .unset, .unset, .unset, .unset, .unset] [(.int p1), (.int (1 : Int32))])) _
    refine X0.ldcInt hx hown (mvT hZ (hw _ (List.mem_of_getElem? (i := 0) rfl))) (g := (mkF m 2 #[.val (.int p1), .val (.int p2), .val (.int p3), .val (.int p4), .unset, .unset, .unset, .unset, .unset, .unset, .unset, .unset] [(.int p1), (.int (1 : Int32))])) rfl (hb hby at_2) _ ?_
    show Steps p.tables e below (s₁.setTop (mkF m 4 #[.val (.int p1), .val (.int p2), .val (.int p3), .val (.int p4), .unset, .unset, .unset, .unset, .unset, .unset, .unset, .unset] [(.int (2147483647 : Int32)), (.int p1), (.int (1 : Int32))])) _
    refine XS.iand X0.here hx rfl (hb hby at_4) rfl ?_
    show Steps p.tables e below (s₁.setTop (mkF m 5 #[.val (.int p1), .val (.int p2), .val (.int p3), .val (.int p4), .unset, .unset, .unset, .unset, .unset, .unset, .unset, .unset] [(.int (p1 &&& (2147483647 : Int32))), (.int (1 : Int32))])) _
    refine X0.ldcInt hx hown (mvT hZ (hw _ (List.mem_of_getElem? (i := 0) rfl))) (g := (mkF m 5 #[.val (.int p1), .val (.int p2), .val (.int p3), .val (.int p4), .unset, .unset, .unset, .unset, .unset, .unset, .unset, .unset] [(.int (p1 &&& (2147483647 : Int32))), (.int (1 : Int32))])) rfl (hb hby at_5) _ ?_
    show Steps p.tables e below (s₁.setTop (mkF m 7 #[.val (.int p1), .val (.int p2), .val (.int p3), .val (.int p4), .unset, .unset, .unset, .unset, .unset, .unset, .unset, .unset] [(.int (2147483647 : Int32)), (.int (p1 &&& (2147483647 : Int32))), (.int (1 : Int32))])) _
    refine iremM X0 hx rfl (hb hby at_7) rfl (by decide) ?_
    show Steps p.tables e below (s₁.setTop (mkF m 8 #[.val (.int p1), .val (.int p2), .val (.int p3), .val (.int p4), .unset, .unset, .unset, .unset, .unset, .unset, .unset, .unset] [(.int ((p1 &&& (2147483647 : Int32)) % (2147483647 : Int32))), (.int (1 : Int32))])) _
    refine XS.iadd X0.here hx rfl (hb hby at_8) rfl ?_
    show Steps p.tables e below (s₁.setTop (mkF m 9 #[.val (.int p1), .val (.int p2), .val (.int p3), .val (.int p4), .unset, .unset, .unset, .unset, .unset, .unset, .unset, .unset] [(.int ((1 : Int32) + ((p1 &&& (2147483647 : Int32)) % (2147483647 : Int32))))])) _
    refine XS.istore X0.here hx rfl (hb hby at_9) rfl (l' := #[.val (.int p1), .val (.int p2), .val (.int p3), .val (.int p4), .val (.int (own_per p1)), .unset, .unset, .unset, .unset, .unset, .unset, .unset]) rfl ?_
    show Steps p.tables e below (s₁.setTop (mkF m 11 #[.val (.int p1), .val (.int p2), .val (.int p3), .val (.int p4), .val (.int (own_per p1)), .unset, .unset, .unset, .unset, .unset, .unset, .unset] [])) _
    refine XS.iloadN X0.here hx rfl (hb hby at_11) rfl ?_
    show Steps p.tables e below (s₁.setTop (mkF m 12 #[.val (.int p1), .val (.int p2), .val (.int p3), .val (.int p4), .val (.int (own_per p1)), .unset, .unset, .unset, .unset, .unset, .unset, .unset] [(.int p4)])) _
    refine XS.iconst X0.here hx rfl (hb hby at_12) ?_
    show Steps p.tables e below (s₁.setTop (mkF m 13 #[.val (.int p1), .val (.int p2), .val (.int p3), .val (.int p4), .val (.int (own_per p1)), .unset, .unset, .unset, .unset, .unset, .unset, .unset] [(.int (1 : Int32)), (.int p4)])) _
    refine XS.iand X0.here hx rfl (hb hby at_13) rfl ?_
    show Steps p.tables e below (s₁.setTop (mkF m 14 #[.val (.int p1), .val (.int p2), .val (.int p3), .val (.int p4), .val (.int (own_per p1)), .unset, .unset, .unset, .unset, .unset, .unset, .unset] [(.int (p4 &&& (1 : Int32)))])) _
    refine XS.ifYes X0.here hx rfl (pc0 := 14) (pc' := 21) rfl (hb hby at_14) rfl ((if0 _ _).trans (teq hc0).1) (by decide) (by decide) ?_
    show Steps p.tables e below (s₁.setTop (mkF m 21 #[.val (.int p1), .val (.int p2), .val (.int p3), .val (.int p4), .val (.int (own_per p1)), .unset, .unset, .unset, .unset, .unset, .unset, .unset] [])) _
    refine XS.iconst X0.here hx rfl (hb hby at_21) ?_
    show Steps p.tables e below (s₁.setTop (mkF m 22 #[.val (.int p1), .val (.int p2), .val (.int p3), .val (.int p4), .val (.int (own_per p1)), .unset, .unset, .unset, .unset, .unset, .unset, .unset] [(.int (0 : Int32))])) _
    refine XS.istore X0.here hx rfl (hb hby at_22) rfl (l' := #[.val (.int p1), .val (.int p2), .val (.int p3), .val (.int p4), .val (.int (own_per p1)), .val (.int (0 : Int32)), .unset, .unset, .unset, .unset, .unset, .unset]) rfl ?_
    show Steps p.tables e below (s₁.setTop (mkF m 24 #[.val (.int p1), .val (.int p2), .val (.int p3), .val (.int p4), .val (.int (own_per p1)), .val (.int (0 : Int32)), .unset, .unset, .unset, .unset, .unset, .unset] [])) _
    refine XS.iload X0.here hx rfl (hb hby at_24) rfl ?_
    show Steps p.tables e below (s₁.setTop (mkF m 26 #[.val (.int p1), .val (.int p2), .val (.int p3), .val (.int p4), .val (.int (own_per p1)), .val (.int (0 : Int32)), .unset, .unset, .unset, .unset, .unset, .unset] [(.int (0 : Int32))])) _
    refine XS.ifYes X0.here hx rfl (pc0 := 26) (pc' := 33) rfl (hb hby at_26) rfl ((if0 _ _).trans (teq (by decide : (0 : Int32) = (0 : Int32))).1) (by decide) (by decide) ?_
    show Steps p.tables e below (s₁.setTop (mkF m 33 #[.val (.int p1), .val (.int p2), .val (.int p3), .val (.int p4), .val (.int (own_per p1)), .val (.int (0 : Int32)), .unset, .unset, .unset, .unset, .unset, .unset] [])) _
    refine XS.iloadN X0.here hx rfl (hb hby at_33) rfl ?_
    show Steps p.tables e below (s₁.setTop (mkF m 34 #[.val (.int p1), .val (.int p2), .val (.int p3), .val (.int p4), .val (.int (own_per p1)), .val (.int (0 : Int32)), .unset, .unset, .unset, .unset, .unset, .unset] [(.int p2)])) _
    refine X0.ldcInt hx hown (mvT hZ (hw _ (List.mem_of_getElem? (i := 0) rfl))) (g := (mkF m 34 #[.val (.int p1), .val (.int p2), .val (.int p3), .val (.int p4), .val (.int (own_per p1)), .val (.int (0 : Int32)), .unset, .unset, .unset, .unset, .unset, .unset] [(.int p2)])) rfl (hb hby at_34) _ ?_
    show Steps p.tables e below (s₁.setTop (mkF m 36 #[.val (.int p1), .val (.int p2), .val (.int p3), .val (.int p4), .val (.int (own_per p1)), .val (.int (0 : Int32)), .unset, .unset, .unset, .unset, .unset, .unset] [(.int (2147483647 : Int32)), (.int p2)])) _
    refine XS.iand X0.here hx rfl (hb hby at_36) rfl ?_
    show Steps p.tables e below (s₁.setTop (mkF m 37 #[.val (.int p1), .val (.int p2), .val (.int p3), .val (.int p4), .val (.int (own_per p1)), .val (.int (0 : Int32)), .unset, .unset, .unset, .unset, .unset, .unset] [(.int (p2 &&& (2147483647 : Int32)))])) _
    refine X0.ldcInt hx hown (mvT hZ (hw _ (List.mem_of_getElem? (i := 0) rfl))) (g := (mkF m 37 #[.val (.int p1), .val (.int p2), .val (.int p3), .val (.int p4), .val (.int (own_per p1)), .val (.int (0 : Int32)), .unset, .unset, .unset, .unset, .unset, .unset] [(.int (p2 &&& (2147483647 : Int32)))])) rfl (hb hby at_37) _ ?_
    show Steps p.tables e below (s₁.setTop (mkF m 39 #[.val (.int p1), .val (.int p2), .val (.int p3), .val (.int p4), .val (.int (own_per p1)), .val (.int (0 : Int32)), .unset, .unset, .unset, .unset, .unset, .unset] [(.int (2147483647 : Int32)), (.int (p2 &&& (2147483647 : Int32)))])) _
    refine iremM X0 hx rfl (hb hby at_39) rfl (by decide) ?_
    show Steps p.tables e below (s₁.setTop (mkF m 40 #[.val (.int p1), .val (.int p2), .val (.int p3), .val (.int p4), .val (.int (own_per p1)), .val (.int (0 : Int32)), .unset, .unset, .unset, .unset, .unset, .unset] [(.int ((p2 &&& (2147483647 : Int32)) % (2147483647 : Int32)))])) _
    refine XS.istore X0.here hx rfl (hb hby at_40) rfl (l' := #[.val (.int p1), .val (.int p2), .val (.int p3), .val (.int p4), .val (.int (own_per p1)), .val (.int (0 : Int32)), .val (.int ((p2 &&& (2147483647 : Int32)) % (2147483647 : Int32))), .unset, .unset, .unset, .unset, .unset]) rfl ?_
    show Steps p.tables e below (s₁.setTop (mkF m 42 #[.val (.int p1), .val (.int p2), .val (.int p3), .val (.int p4), .val (.int (own_per p1)), .val (.int (0 : Int32)), .val (.int ((p2 &&& (2147483647 : Int32)) % (2147483647 : Int32))), .unset, .unset, .unset, .unset, .unset] [])) _
    refine XS.iloadN X0.here hx rfl (hb hby at_42) rfl ?_
    show Steps p.tables e below (s₁.setTop (mkF m 43 #[.val (.int p1), .val (.int p2), .val (.int p3), .val (.int p4), .val (.int (own_per p1)), .val (.int (0 : Int32)), .val (.int ((p2 &&& (2147483647 : Int32)) % (2147483647 : Int32))), .unset, .unset, .unset, .unset, .unset] [(.int p3)])) _
    refine X0.ldcInt hx hown (mvT hZ (hw _ (List.mem_of_getElem? (i := 0) rfl))) (g := (mkF m 43 #[.val (.int p1), .val (.int p2), .val (.int p3), .val (.int p4), .val (.int (own_per p1)), .val (.int (0 : Int32)), .val (.int ((p2 &&& (2147483647 : Int32)) % (2147483647 : Int32))), .unset, .unset, .unset, .unset, .unset] [(.int p3)])) rfl (hb hby at_43) _ ?_
    show Steps p.tables e below (s₁.setTop (mkF m 45 #[.val (.int p1), .val (.int p2), .val (.int p3), .val (.int p4), .val (.int (own_per p1)), .val (.int (0 : Int32)), .val (.int ((p2 &&& (2147483647 : Int32)) % (2147483647 : Int32))), .unset, .unset, .unset, .unset, .unset] [(.int (2147483647 : Int32)), (.int p3)])) _
    refine XS.iand X0.here hx rfl (hb hby at_45) rfl ?_
    show Steps p.tables e below (s₁.setTop (mkF m 46 #[.val (.int p1), .val (.int p2), .val (.int p3), .val (.int p4), .val (.int (own_per p1)), .val (.int (0 : Int32)), .val (.int ((p2 &&& (2147483647 : Int32)) % (2147483647 : Int32))), .unset, .unset, .unset, .unset, .unset] [(.int (p3 &&& (2147483647 : Int32)))])) _
    refine XS.iload X0.here hx rfl (hb hby at_46) rfl ?_
    show Steps p.tables e below (s₁.setTop (mkF m 48 #[.val (.int p1), .val (.int p2), .val (.int p3), .val (.int p4), .val (.int (own_per p1)), .val (.int (0 : Int32)), .val (.int ((p2 &&& (2147483647 : Int32)) % (2147483647 : Int32))), .unset, .unset, .unset, .unset, .unset] [(.int (own_per p1)), (.int (p3 &&& (2147483647 : Int32)))])) _
    refine iremM X0 hx rfl (hb hby at_48) rfl hnz0 ?_
    show Steps p.tables e below (s₁.setTop (mkF m 49 #[.val (.int p1), .val (.int p2), .val (.int p3), .val (.int p4), .val (.int (own_per p1)), .val (.int (0 : Int32)), .val (.int ((p2 &&& (2147483647 : Int32)) % (2147483647 : Int32))), .unset, .unset, .unset, .unset, .unset] [(.int ((p3 &&& (2147483647 : Int32)) % (own_per p1)))])) _
    refine XS.istore X0.here hx rfl (hb hby at_49) rfl (l' := #[.val (.int p1), .val (.int p2), .val (.int p3), .val (.int p4), .val (.int (own_per p1)), .val (.int (0 : Int32)), .val (.int ((p2 &&& (2147483647 : Int32)) % (2147483647 : Int32))), .val (.int (own_off p1 p3)), .unset, .unset, .unset, .unset]) rfl ?_
    show Steps p.tables e below (s₁.setTop (mkF m 51 #[.val (.int p1), .val (.int p2), .val (.int p3), .val (.int p4), .val (.int (own_per p1)), .val (.int (0 : Int32)), .val (.int ((p2 &&& (2147483647 : Int32)) % (2147483647 : Int32))), .val (.int (own_off p1 p3)), .unset, .unset, .unset, .unset] [])) _
    refine XS.iload X0.here hx rfl (hb hby at_51) rfl ?_
    show Steps p.tables e below (s₁.setTop (mkF m 53 #[.val (.int p1), .val (.int p2), .val (.int p3), .val (.int p4), .val (.int (own_per p1)), .val (.int (0 : Int32)), .val (.int ((p2 &&& (2147483647 : Int32)) % (2147483647 : Int32))), .val (.int (own_off p1 p3)), .unset, .unset, .unset, .unset] [(.int ((p2 &&& (2147483647 : Int32)) % (2147483647 : Int32)))])) _
    refine XS.i2l X0.here hx rfl (hb hby at_53) rfl ?_
    show Steps p.tables e below (s₁.setTop (mkF m 54 #[.val (.int p1), .val (.int p2), .val (.int p3), .val (.int p4), .val (.int (own_per p1)), .val (.int (0 : Int32)), .val (.int ((p2 &&& (2147483647 : Int32)) % (2147483647 : Int32))), .val (.int (own_off p1 p3)), .unset, .unset, .unset, .unset] [(.long (((p2 &&& (2147483647 : Int32)) % (2147483647 : Int32)).toInt64))])) _
    refine XS.iload X0.here hx rfl (hb hby at_54) rfl ?_
    show Steps p.tables e below (s₁.setTop (mkF m 56 #[.val (.int p1), .val (.int p2), .val (.int p3), .val (.int p4), .val (.int (own_per p1)), .val (.int (0 : Int32)), .val (.int ((p2 &&& (2147483647 : Int32)) % (2147483647 : Int32))), .val (.int (own_off p1 p3)), .unset, .unset, .unset, .unset] [(.int (own_per p1)), (.long (((p2 &&& (2147483647 : Int32)) % (2147483647 : Int32)).toInt64))])) _
    refine XS.i2l X0.here hx rfl (hb hby at_56) rfl ?_
    show Steps p.tables e below (s₁.setTop (mkF m 57 #[.val (.int p1), .val (.int p2), .val (.int p3), .val (.int p4), .val (.int (own_per p1)), .val (.int (0 : Int32)), .val (.int ((p2 &&& (2147483647 : Int32)) % (2147483647 : Int32))), .val (.int (own_off p1 p3)), .unset, .unset, .unset, .unset] [(.long ((own_per p1).toInt64)), (.long (((p2 &&& (2147483647 : Int32)) % (2147483647 : Int32)).toInt64))])) _
    refine XS.lmul X0.here hx rfl (hb hby at_57) rfl ?_
    show Steps p.tables e below (s₁.setTop (mkF m 58 #[.val (.int p1), .val (.int p2), .val (.int p3), .val (.int p4), .val (.int (own_per p1)), .val (.int (0 : Int32)), .val (.int ((p2 &&& (2147483647 : Int32)) % (2147483647 : Int32))), .val (.int (own_off p1 p3)), .unset, .unset, .unset, .unset] [(.long ((((p2 &&& (2147483647 : Int32)) % (2147483647 : Int32)).toInt64) * ((own_per p1).toInt64)))])) _
    refine XS.iload X0.here hx rfl (hb hby at_58) rfl ?_
    show Steps p.tables e below (s₁.setTop (mkF m 60 #[.val (.int p1), .val (.int p2), .val (.int p3), .val (.int p4), .val (.int (own_per p1)), .val (.int (0 : Int32)), .val (.int ((p2 &&& (2147483647 : Int32)) % (2147483647 : Int32))), .val (.int (own_off p1 p3)), .unset, .unset, .unset, .unset] [(.int (own_off p1 p3)), (.long ((((p2 &&& (2147483647 : Int32)) % (2147483647 : Int32)).toInt64) * ((own_per p1).toInt64)))])) _
    refine XS.i2l X0.here hx rfl (hb hby at_60) rfl ?_
    show Steps p.tables e below (s₁.setTop (mkF m 61 #[.val (.int p1), .val (.int p2), .val (.int p3), .val (.int p4), .val (.int (own_per p1)), .val (.int (0 : Int32)), .val (.int ((p2 &&& (2147483647 : Int32)) % (2147483647 : Int32))), .val (.int (own_off p1 p3)), .unset, .unset, .unset, .unset] [(.long ((own_off p1 p3).toInt64)), (.long ((((p2 &&& (2147483647 : Int32)) % (2147483647 : Int32)).toInt64) * ((own_per p1).toInt64)))])) _
    refine XS.ladd X0.here hx rfl (hb hby at_61) rfl ?_
    show Steps p.tables e below (s₁.setTop (mkF m 62 #[.val (.int p1), .val (.int p2), .val (.int p3), .val (.int p4), .val (.int (own_per p1)), .val (.int (0 : Int32)), .val (.int ((p2 &&& (2147483647 : Int32)) % (2147483647 : Int32))), .val (.int (own_off p1 p3)), .unset, .unset, .unset, .unset] [(.long (((((p2 &&& (2147483647 : Int32)) % (2147483647 : Int32)).toInt64) * ((own_per p1).toInt64)) + ((own_off p1 p3).toInt64)))])) _
    refine XS.lstore X0.here hx rfl (hb hby at_62) rfl (l' := #[.val (.int p1), .val (.int p2), .val (.int p3), .val (.int p4), .val (.int (own_per p1)), .val (.int (0 : Int32)), .val (.int ((p2 &&& (2147483647 : Int32)) % (2147483647 : Int32))), .val (.int (own_off p1 p3)), .val (.long (((((p2 &&& (2147483647 : Int32)) % (2147483647 : Int32)).toInt64) * ((own_per p1).toInt64)) + ((own_off p1 p3).toInt64))), .second, .unset, .unset]) rfl ?_
    show Steps p.tables e below (s₁.setTop (mkF m 64 #[.val (.int p1), .val (.int p2), .val (.int p3), .val (.int p4), .val (.int (own_per p1)), .val (.int (0 : Int32)), .val (.int ((p2 &&& (2147483647 : Int32)) % (2147483647 : Int32))), .val (.int (own_off p1 p3)), .val (.long (((((p2 &&& (2147483647 : Int32)) % (2147483647 : Int32)).toInt64) * ((own_per p1).toInt64)) + ((own_off p1 p3).toInt64))), .second, .unset, .unset] [])) _
    refine XS.iload X0.here hx rfl (hb hby at_64) rfl ?_
    show Steps p.tables e below (s₁.setTop (mkF m 66 #[.val (.int p1), .val (.int p2), .val (.int p3), .val (.int p4), .val (.int (own_per p1)), .val (.int (0 : Int32)), .val (.int ((p2 &&& (2147483647 : Int32)) % (2147483647 : Int32))), .val (.int (own_off p1 p3)), .val (.long (((((p2 &&& (2147483647 : Int32)) % (2147483647 : Int32)).toInt64) * ((own_per p1).toInt64)) + ((own_off p1 p3).toInt64))), .second, .unset, .unset] [(.int (0 : Int32))])) _
    refine XS.ifYes X0.here hx rfl (pc0 := 66) (pc' := 73) rfl (hb hby at_66) rfl ((if0 _ _).trans (teq (by decide : (0 : Int32) = (0 : Int32))).1) (by decide) (by decide) ?_
    show Steps p.tables e below (s₁.setTop (mkF m 73 #[.val (.int p1), .val (.int p2), .val (.int p3), .val (.int p4), .val (.int (own_per p1)), .val (.int (0 : Int32)), .val (.int ((p2 &&& (2147483647 : Int32)) % (2147483647 : Int32))), .val (.int (own_off p1 p3)), .val (.long (((((p2 &&& (2147483647 : Int32)) % (2147483647 : Int32)).toInt64) * ((own_per p1).toInt64)) + ((own_off p1 p3).toInt64))), .second, .unset, .unset] [])) _
    refine X0.ldc2Long hx hown (mvT hZ (hw _ (List.mem_of_getElem? (i := 5) rfl))) (g := (mkF m 73 #[.val (.int p1), .val (.int p2), .val (.int p3), .val (.int p4), .val (.int (own_per p1)), .val (.int (0 : Int32)), .val (.int ((p2 &&& (2147483647 : Int32)) % (2147483647 : Int32))), .val (.int (own_off p1 p3)), .val (.long (((((p2 &&& (2147483647 : Int32)) % (2147483647 : Int32)).toInt64) * ((own_per p1).toInt64)) + ((own_off p1 p3).toInt64))), .second, .unset, .unset] [])) rfl (hb hby at_73) _ ?_
    show Steps p.tables e below (s₁.setTop (mkF m 76 #[.val (.int p1), .val (.int p2), .val (.int p3), .val (.int p4), .val (.int (own_per p1)), .val (.int (0 : Int32)), .val (.int ((p2 &&& (2147483647 : Int32)) % (2147483647 : Int32))), .val (.int (own_off p1 p3)), .val (.long (((((p2 &&& (2147483647 : Int32)) % (2147483647 : Int32)).toInt64) * ((own_per p1).toInt64)) + ((own_off p1 p3).toInt64))), .second, .unset, .unset] [(.long (2147483647 : Int64))])) _
    refine XS.iload X0.here hx rfl (hb hby at_76) rfl ?_
    show Steps p.tables e below (s₁.setTop (mkF m 78 #[.val (.int p1), .val (.int p2), .val (.int p3), .val (.int p4), .val (.int (own_per p1)), .val (.int (0 : Int32)), .val (.int ((p2 &&& (2147483647 : Int32)) % (2147483647 : Int32))), .val (.int (own_off p1 p3)), .val (.long (((((p2 &&& (2147483647 : Int32)) % (2147483647 : Int32)).toInt64) * ((own_per p1).toInt64)) + ((own_off p1 p3).toInt64))), .second, .unset, .unset] [(.int ((p2 &&& (2147483647 : Int32)) % (2147483647 : Int32))), (.long (2147483647 : Int64))])) _
    refine XS.i2l X0.here hx rfl (hb hby at_78) rfl ?_
    show Steps p.tables e below (s₁.setTop (mkF m 79 #[.val (.int p1), .val (.int p2), .val (.int p3), .val (.int p4), .val (.int (own_per p1)), .val (.int (0 : Int32)), .val (.int ((p2 &&& (2147483647 : Int32)) % (2147483647 : Int32))), .val (.int (own_off p1 p3)), .val (.long (((((p2 &&& (2147483647 : Int32)) % (2147483647 : Int32)).toInt64) * ((own_per p1).toInt64)) + ((own_off p1 p3).toInt64))), .second, .unset, .unset] [(.long (((p2 &&& (2147483647 : Int32)) % (2147483647 : Int32)).toInt64)), (.long (2147483647 : Int64))])) _
    refine XS.lconst X0.here hx rfl (hb hby at_79) ?_
    show Steps p.tables e below (s₁.setTop (mkF m 80 #[.val (.int p1), .val (.int p2), .val (.int p3), .val (.int p4), .val (.int (own_per p1)), .val (.int (0 : Int32)), .val (.int ((p2 &&& (2147483647 : Int32)) % (2147483647 : Int32))), .val (.int (own_off p1 p3)), .val (.long (((((p2 &&& (2147483647 : Int32)) % (2147483647 : Int32)).toInt64) * ((own_per p1).toInt64)) + ((own_off p1 p3).toInt64))), .second, .unset, .unset] [(.long (1 : Int64)), (.long (((p2 &&& (2147483647 : Int32)) % (2147483647 : Int32)).toInt64)), (.long (2147483647 : Int64))])) _
    refine XS.ladd X0.here hx rfl (hb hby at_80) rfl ?_
    show Steps p.tables e below (s₁.setTop (mkF m 81 #[.val (.int p1), .val (.int p2), .val (.int p3), .val (.int p4), .val (.int (own_per p1)), .val (.int (0 : Int32)), .val (.int ((p2 &&& (2147483647 : Int32)) % (2147483647 : Int32))), .val (.int (own_off p1 p3)), .val (.long (((((p2 &&& (2147483647 : Int32)) % (2147483647 : Int32)).toInt64) * ((own_per p1).toInt64)) + ((own_off p1 p3).toInt64))), .second, .unset, .unset] [(.long ((((p2 &&& (2147483647 : Int32)) % (2147483647 : Int32)).toInt64) + (1 : Int64))), (.long (2147483647 : Int64))])) _
    refine XS.iloadN X0.here hx rfl (hb hby at_81) rfl ?_
    show Steps p.tables e below (s₁.setTop (mkF m 82 #[.val (.int p1), .val (.int p2), .val (.int p3), .val (.int p4), .val (.int (own_per p1)), .val (.int (0 : Int32)), .val (.int ((p2 &&& (2147483647 : Int32)) % (2147483647 : Int32))), .val (.int (own_off p1 p3)), .val (.long (((((p2 &&& (2147483647 : Int32)) % (2147483647 : Int32)).toInt64) * ((own_per p1).toInt64)) + ((own_off p1 p3).toInt64))), .second, .unset, .unset] [(.int p4), (.long ((((p2 &&& (2147483647 : Int32)) % (2147483647 : Int32)).toInt64) + (1 : Int64))), (.long (2147483647 : Int64))])) _
    refine XS.iconst X0.here hx rfl (hb hby at_82) ?_
    show Steps p.tables e below (s₁.setTop (mkF m 83 #[.val (.int p1), .val (.int p2), .val (.int p3), .val (.int p4), .val (.int (own_per p1)), .val (.int (0 : Int32)), .val (.int ((p2 &&& (2147483647 : Int32)) % (2147483647 : Int32))), .val (.int (own_off p1 p3)), .val (.long (((((p2 &&& (2147483647 : Int32)) % (2147483647 : Int32)).toInt64) * ((own_per p1).toInt64)) + ((own_off p1 p3).toInt64))), .second, .unset, .unset] [(.int (1 : Int32)), (.int p4), (.long ((((p2 &&& (2147483647 : Int32)) % (2147483647 : Int32)).toInt64) + (1 : Int64))), (.long (2147483647 : Int64))])) _
    refine XS.iushr X0.here hx rfl (hb hby at_83) rfl ?_
    show Steps p.tables e below (s₁.setTop (mkF m 84 #[.val (.int p1), .val (.int p2), .val (.int p3), .val (.int p4), .val (.int (own_per p1)), .val (.int (0 : Int32)), .val (.int ((p2 &&& (2147483647 : Int32)) % (2147483647 : Int32))), .val (.int (own_off p1 p3)), .val (.long (((((p2 &&& (2147483647 : Int32)) % (2147483647 : Int32)).toInt64) * ((own_per p1).toInt64)) + ((own_off p1 p3).toInt64))), .second, .unset, .unset] [(.int ((p4.toUInt32 >>> ((1 : Int32) &&& 31).toUInt32).toInt32)), (.long ((((p2 &&& (2147483647 : Int32)) % (2147483647 : Int32)).toInt64) + (1 : Int64))), (.long (2147483647 : Int64))])) _
    refine XS.sipush X0.here hx rfl (hb hby at_84) ?_
    show Steps p.tables e below (s₁.setTop (mkF m 87 #[.val (.int p1), .val (.int p2), .val (.int p3), .val (.int p4), .val (.int (own_per p1)), .val (.int (0 : Int32)), .val (.int ((p2 &&& (2147483647 : Int32)) % (2147483647 : Int32))), .val (.int (own_off p1 p3)), .val (.long (((((p2 &&& (2147483647 : Int32)) % (2147483647 : Int32)).toInt64) * ((own_per p1).toInt64)) + ((own_off p1 p3).toInt64))), .second, .unset, .unset] [(.int (255 : Int32)), (.int ((p4.toUInt32 >>> ((1 : Int32) &&& 31).toUInt32).toInt32)), (.long ((((p2 &&& (2147483647 : Int32)) % (2147483647 : Int32)).toInt64) + (1 : Int64))), (.long (2147483647 : Int64))])) _
    refine XS.iand X0.here hx rfl (hb hby at_87) rfl ?_
    show Steps p.tables e below (s₁.setTop (mkF m 88 #[.val (.int p1), .val (.int p2), .val (.int p3), .val (.int p4), .val (.int (own_per p1)), .val (.int (0 : Int32)), .val (.int ((p2 &&& (2147483647 : Int32)) % (2147483647 : Int32))), .val (.int (own_off p1 p3)), .val (.long (((((p2 &&& (2147483647 : Int32)) % (2147483647 : Int32)).toInt64) * ((own_per p1).toInt64)) + ((own_off p1 p3).toInt64))), .second, .unset, .unset] [(.int (((p4.toUInt32 >>> ((1 : Int32) &&& 31).toUInt32).toInt32) &&& (255 : Int32))), (.long ((((p2 &&& (2147483647 : Int32)) % (2147483647 : Int32)).toInt64) + (1 : Int64))), (.long (2147483647 : Int64))])) _
    refine XS.i2l X0.here hx rfl (hb hby at_88) rfl ?_
    show Steps p.tables e below (s₁.setTop (mkF m 89 #[.val (.int p1), .val (.int p2), .val (.int p3), .val (.int p4), .val (.int (own_per p1)), .val (.int (0 : Int32)), .val (.int ((p2 &&& (2147483647 : Int32)) % (2147483647 : Int32))), .val (.int (own_off p1 p3)), .val (.long (((((p2 &&& (2147483647 : Int32)) % (2147483647 : Int32)).toInt64) * ((own_per p1).toInt64)) + ((own_off p1 p3).toInt64))), .second, .unset, .unset] [(.long ((((p4.toUInt32 >>> ((1 : Int32) &&& 31).toUInt32).toInt32) &&& (255 : Int32)).toInt64)), (.long ((((p2 &&& (2147483647 : Int32)) % (2147483647 : Int32)).toInt64) + (1 : Int64))), (.long (2147483647 : Int64))])) _
    refine XS.ladd X0.here hx rfl (hb hby at_89) rfl ?_
    show Steps p.tables e below (s₁.setTop (mkF m 90 #[.val (.int p1), .val (.int p2), .val (.int p3), .val (.int p4), .val (.int (own_per p1)), .val (.int (0 : Int32)), .val (.int ((p2 &&& (2147483647 : Int32)) % (2147483647 : Int32))), .val (.int (own_off p1 p3)), .val (.long (((((p2 &&& (2147483647 : Int32)) % (2147483647 : Int32)).toInt64) * ((own_per p1).toInt64)) + ((own_off p1 p3).toInt64))), .second, .unset, .unset] [(.long (((((p2 &&& (2147483647 : Int32)) % (2147483647 : Int32)).toInt64) + (1 : Int64)) + ((((p4.toUInt32 >>> ((1 : Int32) &&& 31).toUInt32).toInt32) &&& (255 : Int32)).toInt64))), (.long (2147483647 : Int64))])) _
    refine st1 _ ?_
    show Steps p.tables e below (T1.setTop (mkF m 93 #[.val (.int p1), .val (.int p2), .val (.int p3), .val (.int p4), .val (.int (own_per p1)), .val (.int (0 : Int32)), .val (.int ((p2 &&& (2147483647 : Int32)) % (2147483647 : Int32))), .val (.int (own_off p1 p3)), .val (.long (((((p2 &&& (2147483647 : Int32)) % (2147483647 : Int32)).toInt64) * ((own_per p1).toInt64)) + ((own_off p1 p3).toInt64))), .second, .unset, .unset] [(.long (f_min (2147483647 : Int64) (((((p2 &&& (2147483647 : Int32)) % (2147483647 : Int32)).toInt64) + (1 : Int64)) + ((((p4.toUInt32 >>> ((1 : Int32) &&& 31).toUInt32).toInt32) &&& (255 : Int32)).toInt64))))])) _
    refine XS.l2i X1.here hx rfl (hb hby at_93) rfl ?_
    show Steps p.tables e below (T1.setTop (mkF m 94 #[.val (.int p1), .val (.int p2), .val (.int p3), .val (.int p4), .val (.int (own_per p1)), .val (.int (0 : Int32)), .val (.int ((p2 &&& (2147483647 : Int32)) % (2147483647 : Int32))), .val (.int (own_off p1 p3)), .val (.long (((((p2 &&& (2147483647 : Int32)) % (2147483647 : Int32)).toInt64) * ((own_per p1).toInt64)) + ((own_off p1 p3).toInt64))), .second, .unset, .unset] [(.int ((f_min (2147483647 : Int64) (((((p2 &&& (2147483647 : Int32)) % (2147483647 : Int32)).toInt64) + (1 : Int64)) + ((((p4.toUInt32 >>> ((1 : Int32) &&& 31).toUInt32).toInt32) &&& (255 : Int32)).toInt64))).toInt32))])) _
    refine XS.istore X1.here hx rfl (hb hby at_94) rfl (l' := #[.val (.int p1), .val (.int p2), .val (.int p3), .val (.int p4), .val (.int (own_per p1)), .val (.int (0 : Int32)), .val (.int ((p2 &&& (2147483647 : Int32)) % (2147483647 : Int32))), .val (.int (own_off p1 p3)), .val (.long (((((p2 &&& (2147483647 : Int32)) % (2147483647 : Int32)).toInt64) * ((own_per p1).toInt64)) + ((own_off p1 p3).toInt64))), .second, .val (.int ((f_min (2147483647 : Int64) (((((p2 &&& (2147483647 : Int32)) % (2147483647 : Int32)).toInt64) + (1 : Int64)) + ((((p4.toUInt32 >>> ((1 : Int32) &&& 31).toUInt32).toInt32) &&& (255 : Int32)).toInt64))).toInt32)), .unset]) rfl ?_
    show Steps p.tables e below (T1.setTop (mkF m 96 #[.val (.int p1), .val (.int p2), .val (.int p3), .val (.int p4), .val (.int (own_per p1)), .val (.int (0 : Int32)), .val (.int ((p2 &&& (2147483647 : Int32)) % (2147483647 : Int32))), .val (.int (own_off p1 p3)), .val (.long (((((p2 &&& (2147483647 : Int32)) % (2147483647 : Int32)).toInt64) * ((own_per p1).toInt64)) + ((own_off p1 p3).toInt64))), .second, .val (.int ((f_min (2147483647 : Int64) (((((p2 &&& (2147483647 : Int32)) % (2147483647 : Int32)).toInt64) + (1 : Int64)) + ((((p4.toUInt32 >>> ((1 : Int32) &&& 31).toUInt32).toInt32) &&& (255 : Int32)).toInt64))).toInt32)), .unset] [])) _
    refine XS.lload X1.here hx rfl (hb hby at_96) rfl ?_
    show Steps p.tables e below (T1.setTop (mkF m 98 #[.val (.int p1), .val (.int p2), .val (.int p3), .val (.int p4), .val (.int (own_per p1)), .val (.int (0 : Int32)), .val (.int ((p2 &&& (2147483647 : Int32)) % (2147483647 : Int32))), .val (.int (own_off p1 p3)), .val (.long (((((p2 &&& (2147483647 : Int32)) % (2147483647 : Int32)).toInt64) * ((own_per p1).toInt64)) + ((own_off p1 p3).toInt64))), .second, .val (.int ((f_min (2147483647 : Int64) (((((p2 &&& (2147483647 : Int32)) % (2147483647 : Int32)).toInt64) + (1 : Int64)) + ((((p4.toUInt32 >>> ((1 : Int32) &&& 31).toUInt32).toInt32) &&& (255 : Int32)).toInt64))).toInt32)), .unset] [(.long (((((p2 &&& (2147483647 : Int32)) % (2147483647 : Int32)).toInt64) * ((own_per p1).toInt64)) + ((own_off p1 p3).toInt64)))])) _
    refine XS.iload X1.here hx rfl (hb hby at_98) rfl ?_
    show Steps p.tables e below (T1.setTop (mkF m 100 #[.val (.int p1), .val (.int p2), .val (.int p3), .val (.int p4), .val (.int (own_per p1)), .val (.int (0 : Int32)), .val (.int ((p2 &&& (2147483647 : Int32)) % (2147483647 : Int32))), .val (.int (own_off p1 p3)), .val (.long (((((p2 &&& (2147483647 : Int32)) % (2147483647 : Int32)).toInt64) * ((own_per p1).toInt64)) + ((own_off p1 p3).toInt64))), .second, .val (.int ((f_min (2147483647 : Int64) (((((p2 &&& (2147483647 : Int32)) % (2147483647 : Int32)).toInt64) + (1 : Int64)) + ((((p4.toUInt32 >>> ((1 : Int32) &&& 31).toUInt32).toInt32) &&& (255 : Int32)).toInt64))).toInt32)), .unset] [(.int (own_per p1)), (.long (((((p2 &&& (2147483647 : Int32)) % (2147483647 : Int32)).toInt64) * ((own_per p1).toInt64)) + ((own_off p1 p3).toInt64)))])) _
    refine XS.iload X1.here hx rfl (hb hby at_100) rfl ?_
    show Steps p.tables e below (T1.setTop (mkF m 102 #[.val (.int p1), .val (.int p2), .val (.int p3), .val (.int p4), .val (.int (own_per p1)), .val (.int (0 : Int32)), .val (.int ((p2 &&& (2147483647 : Int32)) % (2147483647 : Int32))), .val (.int (own_off p1 p3)), .val (.long (((((p2 &&& (2147483647 : Int32)) % (2147483647 : Int32)).toInt64) * ((own_per p1).toInt64)) + ((own_off p1 p3).toInt64))), .second, .val (.int ((f_min (2147483647 : Int64) (((((p2 &&& (2147483647 : Int32)) % (2147483647 : Int32)).toInt64) + (1 : Int64)) + ((((p4.toUInt32 >>> ((1 : Int32) &&& 31).toUInt32).toInt32) &&& (255 : Int32)).toInt64))).toInt32)), .unset] [(.int ((f_min (2147483647 : Int64) (((((p2 &&& (2147483647 : Int32)) % (2147483647 : Int32)).toInt64) + (1 : Int64)) + ((((p4.toUInt32 >>> ((1 : Int32) &&& 31).toUInt32).toInt32) &&& (255 : Int32)).toInt64))).toInt32)), (.int (own_per p1)), (.long (((((p2 &&& (2147483647 : Int32)) % (2147483647 : Int32)).toInt64) * ((own_per p1).toInt64)) + ((own_off p1 p3).toInt64)))])) _
    refine st3 _ ?_
    show Steps p.tables e below (T3.setTop (mkF m 105 #[.val (.int p1), .val (.int p2), .val (.int p3), .val (.int p4), .val (.int (own_per p1)), .val (.int (0 : Int32)), .val (.int ((p2 &&& (2147483647 : Int32)) % (2147483647 : Int32))), .val (.int (own_off p1 p3)), .val (.long (((((p2 &&& (2147483647 : Int32)) % (2147483647 : Int32)).toInt64) * ((own_per p1).toInt64)) + ((own_off p1 p3).toInt64))), .second, .val (.int ((f_min (2147483647 : Int64) (((((p2 &&& (2147483647 : Int32)) % (2147483647 : Int32)).toInt64) + (1 : Int64)) + ((((p4.toUInt32 >>> ((1 : Int32) &&& 31).toUInt32).toInt32) &&& (255 : Int32)).toInt64))).toInt32)), .unset] [(.int (f_offset (((((p2 &&& (2147483647 : Int32)) % (2147483647 : Int32)).toInt64) * ((own_per p1).toInt64)) + ((own_off p1 p3).toInt64)) (own_per p1) ((f_min (2147483647 : Int64) (((((p2 &&& (2147483647 : Int32)) % (2147483647 : Int32)).toInt64) + (1 : Int64)) + ((((p4.toUInt32 >>> ((1 : Int32) &&& 31).toUInt32).toInt32) &&& (255 : Int32)).toInt64))).toInt32)))])) _
    refine XS.istore X3.here hx rfl (hb hby at_105) rfl (l' := #[.val (.int p1), .val (.int p2), .val (.int p3), .val (.int p4), .val (.int (own_per p1)), .val (.int (0 : Int32)), .val (.int ((p2 &&& (2147483647 : Int32)) % (2147483647 : Int32))), .val (.int (own_off p1 p3)), .val (.long (((((p2 &&& (2147483647 : Int32)) % (2147483647 : Int32)).toInt64) * ((own_per p1).toInt64)) + ((own_off p1 p3).toInt64))), .second, .val (.int ((f_min (2147483647 : Int64) (((((p2 &&& (2147483647 : Int32)) % (2147483647 : Int32)).toInt64) + (1 : Int64)) + ((((p4.toUInt32 >>> ((1 : Int32) &&& 31).toUInt32).toInt32) &&& (255 : Int32)).toInt64))).toInt32)), .val (.int (f_offset (((((p2 &&& (2147483647 : Int32)) % (2147483647 : Int32)).toInt64) * ((own_per p1).toInt64)) + ((own_off p1 p3).toInt64)) (own_per p1) ((f_min (2147483647 : Int64) (((((p2 &&& (2147483647 : Int32)) % (2147483647 : Int32)).toInt64) + (1 : Int64)) + ((((p4.toUInt32 >>> ((1 : Int32) &&& 31).toUInt32).toInt32) &&& (255 : Int32)).toInt64))).toInt32)))]) rfl ?_
    show Steps p.tables e below (T3.setTop (mkF m 107 #[.val (.int p1), .val (.int p2), .val (.int p3), .val (.int p4), .val (.int (own_per p1)), .val (.int (0 : Int32)), .val (.int ((p2 &&& (2147483647 : Int32)) % (2147483647 : Int32))), .val (.int (own_off p1 p3)), .val (.long (((((p2 &&& (2147483647 : Int32)) % (2147483647 : Int32)).toInt64) * ((own_per p1).toInt64)) + ((own_off p1 p3).toInt64))), .second, .val (.int ((f_min (2147483647 : Int64) (((((p2 &&& (2147483647 : Int32)) % (2147483647 : Int32)).toInt64) + (1 : Int64)) + ((((p4.toUInt32 >>> ((1 : Int32) &&& 31).toUInt32).toInt32) &&& (255 : Int32)).toInt64))).toInt32)), .val (.int (f_offset (((((p2 &&& (2147483647 : Int32)) % (2147483647 : Int32)).toInt64) * ((own_per p1).toInt64)) + ((own_off p1 p3).toInt64)) (own_per p1) ((f_min (2147483647 : Int64) (((((p2 &&& (2147483647 : Int32)) % (2147483647 : Int32)).toInt64) + (1 : Int64)) + ((((p4.toUInt32 >>> ((1 : Int32) &&& 31).toUInt32).toInt32) &&& (255 : Int32)).toInt64))).toInt32)))] [])) _
    refine XS.iload X3.here hx rfl (hb hby at_107) rfl ?_
    show Steps p.tables e below (T3.setTop (mkF m 109 #[.val (.int p1), .val (.int p2), .val (.int p3), .val (.int p4), .val (.int (own_per p1)), .val (.int (0 : Int32)), .val (.int ((p2 &&& (2147483647 : Int32)) % (2147483647 : Int32))), .val (.int (own_off p1 p3)), .val (.long (((((p2 &&& (2147483647 : Int32)) % (2147483647 : Int32)).toInt64) * ((own_per p1).toInt64)) + ((own_off p1 p3).toInt64))), .second, .val (.int ((f_min (2147483647 : Int64) (((((p2 &&& (2147483647 : Int32)) % (2147483647 : Int32)).toInt64) + (1 : Int64)) + ((((p4.toUInt32 >>> ((1 : Int32) &&& 31).toUInt32).toInt32) &&& (255 : Int32)).toInt64))).toInt32)), .val (.int (f_offset (((((p2 &&& (2147483647 : Int32)) % (2147483647 : Int32)).toInt64) * ((own_per p1).toInt64)) + ((own_off p1 p3).toInt64)) (own_per p1) ((f_min (2147483647 : Int64) (((((p2 &&& (2147483647 : Int32)) % (2147483647 : Int32)).toInt64) + (1 : Int64)) + ((((p4.toUInt32 >>> ((1 : Int32) &&& 31).toUInt32).toInt32) &&& (255 : Int32)).toInt64))).toInt32)))] [(.int (f_offset (((((p2 &&& (2147483647 : Int32)) % (2147483647 : Int32)).toInt64) * ((own_per p1).toInt64)) + ((own_off p1 p3).toInt64)) (own_per p1) ((f_min (2147483647 : Int64) (((((p2 &&& (2147483647 : Int32)) % (2147483647 : Int32)).toInt64) + (1 : Int64)) + ((((p4.toUInt32 >>> ((1 : Int32) &&& 31).toUInt32).toInt32) &&& (255 : Int32)).toInt64))).toInt32)))])) _
    refine XS.iload X3.here hx rfl (hb hby at_109) rfl ?_
    show Steps p.tables e below (T3.setTop (mkF m 111 #[.val (.int p1), .val (.int p2), .val (.int p3), .val (.int p4), .val (.int (own_per p1)), .val (.int (0 : Int32)), .val (.int ((p2 &&& (2147483647 : Int32)) % (2147483647 : Int32))), .val (.int (own_off p1 p3)), .val (.long (((((p2 &&& (2147483647 : Int32)) % (2147483647 : Int32)).toInt64) * ((own_per p1).toInt64)) + ((own_off p1 p3).toInt64))), .second, .val (.int ((f_min (2147483647 : Int64) (((((p2 &&& (2147483647 : Int32)) % (2147483647 : Int32)).toInt64) + (1 : Int64)) + ((((p4.toUInt32 >>> ((1 : Int32) &&& 31).toUInt32).toInt32) &&& (255 : Int32)).toInt64))).toInt32)), .val (.int (f_offset (((((p2 &&& (2147483647 : Int32)) % (2147483647 : Int32)).toInt64) * ((own_per p1).toInt64)) + ((own_off p1 p3).toInt64)) (own_per p1) ((f_min (2147483647 : Int64) (((((p2 &&& (2147483647 : Int32)) % (2147483647 : Int32)).toInt64) + (1 : Int64)) + ((((p4.toUInt32 >>> ((1 : Int32) &&& 31).toUInt32).toInt32) &&& (255 : Int32)).toInt64))).toInt32)))] [(.int (own_off p1 p3)), (.int (f_offset (((((p2 &&& (2147483647 : Int32)) % (2147483647 : Int32)).toInt64) * ((own_per p1).toInt64)) + ((own_off p1 p3).toInt64)) (own_per p1) ((f_min (2147483647 : Int64) (((((p2 &&& (2147483647 : Int32)) % (2147483647 : Int32)).toInt64) + (1 : Int64)) + ((((p4.toUInt32 >>> ((1 : Int32) &&& 31).toUInt32).toInt32) &&& (255 : Int32)).toInt64))).toInt32)))])) _
    refine XS.icmpNo X3.here hx rfl (hb hby at_111) rfl (teq hc1).2 ?_
    show Steps p.tables e below (T3.setTop (mkF m 114 #[.val (.int p1), .val (.int p2), .val (.int p3), .val (.int p4), .val (.int (own_per p1)), .val (.int (0 : Int32)), .val (.int ((p2 &&& (2147483647 : Int32)) % (2147483647 : Int32))), .val (.int (own_off p1 p3)), .val (.long (((((p2 &&& (2147483647 : Int32)) % (2147483647 : Int32)).toInt64) * ((own_per p1).toInt64)) + ((own_off p1 p3).toInt64))), .second, .val (.int ((f_min (2147483647 : Int64) (((((p2 &&& (2147483647 : Int32)) % (2147483647 : Int32)).toInt64) + (1 : Int64)) + ((((p4.toUInt32 >>> ((1 : Int32) &&& 31).toUInt32).toInt32) &&& (255 : Int32)).toInt64))).toInt32)), .val (.int (f_offset (((((p2 &&& (2147483647 : Int32)) % (2147483647 : Int32)).toInt64) * ((own_per p1).toInt64)) + ((own_off p1 p3).toInt64)) (own_per p1) ((f_min (2147483647 : Int64) (((((p2 &&& (2147483647 : Int32)) % (2147483647 : Int32)).toInt64) + (1 : Int64)) + ((((p4.toUInt32 >>> ((1 : Int32) &&& 31).toUInt32).toInt32) &&& (255 : Int32)).toInt64))).toInt32)))] [])) _
    refine XS.iload X3.here hx rfl (hb hby at_114) rfl ?_
    show Steps p.tables e below (T3.setTop (mkF m 116 #[.val (.int p1), .val (.int p2), .val (.int p3), .val (.int p4), .val (.int (own_per p1)), .val (.int (0 : Int32)), .val (.int ((p2 &&& (2147483647 : Int32)) % (2147483647 : Int32))), .val (.int (own_off p1 p3)), .val (.long (((((p2 &&& (2147483647 : Int32)) % (2147483647 : Int32)).toInt64) * ((own_per p1).toInt64)) + ((own_off p1 p3).toInt64))), .second, .val (.int ((f_min (2147483647 : Int64) (((((p2 &&& (2147483647 : Int32)) % (2147483647 : Int32)).toInt64) + (1 : Int64)) + ((((p4.toUInt32 >>> ((1 : Int32) &&& 31).toUInt32).toInt32) &&& (255 : Int32)).toInt64))).toInt32)), .val (.int (f_offset (((((p2 &&& (2147483647 : Int32)) % (2147483647 : Int32)).toInt64) * ((own_per p1).toInt64)) + ((own_off p1 p3).toInt64)) (own_per p1) ((f_min (2147483647 : Int64) (((((p2 &&& (2147483647 : Int32)) % (2147483647 : Int32)).toInt64) + (1 : Int64)) + ((((p4.toUInt32 >>> ((1 : Int32) &&& 31).toUInt32).toInt32) &&& (255 : Int32)).toInt64))).toInt32)))] [(.int (f_offset (((((p2 &&& (2147483647 : Int32)) % (2147483647 : Int32)).toInt64) * ((own_per p1).toInt64)) + ((own_off p1 p3).toInt64)) (own_per p1) ((f_min (2147483647 : Int64) (((((p2 &&& (2147483647 : Int32)) % (2147483647 : Int32)).toInt64) + (1 : Int64)) + ((((p4.toUInt32 >>> ((1 : Int32) &&& 31).toUInt32).toInt32) &&& (255 : Int32)).toInt64))).toInt32)))])) _
    refine XS.ifNo X3.here hx rfl (hb hby at_116) rfl ((if0 _ _).trans (flt hc2).1) ?_
    show Steps p.tables e below (T3.setTop (mkF m 119 #[.val (.int p1), .val (.int p2), .val (.int p3), .val (.int p4), .val (.int (own_per p1)), .val (.int (0 : Int32)), .val (.int ((p2 &&& (2147483647 : Int32)) % (2147483647 : Int32))), .val (.int (own_off p1 p3)), .val (.long (((((p2 &&& (2147483647 : Int32)) % (2147483647 : Int32)).toInt64) * ((own_per p1).toInt64)) + ((own_off p1 p3).toInt64))), .second, .val (.int ((f_min (2147483647 : Int64) (((((p2 &&& (2147483647 : Int32)) % (2147483647 : Int32)).toInt64) + (1 : Int64)) + ((((p4.toUInt32 >>> ((1 : Int32) &&& 31).toUInt32).toInt32) &&& (255 : Int32)).toInt64))).toInt32)), .val (.int (f_offset (((((p2 &&& (2147483647 : Int32)) % (2147483647 : Int32)).toInt64) * ((own_per p1).toInt64)) + ((own_off p1 p3).toInt64)) (own_per p1) ((f_min (2147483647 : Int64) (((((p2 &&& (2147483647 : Int32)) % (2147483647 : Int32)).toInt64) + (1 : Int64)) + ((((p4.toUInt32 >>> ((1 : Int32) &&& 31).toUInt32).toInt32) &&& (255 : Int32)).toInt64))).toInt32)))] [])) _
    refine XS.iload X3.here hx rfl (hb hby at_119) rfl ?_
    show Steps p.tables e below (T3.setTop (mkF m 121 #[.val (.int p1), .val (.int p2), .val (.int p3), .val (.int p4), .val (.int (own_per p1)), .val (.int (0 : Int32)), .val (.int ((p2 &&& (2147483647 : Int32)) % (2147483647 : Int32))), .val (.int (own_off p1 p3)), .val (.long (((((p2 &&& (2147483647 : Int32)) % (2147483647 : Int32)).toInt64) * ((own_per p1).toInt64)) + ((own_off p1 p3).toInt64))), .second, .val (.int ((f_min (2147483647 : Int64) (((((p2 &&& (2147483647 : Int32)) % (2147483647 : Int32)).toInt64) + (1 : Int64)) + ((((p4.toUInt32 >>> ((1 : Int32) &&& 31).toUInt32).toInt32) &&& (255 : Int32)).toInt64))).toInt32)), .val (.int (f_offset (((((p2 &&& (2147483647 : Int32)) % (2147483647 : Int32)).toInt64) * ((own_per p1).toInt64)) + ((own_off p1 p3).toInt64)) (own_per p1) ((f_min (2147483647 : Int64) (((((p2 &&& (2147483647 : Int32)) % (2147483647 : Int32)).toInt64) + (1 : Int64)) + ((((p4.toUInt32 >>> ((1 : Int32) &&& 31).toUInt32).toInt32) &&& (255 : Int32)).toInt64))).toInt32)))] [(.int (f_offset (((((p2 &&& (2147483647 : Int32)) % (2147483647 : Int32)).toInt64) * ((own_per p1).toInt64)) + ((own_off p1 p3).toInt64)) (own_per p1) ((f_min (2147483647 : Int64) (((((p2 &&& (2147483647 : Int32)) % (2147483647 : Int32)).toInt64) + (1 : Int64)) + ((((p4.toUInt32 >>> ((1 : Int32) &&& 31).toUInt32).toInt32) &&& (255 : Int32)).toInt64))).toInt32)))])) _
    refine XS.iload X3.here hx rfl (hb hby at_121) rfl ?_
    show Steps p.tables e below (T3.setTop (mkF m 123 #[.val (.int p1), .val (.int p2), .val (.int p3), .val (.int p4), .val (.int (own_per p1)), .val (.int (0 : Int32)), .val (.int ((p2 &&& (2147483647 : Int32)) % (2147483647 : Int32))), .val (.int (own_off p1 p3)), .val (.long (((((p2 &&& (2147483647 : Int32)) % (2147483647 : Int32)).toInt64) * ((own_per p1).toInt64)) + ((own_off p1 p3).toInt64))), .second, .val (.int ((f_min (2147483647 : Int64) (((((p2 &&& (2147483647 : Int32)) % (2147483647 : Int32)).toInt64) + (1 : Int64)) + ((((p4.toUInt32 >>> ((1 : Int32) &&& 31).toUInt32).toInt32) &&& (255 : Int32)).toInt64))).toInt32)), .val (.int (f_offset (((((p2 &&& (2147483647 : Int32)) % (2147483647 : Int32)).toInt64) * ((own_per p1).toInt64)) + ((own_off p1 p3).toInt64)) (own_per p1) ((f_min (2147483647 : Int64) (((((p2 &&& (2147483647 : Int32)) % (2147483647 : Int32)).toInt64) + (1 : Int64)) + ((((p4.toUInt32 >>> ((1 : Int32) &&& 31).toUInt32).toInt32) &&& (255 : Int32)).toInt64))).toInt32)))] [(.int (own_per p1)), (.int (f_offset (((((p2 &&& (2147483647 : Int32)) % (2147483647 : Int32)).toInt64) * ((own_per p1).toInt64)) + ((own_off p1 p3).toInt64)) (own_per p1) ((f_min (2147483647 : Int64) (((((p2 &&& (2147483647 : Int32)) % (2147483647 : Int32)).toInt64) + (1 : Int64)) + ((((p4.toUInt32 >>> ((1 : Int32) &&& 31).toUInt32).toInt32) &&& (255 : Int32)).toInt64))).toInt32)))])) _
    refine XS.icmpNo X3.here hx rfl (hb hby at_123) rfl (tlt hc3).2.1 ?_
    show Steps p.tables e below (T3.setTop (mkF m 126 #[.val (.int p1), .val (.int p2), .val (.int p3), .val (.int p4), .val (.int (own_per p1)), .val (.int (0 : Int32)), .val (.int ((p2 &&& (2147483647 : Int32)) % (2147483647 : Int32))), .val (.int (own_off p1 p3)), .val (.long (((((p2 &&& (2147483647 : Int32)) % (2147483647 : Int32)).toInt64) * ((own_per p1).toInt64)) + ((own_off p1 p3).toInt64))), .second, .val (.int ((f_min (2147483647 : Int64) (((((p2 &&& (2147483647 : Int32)) % (2147483647 : Int32)).toInt64) + (1 : Int64)) + ((((p4.toUInt32 >>> ((1 : Int32) &&& 31).toUInt32).toInt32) &&& (255 : Int32)).toInt64))).toInt32)), .val (.int (f_offset (((((p2 &&& (2147483647 : Int32)) % (2147483647 : Int32)).toInt64) * ((own_per p1).toInt64)) + ((own_off p1 p3).toInt64)) (own_per p1) ((f_min (2147483647 : Int64) (((((p2 &&& (2147483647 : Int32)) % (2147483647 : Int32)).toInt64) + (1 : Int64)) + ((((p4.toUInt32 >>> ((1 : Int32) &&& 31).toUInt32).toInt32) &&& (255 : Int32)).toInt64))).toInt32)))] [])) _
    refine XS.iconst X3.here hx rfl (hb hby at_126) ?_
    show Steps p.tables e below (T3.setTop (mkF m 127 #[.val (.int p1), .val (.int p2), .val (.int p3), .val (.int p4), .val (.int (own_per p1)), .val (.int (0 : Int32)), .val (.int ((p2 &&& (2147483647 : Int32)) % (2147483647 : Int32))), .val (.int (own_off p1 p3)), .val (.long (((((p2 &&& (2147483647 : Int32)) % (2147483647 : Int32)).toInt64) * ((own_per p1).toInt64)) + ((own_off p1 p3).toInt64))), .second, .val (.int ((f_min (2147483647 : Int64) (((((p2 &&& (2147483647 : Int32)) % (2147483647 : Int32)).toInt64) + (1 : Int64)) + ((((p4.toUInt32 >>> ((1 : Int32) &&& 31).toUInt32).toInt32) &&& (255 : Int32)).toInt64))).toInt32)), .val (.int (f_offset (((((p2 &&& (2147483647 : Int32)) % (2147483647 : Int32)).toInt64) * ((own_per p1).toInt64)) + ((own_off p1 p3).toInt64)) (own_per p1) ((f_min (2147483647 : Int64) (((((p2 &&& (2147483647 : Int32)) % (2147483647 : Int32)).toInt64) + (1 : Int64)) + ((((p4.toUInt32 >>> ((1 : Int32) &&& 31).toUInt32).toInt32) &&& (255 : Int32)).toInt64))).toInt32)))] [(.int (1 : Int32))])) _
    refine XS.goto X3.here hx rfl (pc0 := 127) (pc' := 131) rfl (hb hby at_127) (by decide) (by decide) ?_
    show Steps p.tables e below (T3.setTop (mkF m 131 #[.val (.int p1), .val (.int p2), .val (.int p3), .val (.int p4), .val (.int (own_per p1)), .val (.int (0 : Int32)), .val (.int ((p2 &&& (2147483647 : Int32)) % (2147483647 : Int32))), .val (.int (own_off p1 p3)), .val (.long (((((p2 &&& (2147483647 : Int32)) % (2147483647 : Int32)).toInt64) * ((own_per p1).toInt64)) + ((own_off p1 p3).toInt64))), .second, .val (.int ((f_min (2147483647 : Int64) (((((p2 &&& (2147483647 : Int32)) % (2147483647 : Int32)).toInt64) + (1 : Int64)) + ((((p4.toUInt32 >>> ((1 : Int32) &&& 31).toUInt32).toInt32) &&& (255 : Int32)).toInt64))).toInt32)), .val (.int (f_offset (((((p2 &&& (2147483647 : Int32)) % (2147483647 : Int32)).toInt64) * ((own_per p1).toInt64)) + ((own_off p1 p3).toInt64)) (own_per p1) ((f_min (2147483647 : Int64) (((((p2 &&& (2147483647 : Int32)) % (2147483647 : Int32)).toInt64) + (1 : Int64)) + ((((p4.toUInt32 >>> ((1 : Int32) &&& 31).toUInt32).toInt32) &&& (255 : Int32)).toInt64))).toInt32)))] [(.int (1 : Int32))])) _
    exact retN X3 hx (t := .boolean) Bd.returns (by simp) (hb hby at_131) hr
  · show Q_law Z p1 p2 p3 p4 h0 n0 _ T3.heap _
    rw [e3]
    exact ⟨rfl, N4⟩
theorem own_per_rng (p1 : Int32) : 1 ≤ (own_per p1).toInt ∧ (own_per p1).toInt ≤ 2147483647 := by
  have e1 := own_mI p1
  have e2 := own_imod_rng (p1 &&& 2147483647) 2147483647 e1.1 (by decide)
  have e3 := c_iadd 1 ((p1 &&& 2147483647) % 2147483647)
  have e4 := rng32 (1 + ((p1 &&& 2147483647) % 2147483647))
  have e5 : (2147483647 : Int32).toInt = 2147483647 := by decide
  have e6 : (1 : Int32).toInt = 1 := by decide
  unfold own_per
  omega
theorem own_off_rng (p1 p3 : Int32) : 0 ≤ (own_off p1 p3).toInt ∧ (own_off p1 p3).toInt < (own_per p1).toInt :=
  own_imod_rng (p3 &&& 2147483647) (own_per p1) (own_mI p3).1 (by have := own_per_rng p1; omega)
theorem own_l2i (x : Int64) (y : Int32) (h : x.toInt = y.toInt) : x.toInt32 = y := by
  have a := c_l2i x
  have b := rng32 x.toInt32
  have c := rng32 y
  exact own_eq32 (by omega)
theorem own_index (g : Int32) (p1 p3 : Int32) (h1 : 0 ≤ g.toInt) (h2 : g.toInt ≤ 2147483646) : (g.toInt64 * (own_per p1).toInt64 + (own_off p1 p3).toInt64).toInt = g.toInt * (own_per p1).toInt + (own_off p1 p3).toInt := by
  have r := own_per_rng p1
  have o := own_off_rng p1 p3
  have a1 := c_lmul g.toInt64 (own_per p1).toInt64
  have a2 := rng64 (g.toInt64 * (own_per p1).toInt64)
  rw [c_i2l, c_i2l] at a1
  have b1 : g.toInt * (own_per p1).toInt ≤ 2147483646 * 2147483647 := Int.mul_le_mul h2 r.2 (by omega) (by omega)
  have b2 : 0 ≤ g.toInt * (own_per p1).toInt := Int.mul_nonneg h1 (by omega)
  have a3 := c_ladd (g.toInt64 * (own_per p1).toInt64) (own_off p1 p3).toInt64
  have a4 := rng64 (g.toInt64 * (own_per p1).toInt64 + (own_off p1 p3).toInt64)
  rw [c_i2l] at a3
  omega
theorem own_done (g p1 p3 pc : Int32) (h1 : 0 ≤ g.toInt) (h2 : g.toInt ≤ 2147483646) (hp : pc = 1 → g.toInt = 0) : f_offset (g.toInt64 * (own_per p1).toInt64 + (own_off p1 p3).toInt64) (own_per p1) pc = own_off p1 p3 := by
  have r := own_per_rng p1
  have o := own_off_rng p1 p3
  have e := own_index g p1 p3 h1 h2
  have b2 : 0 ≤ g.toInt * (own_per p1).toInt := Int.mul_nonneg h1 (by omega)
  unfold f_offset
  by_cases c : pc = 1
  · rw [if_pos c]
    have z := hp c
    apply own_l2i
    rw [e, z]; omega
  · rw [if_neg c]
    apply own_l2i
    rw [own_lmod _ _ (by omega), e, c_i2l, Int.add_comm, Int.add_mul_emod_self_right]
    exact Int.emod_eq_of_lt o.1 o.2
theorem own_pc (g s : Int32) (h1 : 0 ≤ g.toInt) (h2 : g.toInt ≤ 2147483646) (h : (f_min (2147483647 : Int64) ((g.toInt64 + (1 : Int64)) + ((s &&& (255 : Int32)).toInt64))).toInt32 = 1) : g.toInt = 0 := by
  have m := c_and s 255 (by decide)
  have m1 : (255 : Int32).toInt = 255 := by decide
  have a1 := c_ladd g.toInt64 1
  have a2 := rng64 (g.toInt64 + 1)
  have a3 := c_ladd (g.toInt64 + 1) (s &&& 255).toInt64
  have a4 := rng64 ((g.toInt64 + 1) + (s &&& 255).toInt64)
  have o2 : (1 : Int64).toInt = 1 := by decide
  have o3 : (2147483647 : Int64).toInt = 2147483647 := by decide
  have i1 := c_i2l g
  have i2 := c_i2l (s &&& 255)
  unfold f_min at h
  have hc := congrArg Int32.toInt h
  have o4 : (1 : Int32).toInt = 1 := by decide
  by_cases c : ((g.toInt64 + (1 : Int64)) + ((s &&& (255 : Int32)).toInt64)) < (2147483647 : Int64)
  · rw [if_pos c] at hc
    have b := c_l2i ((g.toInt64 + (1 : Int64)) + ((s &&& (255 : Int32)).toInt64))
    rw [own_lt64] at c
    omega
  · rw [if_neg c] at hc
    exact absurd hc (by decide)
theorem own_plain (p1 p2 p3 p4 : Int32) : Road_ffff p1 p2 p3 p4 ∨ Road_tfff p1 p2 p3 p4 := by
  have r := own_per_rng p1
  have o := own_off_rng p1 p3
  have k1 : ¬ (own_per p1 = (0 : Int32)) := own_nz32 (by omega)
  have k2 : ¬ ((own_per p1).toInt64 = (0 : Int64)) := own_nz64 (by rw [c_i2l]; omega)
  have k3 : ¬ (own_off p1 p3 < (0 : Int32)) := by rw [own_lt32, show (0 : Int32).toInt = 0 from by decide]; omega
  have k4 : own_off p1 p3 < own_per p1 := by rw [own_lt32]; omega
  by_cases c : (p4 &&& (1 : Int32)) = (0 : Int32)
  · right
    have e1 := own_mI p2
    have e2 := own_imod_rng (p2 &&& 2147483647) 2147483647 e1.1 (by decide)
    have e5 : (2147483647 : Int32).toInt = 2147483647 := by decide
    have e := own_done ((p2 &&& (2147483647 : Int32)) % (2147483647 : Int32)) p1 p3 _ e2.1 (by omega) (own_pc ((p2 &&& (2147483647 : Int32)) % (2147483647 : Int32)) (p4.toUInt32 >>> ((1 : Int32) &&& 31).toUInt32).toInt32 e2.1 (by omega))
    exact ⟨k1, k2, c, e, by rw [e]; exact k3, by rw [e]; exact k4⟩
  · left
    have e := own_done 0 p1 p3 1 (by decide) (by decide) (fun _ => by decide)
    exact ⟨k1, k2, c, e, by rw [e]; exact k3, by rw [e]; exact k4⟩
set_option maxRecDepth 65536 in
set_option maxHeartbeats 40000000 in
theorem rm_law (l : Launch) (Z : State) (a0 : Array Value) (hw : ∀ d ∈ tables_1, d.before a0 Z = true) (ws : List Jvm.Cond) (p1 : Int32) (p2 : Int32) (p3 : Int32) (p4 : Int32) (h0 : Heap) (n0 : Nat) (Z0 : n0 ≤ h0.size) :
    MetFree l x (head1 (Jvm.Cond.code x code maxLocals ret :: ws) room_1) (fun a U => a = #[(.int p1), (.int p2), (.int p3), (.int p4)] ∧ Z.Warmed39 U.vm ∧ U.heap = h0) (fun _ _ _ _ _ => True) (fun _ U o U' => ∃ v L, o = .returned v ∧ Q_law Z p1 p2 p3 p4 h0 n0 v U'.heap L ∧ FrameEnd U o U' L room_1.cells room_1.slots) := by
  rcases own_plain p1 p2 p3 p4 with h | h
  · exact rm_law_ffff l Z a0 hw ws p1 p2 p3 p4 h0 n0 Z0 h
  · exact rm_law_tfff l Z a0 hw ws p1 p2 p3 p4 h0 n0 Z0 h
set_option maxRecDepth 65536 in
set_option maxHeartbeats 40000000 in
theorem comes_1 {Post : Tables → Env → Array Value → State → Outcome → State → Prop} (hpost : ∀ tb e args s v u, (limb_1_1.after args s (.returned v) u = true ∧ limb_1_2.after args s (.returned v) u = true ∧ True) → FrameEnd s (.returned v) u (Jvm.fieldLocs frame_1_writes args s ++ Jvm.arrayLocs frame_1_arrays args s ++ Jvm.staticLocs frame_1_statics s) 0 0 → Post tb e args s (.returned v) u) :
    ArmFor flags0 classFile x code maxLocals ret World_1 tables_1 room_1 Calls_1 rest_1 Pre_1 Post := by
  intro l hfl _ _ p e ha hc hk s m args below hf hA hF happ hP
  obtain ⟨hcalls, hrest, hpre⟩ := hP
  obtain ⟨-, -, -, hnamed, -, -, -, hat⟩ := (Spec.applies_iff hf).mp happ
  obtain ⟨hg, hn⟩ := and_e (Cond.before_iff.mp (show (Jvm.Cond.and given_1 narrow_1).before args s = true from hpre))
  obtain ⟨g1, g2⟩ := and_e hg
  obtain ⟨g3, g4⟩ := and_e g2
  obtain ⟨g5, g6⟩ := and_e g4
  obtain ⟨g7, g8⟩ := and_e g6
  obtain ⟨w0, w1, w2, w3, rfl⟩ : ∃ w0 w1 w2 w3 : Value, args = #[w0, w1, w2, w3] := by
    have hs : args.size = 4 := by simpa [Cond.value, given_1] using g1
    obtain ⟨L⟩ := args
    match L, hs with
    | [w0, w1, w2, w3], _ => exact ⟨w0, w1, w2, w3, rfl⟩
  have hw := fun d (hd : d ∈ tables_1) => atoms_spec (ws := Jvm.Cond.code x code maxLocals ret :: tables_1) hat d (List.mem_cons_of_mem _ hd)
  have hfit : Fit s := fun {y c} hc i hi => by
    obtain ⟨ha, rfl⟩ := Array.getElem?_eq_some_iff.mp hc
    have q := List.all_eq_true.mp ((Array.all_eq_true_iff_forall_mem.mp hF) _ (Array.getElem_mem ha)) i (List.mem_range.mpr hi)
    simpa [Array.getElem?_eq_getElem hi] using q
  obtain ⟨i0, ei0⟩ := is_v g3
  obtain rfl : w0 = (.int i0) := Option.some.inj ei0
  obtain ⟨i1, ei1⟩ := is_v g5
  obtain rfl : w1 = (.int i1) := Option.some.inj ei1
  obtain ⟨i2, ei2⟩ := is_v g7
  obtain rfl : w2 = (.int i2) := Option.some.inj ei2
  obtain ⟨i3, ei3⟩ := is_v g8
  obtain rfl : w3 = (.int i3) := Option.some.inj ei3
  obtain ⟨n, o, h1, h2, h3, _, L, rfl, ⟨rfl, N⟩, hq⟩ := rm_law l s _ hw tables_1 i0 i1 i2 i3 s.heap s.heap.size (Nat.le_refl _) p e ha hc hk s m _ below hf ((Spec.applies_iff_loose hf).mp happ).1 ⟨rfl, State.Warmed39.refl s, rfl⟩ trivial
  refine ⟨n, _, h1, h2, h3, hpost _ _ _ _ _ _ ⟨Cond.after_iff.mpr rfl, Cond.after_iff.mpr (eq_i res_at (Term.int_eval (1)) rfl), trivial⟩ ⟨hq.1, hq.2.1, (hq.2.2.sift fun y hy => Or.inr (N y hy)).mono (by decide) (by decide)⟩⟩
theorem main_1_1 : Claimed_1_1 := comes_1 fun _ _ _ _ _ _ h hF => ⟨h.1, hF⟩
theorem main_1_2 : Claimed_1_2 := comes_1 fun _ _ _ _ _ _ h hF => ⟨h.2.1, hF⟩
end Jvm.Pilot.@@N@@
namespace Jvm.Pilot.@@N@@
open Jvm Jvm.ClassFile Sem Op Lib Jvm.Free Jvm.Stand Jvm.Pilot.@@N@@.Jvm.D
/-! MADE BY PROGRAM (witnessworld.py) out of the Statement's table words and the real class files: 8 classes; the members and pool entries that the words name. The judged class is class 1, her method 1. -/
namespace start1
open Jvm.ClassFile
def u (s : String) : CpInfo := .utf8 (stringToUtf16 s)
/-- a pool by its gaps: so many unusable entries, then the entry; so many at the end -/
def gap : Nat → List CpInfo → List CpInfo
  | 0, r => r
  | n + 1, r => .unusable :: gap n r
def poolList (es : List (Nat × CpInfo)) (last : Nat) : List CpInfo := es.foldr (fun e r => gap e.1 (e.2 :: r)) (gap last [])
def pool (es : List (Nat × CpInfo)) (last : Nat) : Array CpInfo := ⟨poolList es last⟩
def fileOf (pool : Array CpInfo) (this : Nat) (attrs : Array Attribute := #[]) (ms : Array MethodInfo := #[]) (fl : Nat := 33) (sup : Nat := 0) (ifs : Array Nat := #[]) (fds : Array FieldInfo := #[]) : ClassFile where
  minorVersion := 0
  majorVersion := 65
  constantPool := pool
  accessFlags := fl
  thisClass := this
  superClass := sup
  interfaces := ifs
  fields := fds
  methods := ms
  attributes := attrs
def plain (name : String) (sup : Option ClassId) : Class where
  name := name
  kind := .ordinary
  loader := none
  accessFlags := 33
  super := sup
  interfaces := #[]
  cf := none
  fields := #[]
  methods := #[]
  instanceTypes := #[]
  staticTypes := #[]
  resolved := #[]
  callSites := []
  init := .initialized
  statics := none
  mirror := none

def pool0 : Array CpInfo := pool [(5, u "<init>"), (0, u "()V"), (1, .class_ 10), (1, u "java/lang/Object")] 113

def k0m0 : Method := { name := "<init>", desc := "()V", sig := { parameters := [], returnType := none }, accessFlags := 1, code := none }
/-- java/lang/Object -/
def k0 : Class := { plain "java/lang/Object" none with
  accessFlags := 33
  interfaces := #[]
  cf := some (fileOf pool0 8 #[] #[{ accessFlags := 1, nameIndex := 5, descriptorIndex := 6, attributes := #[] }] 33 0 #[] #[])
  fields := #[]
  methods := #[k0m0]
  instanceTypes := #[]
  staticTypes := #[]
  resolved := Array.replicate 124 none
  statics := none }

def pool1 : Array CpInfo := pool [(2, .class_ 4), (1, u "java/lang/Object"), (0, u "<init>"), (0, u "()V"), (0, .integer 2147483647), (2, .long 2147483647), (1, .methodref 13 14), (0, .class_ 15), (0, .nameAndType 16 17), (0, u "java/lang/Math"), (0, u "min"), (0, u "(JJ)J"), (0, .methodref 19 20), (0, .class_ 21), (0, .nameAndType 22 23), (0, u "com/example/libmaybe/libmaybe/Pages"), (0, u "offset"), (0, u "(JII)I"), (0, .class_ 25), (0, u "com/example/libmaybe/libmaybe/PagesOffsetPinLaw"), (2, u "law"), (0, u "(IIII)Z")] 3

def k1m0 : Method := { name := "<init>", desc := "()V", sig := { parameters := [], returnType := none }, accessFlags := 1, code := none }
def k1c1 : Code := { maxStack := 6, maxLocals := 12, code := code, exceptionTable := #[], attributes := #[] }
def k1m1 : Method := { name := "law", desc := "(IIII)Z", sig := { parameters := [.int, .int, .int, .int], returnType := some .boolean }, accessFlags := 9, code := some k1c1 }
/-- com/example/libmaybe/libmaybe/PagesOffsetPinLaw -/
def k1 : Class := { plain "com/example/libmaybe/libmaybe/PagesOffsetPinLaw" (some 0) with
  accessFlags := 49
  interfaces := #[]
  cf := some (fileOf pool1 24 #[] #[{ accessFlags := 1, nameIndex := 5, descriptorIndex := 6, attributes := #[] }, { accessFlags := 9, nameIndex := 28, descriptorIndex := 29, attributes := #[] }] 49 2 #[] #[])
  fields := #[]
  methods := #[k1m0, k1m1]
  instanceTypes := #[]
  staticTypes := #[]
  resolved := Array.replicate 33 none
  statics := none }

def pool2 : Array CpInfo := pool [(1, .class_ 2), (0, u "com/example/libmaybe/libmaybe/Pages"), (3, .class_ 8), (1, u "java/lang/Object"), (0, u "<init>"), (0, u "()V"), (6, u "PAGE_HEAP_BYTES"), (0, u "I"), (2, u "ARRAY_HEADER_BYTES"), (1, u "WORDS"), (1, u "BYTES"), (6, u "(JII)I"), (2, u "offset")] 2

def k2m0 : Method := { name := "<init>", desc := "()V", sig := { parameters := [], returnType := none }, accessFlags := 2, code := none }
def k2c1 : Code := { maxStack := 4, maxLocals := 4, code := prog_27_method_5_code, exceptionTable := #[], attributes := #[] }
def k2m1 : Method := { name := "offset", desc := "(JII)I", sig := { parameters := [.long, .int, .int], returnType := some .int }, accessFlags := 8, code := some k2c1 }
/-- com/example/libmaybe/libmaybe/Pages -/
def k2 : Class := { plain "com/example/libmaybe/libmaybe/Pages" (some 0) with
  accessFlags := 32
  interfaces := #[]
  cf := some (fileOf pool2 1 #[] #[{ accessFlags := 2, nameIndex := 9, descriptorIndex := 10, attributes := #[] }, { accessFlags := 8, nameIndex := 35, descriptorIndex := 32, attributes := #[] }] 32 6 #[] #[{ accessFlags := 26, nameIndex := 17, descriptorIndex := 18, attributes := #[] }, { accessFlags := 26, nameIndex := 21, descriptorIndex := 18, attributes := #[] }, { accessFlags := 24, nameIndex := 23, descriptorIndex := 18, attributes := #[] }, { accessFlags := 24, nameIndex := 25, descriptorIndex := 18, attributes := #[] }])
  fields := #[{ name := "PAGE_HEAP_BYTES", type := .int, accessFlags := 26, slot := 0, constantValue := 0 }, { name := "ARRAY_HEADER_BYTES", type := .int, accessFlags := 26, slot := 1, constantValue := 0 }, { name := "WORDS", type := .int, accessFlags := 24, slot := 2, constantValue := 0 }, { name := "BYTES", type := .int, accessFlags := 24, slot := 3, constantValue := 0 }]
  methods := #[k2m0, k2m1]
  instanceTypes := #[]
  staticTypes := #[.int, .int, .int, .int]
  resolved := Array.replicate 38 none
  statics := none }

def pool3 : Array CpInfo := pool [(1, .class_ 2), (0, u "java/lang/Math"), (1, .class_ 6), (1, u "java/lang/Object"), (0, u "<init>"), (0, u "()V"), (89, .class_ 100), (1, u "java/lang/Math$RandomNumberGeneratorHolder"), (20, u "(JJ)J"), (50, u "negativeZeroFloatBits"), (0, u "J"), (2, u "negativeZeroDoubleBits"), (24, u "min"), (43, u "$assertionsDisabled"), (0, u "Z"), (91, u "twoToTheDoubleScaleDown"), (0, u "D"), (4, u "twoToTheDoubleScaleUp"), (9, u "E"), (3, u "PI"), (2, u "TAU"), (2, u "DEGREES_TO_RADIANS"), (0, u "RADIANS_TO_DEGREES")] 94

def k3m0 : Method := { name := "<init>", desc := "()V", sig := { parameters := [], returnType := none }, accessFlags := 2, code := none }
def k3c1 : Code := { maxStack := 4, maxLocals := 4, code := jdk_29_method_70_code, exceptionTable := #[], attributes := #[] }
def k3m1 : Method := { name := "min", desc := "(JJ)J", sig := { parameters := [.long, .long], returnType := some .long }, accessFlags := 9, code := some k3c1 }
/-- java/lang/Math -/
def k3 : Class := { plain "java/lang/Math" (some 0) with
  accessFlags := 49
  interfaces := #[]
  cf := some (fileOf pool3 1 #[.nestMembers #[98]] #[{ accessFlags := 2, nameIndex := 7, descriptorIndex := 8, attributes := #[] }, { accessFlags := 9, nameIndex := 201, descriptorIndex := 121, attributes := #[] }] 49 4 #[] #[{ accessFlags := 25, nameIndex := 354, descriptorIndex := 339, attributes := #[] }, { accessFlags := 25, nameIndex := 358, descriptorIndex := 339, attributes := #[] }, { accessFlags := 25, nameIndex := 361, descriptorIndex := 339, attributes := #[] }, { accessFlags := 26, nameIndex := 364, descriptorIndex := 339, attributes := #[] }, { accessFlags := 26, nameIndex := 365, descriptorIndex := 339, attributes := #[] }, { accessFlags := 26, nameIndex := 172, descriptorIndex := 173, attributes := #[] }, { accessFlags := 26, nameIndex := 176, descriptorIndex := 173, attributes := #[] }, { accessFlags := 8, nameIndex := 344, descriptorIndex := 339, attributes := #[] }, { accessFlags := 8, nameIndex := 338, descriptorIndex := 339, attributes := #[] }, { accessFlags := 4120, nameIndex := 245, descriptorIndex := 246, attributes := #[] }])
  fields := #[{ name := "E", type := .double, accessFlags := 25, slot := 0, constantValue := 0 }, { name := "PI", type := .double, accessFlags := 25, slot := 1, constantValue := 0 }, { name := "TAU", type := .double, accessFlags := 25, slot := 2, constantValue := 0 }, { name := "DEGREES_TO_RADIANS", type := .double, accessFlags := 26, slot := 3, constantValue := 0 }, { name := "RADIANS_TO_DEGREES", type := .double, accessFlags := 26, slot := 4, constantValue := 0 }, { name := "negativeZeroFloatBits", type := .long, accessFlags := 26, slot := 5, constantValue := 0 }, { name := "negativeZeroDoubleBits", type := .long, accessFlags := 26, slot := 6, constantValue := 0 }, { name := "twoToTheDoubleScaleUp", type := .double, accessFlags := 8, slot := 7, constantValue := 0 }, { name := "twoToTheDoubleScaleDown", type := .double, accessFlags := 8, slot := 8, constantValue := 0 }, { name := "$assertionsDisabled", type := .boolean, accessFlags := 4120, slot := 9, constantValue := 0 }]
  methods := #[k3m0, k3m1]
  instanceTypes := #[]
  staticTypes := #[.double, .double, .double, .double, .double, .long, .long, .double, .double, .boolean]
  resolved := Array.replicate 460 none
  statics := none }

def pool4 : Array CpInfo := pool [(1, u "java/lang/Cloneable"), (0, .class_ 1), (0, u "java/lang/Object"), (0, .class_ 3)] 3

/-- java/lang/Cloneable -/
def k4 : Class := { plain "java/lang/Cloneable" (some 0) with
  accessFlags := 1537
  interfaces := #[]
  cf := some (fileOf pool4 2 #[] #[] 1537 4 #[] #[])
  fields := #[]
  methods := #[]
  instanceTypes := #[]
  staticTypes := #[]
  resolved := Array.replicate 8 none
  statics := none }

def pool5 : Array CpInfo := pool [(1, u "java/io/Serializable"), (0, .class_ 1), (0, u "java/lang/Object"), (0, .class_ 3)] 3

/-- java/io/Serializable -/
def k5 : Class := { plain "java/io/Serializable" (some 0) with
  accessFlags := 1537
  interfaces := #[]
  cf := some (fileOf pool5 2 #[] #[] 1537 4 #[] #[])
  fields := #[]
  methods := #[]
  instanceTypes := #[]
  staticTypes := #[]
  resolved := Array.replicate 8 none
  statics := none }

/-- the primitive byte -/
def k6 : Class := { plain "byte" none with kind := .primitive 'B', accessFlags := 0x411 }
/-- [B -/
def k7 : Class := { plain "[B" (some 0) with kind := .array 6 .byte, interfaces := #[4, 5], accessFlags := 1041 }

def heap : Heap := #[]
def classes : Array Class := #[k0, k1, k2, k3, k4, k5, k6, k7]
def interned : List (Array UInt16 × Addr) := []
def slotsUsed : Nat := 0
def theMethod : MethodId := ⟨1, 1⟩
def args0 : Array Value := #[.int 5, .int 300, .int 7, .int 4]
def aboutOver (below : List Frame) : State where
  vm := { classes := classes, interned := interned.toArray }
  heap := heap
  slotsUsed := slotsUsed
  threads := #[{ frames := .invoking theMethod args0 :: below }]
def below0 : List Frame := [.native { method := ⟨0, 0⟩, args := #[] }]
def about1 : State := aboutOver below0
def p0 : Program := .bare "" "" ""
def e0 : Env := launch0.env 0 0 0
theorem w_frames : about1.frames = Frame.invoking theMethod args0 :: below0 := rfl
set_option maxRecDepth 65536 in
theorem w_args : argsFit about1.vm theMethod args0 = true := by decide +kernel
set_option maxRecDepth 65536 in
theorem w_heap : heapFits about1 = true := by decide +kernel
set_option maxRecDepth 65536 in
theorem w_runnable : about1.curStatus? = some .runnable := by decide +kernel
set_option maxRecDepth 65536 in
theorem w_alone : about1.alone = true := by decide +kernel
set_option maxRecDepth 65536 in
theorem w_named : about1.methodNamed? x = some theMethod := by decide +kernel
set_option maxRecDepth 65536 in
theorem w_hears : about1.hears theMethod below0 = true := by decide +kernel
set_option maxRecDepth 65536 in
theorem w_ripe : about1.ripe theMethod args0 below0 = true := by decide +kernel
theorem w_running : about1.status = .running := rfl
set_option maxRecDepth 65536 in
theorem w_room : about1.hasRoom e0.platform room_1 = true :=
  launch0.hasRoom_least _ room_1 (by decide +kernel) (by decide +kernel) (by decide +kernel) (by decide +kernel) (by decide +kernel) (by decide +kernel)
theorem allAtoms_all (ts : List Jvm.Cond) (a : Array Jvm.Value) (st : Jvm.State) : (allAtoms ts).before a st = ts.all (fun c => c.before a st) := by
  induction ts with
  | nil => rfl
  | cons c t ih =>
    show (Jvm.Cond.and c (allAtoms t)).before a st = _
    rw [Jvm.Cond.before_and, ih, List.all_cons]
def words1 : List Jvm.Cond := Jvm.Cond.code x code maxLocals ret :: tables_1
/-- a 'code' word, met by the world's own term for the bytes: nothing is compared byte by byte -/
theorem code_word {y : MethodName} {bytes : ByteArray} {mx : Nat} {rt : Option FieldType} {a : Array Value} {s : State} {m : MethodId} {meth : Method} {c : Code} (h1 : s.methodNamed? y = some m) (h2 : s.vm.method? m = some meth) (h3 : meth.code = some c) (h4 : c.code = bytes)
    (h5 : (c.maxLocals == mx && c.exceptionTable.isEmpty && decide (c.maxStack ≤ mostOperands) && decide (meth.sig.returnType = rt) && !meth.locks && decide (parseMethodDescriptor y.desc = some meth.sig)) = true) : (Jvm.Cond.code y bytes mx rt).before a s = true := by
  simp only [Bool.and_eq_true, beq_iff_eq, Bool.not_eq_true', decide_eq_true_eq] at h5
  obtain ⟨⟨⟨⟨⟨g1, g2⟩, g3⟩, g4⟩, g5⟩, g6⟩ := h5
  simp [Cond.before, Cond.holds, Cond.value, h1, h2, h3, h4, g1, g2, g3, g4, g5, g6]
def isCode : Jvm.Cond → Bool
  | .code _ _ _ _ => true
  | _ => false
theorem all_split {L : List Jvm.Cond} {P : Jvm.Cond → Bool} (h1 : L.all (fun c => isCode c || P c) = true) (h2 : ∀ c ∈ L.filter isCode, P c = true) : L.all P = true := by
  refine List.all_eq_true.mpr fun c hc => ?_
  have h := List.all_eq_true.mp h1 c hc
  rcases Bool.eq_false_or_eq_true (isCode c) with hi | hi
  · exact h2 c (List.mem_filter.mpr ⟨hc, hi⟩)
  · simpa [hi] using h
set_option maxRecDepth 65536 in
theorem w_c0 : (Jvm.Cond.code x code maxLocals ret).before args0 about1 = true := code_word (m := ⟨1, 1⟩) (meth := k1m1) (c := k1c1) (by decide +kernel) rfl rfl rfl (by decide +kernel)
set_option maxRecDepth 65536 in
theorem w_c1 : (Jvm.Cond.code ({ cls := "com/example/libmaybe/libmaybe/Pages", name := "offset", desc := "(JII)I" } : Jvm.MethodName) prog_27_method_5_code (4 : Nat) (Option.some Jvm.ClassFile.FieldType.int)).before args0 about1 = true := code_word (m := ⟨2, 1⟩) (meth := k2m1) (c := k2c1) (by decide +kernel) rfl rfl rfl (by decide +kernel)
set_option maxRecDepth 65536 in
theorem w_c2 : (Jvm.Cond.code ({ cls := "java/lang/Math", name := "min", desc := "(JJ)J" } : Jvm.MethodName) jdk_29_method_70_code (4 : Nat) (Option.some Jvm.ClassFile.FieldType.long)).before args0 about1 = true := code_word (m := ⟨3, 1⟩) (meth := k3m1) (c := k3c1) (by decide +kernel) rfl rfl rfl (by decide +kernel)
def codes1 : List Jvm.Cond := [Jvm.Cond.code x code maxLocals ret, Jvm.Cond.code ({ cls := "com/example/libmaybe/libmaybe/Pages", name := "offset", desc := "(JII)I" } : Jvm.MethodName) prog_27_method_5_code (4 : Nat) (Option.some Jvm.ClassFile.FieldType.int), Jvm.Cond.code ({ cls := "java/lang/Math", name := "min", desc := "(JJ)J" } : Jvm.MethodName) jdk_29_method_70_code (4 : Nat) (Option.some Jvm.ClassFile.FieldType.long)]
set_option maxRecDepth 65536 in
theorem codes_eq : words1.filter isCode = codes1 := rfl
theorem w_codes : ∀ c ∈ words1.filter isCode, c.before args0 about1 = true := by
  rw [codes_eq]
  intro c hc
  simp only [codes1, List.mem_cons, List.not_mem_nil, or_false] at hc
  rcases hc with rfl | rfl | rfl
  · exact w_c0
  · exact w_c1
  · exact w_c2
set_option maxRecDepth 65536 in
theorem w_t1 : words1.all (fun c => isCode c || c.before args0 about1) = true := by decide +kernel
theorem w_tables : (allAtoms (Jvm.Cond.code x code maxLocals ret :: tables_1)).before args0 about1 = true := by
  rw [allAtoms_all]
  show words1.all (fun c => c.before args0 about1) = true
  refine all_split ?_ w_codes
  rw [w_t1]
set_option maxRecDepth 65536 in
theorem w_case : (Jvm.Cond.and given_1 narrow_1).before args0 about1 = true := by decide +kernel
theorem w_applies : (headSpec (Jvm.Cond.code x code maxLocals ret :: tables_1) room_1).applies x e0.platform about1 = true :=
  (Spec.applies_iff w_frames).mpr ⟨w_running, w_runnable, w_alone, w_named, w_hears, w_ripe, w_room, w_tables⟩
theorem atStart : AtStart classFile x code maxLocals ret World_1 tables_1 room_1 Calls_1 rest_1 Pre_1 launch0 p0 e0 about1 theMethod args0 below0 :=
  ⟨lists_1, trivial, launch0.admits_env _ _ _, launch0.least_env, fairChoices_fair.cas, fairChoices_fair.clock, w_frames, w_args, w_heap, w_applies, trivial, trivial, w_case⟩
end start1
theorem witness_1 : WitnessClaimed_1 := ⟨start1.p0, start1.e0, start1.about1, start1.theMethod, start1.args0, start1.below0, start1.atStart⟩
end Jvm.Pilot.@@N@@
