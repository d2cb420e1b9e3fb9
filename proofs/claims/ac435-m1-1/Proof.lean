import JvmDerived
import JvmDerived.Pilot.@@N@@Statement
import JvmDerived.Pilot.@@N@@Code
set_option linter.unusedVariables false
set_option linter.unusedSimpArgs false
namespace Jvm.RoadKit
open Sem ClassFile Op Lib Jvm.Stand Jvm.Free Jvm.LawKit
section New
variable {p : Program} {l : Launch} {e : Env} {R : Room} {s : State} {m : MethodId} {args : Array Value} {below : List Frame} {meth : Method} {c : Code} {T : State} {locs : List Loc} {cells slots : Nat}
theorem retI (X : Stand p l e R s m args below meth c T locs cells slots) (hx : p.tables.exec = Jvm.exec) {pc : Nat} {Ls : Array Slot} {z : Int32} {rest : List Value} (hret : meth.sig.returnType = some .int) (hd : decode c.code pc = .ok (.ireturn, 1)) {fs : List Frame}
    (hl : ∀ (f : JFrame) (acts : List Action), f.method = m → f.locked = none → f.entered = [] → (doReturn e (T.setTop f) acts (some (.int z))).1 = T.setFrames fs) : Steps p.tables e below (T.setTop (mkF m pc Ls (.int z :: rest))) (T.setFrames fs) := by
  have hm' : T.vm.method? m = some meth := X.method'
  have hn : narrow .int (.int z) = .int z := rfl
  show Steps p.tables e below (T.setTop { method := m, pc := pc, locals := Ls, stack := _ :: rest, locked := none }) _
  jvm_step X.here [X.here.top, hx, hd, hm', hret, hn]
  first | (intro acts; rw [hl _ acts rfl rfl rfl]) | rw [hl _ _ rfl rfl rfl]
  exact Steps.refl _
end New
end Jvm.RoadKit
namespace Jvm.Pilot.@@N@@
open Jvm Jvm.ClassFile Sem Op Lib Jvm.Free Jvm.Stand Jvm.LawKit Jvm.RoadKit Bundle Jvm.Pilot.@@N@@.Jvm.D
theorem own_lmod (x y : Int64) (hx : 0 ≤ x.toInt) : (x % y).toInt = x.toInt % y.toInt := by
  rw [Int64.toInt_mod]; exact Int.tmod_eq_emod_of_nonneg hx
theorem own_imod (x y : Int32) (hx : 0 ≤ x.toInt) : (x % y).toInt = x.toInt % y.toInt := by
  rw [Int32.toInt_mod]; exact Int.tmod_eq_emod_of_nonneg hx
theorem own_lmod_rng (x y : Int64) (hx : 0 ≤ x.toInt) (hy : 0 < y.toInt) : 0 ≤ (x % y).toInt ∧ (x % y).toInt < y.toInt := by
  rw [own_lmod x y hx]; exact ⟨Int.emod_nonneg _ (by omega), Int.emod_lt_of_pos _ hy⟩
theorem own_imod_rng (x y : Int32) (hx : 0 ≤ x.toInt) (hy : 0 < y.toInt) : 0 ≤ (x % y).toInt ∧ (x % y).toInt < y.toInt := by
  rw [own_imod x y hx]; exact ⟨Int.emod_nonneg _ (by omega), Int.emod_lt_of_pos _ hy⟩
theorem own_mI (x : Int32) : 0 ≤ (x &&& (2147483647 : Int32)).toInt ∧ (x &&& (2147483647 : Int32)).toInt ≤ 2147483647 := by
  have h := c_and x 2147483647 (by decide)
  have e : (2147483647 : Int32).toInt = 2147483647 := by decide
  omega
theorem own_mL (x : Int64) : 0 ≤ (x &&& (9223372036854775807 : Int64)).toInt ∧ (x &&& (9223372036854775807 : Int64)).toInt ≤ 9223372036854775807 := by
  have h := (c_andSL x 9223372036854775807).2.2 (by decide)
  have := rng64 (x &&& (9223372036854775807 : Int64))
  omega
theorem own_nz32 {x : Int32} (h : 0 < x.toInt) : ¬ (x = (0 : Int32)) := fun e => by subst e; revert h; decide
theorem own_nz64 {x : Int64} (h : 0 < x.toInt) : ¬ (x = (0 : Int64)) := fun e => by subst e; revert h; decide
theorem own_lt32 {x y : Int32} : x < y ↔ x.toInt < y.toInt := Int32.lt_iff_toInt_lt
theorem own_lt64 {x y : Int64} : x < y ↔ x.toInt < y.toInt := Int64.lt_iff_toInt_lt
theorem own_eq32 {x y : Int32} (h : x.toInt = y.toInt) : x = y := Int32.toInt_inj.mp h
theorem own_eq64 {x y : Int64} (h : x.toInt = y.toInt) : x = y := Int64.toInt_inj.mp h
theorem d1_0 : decode prog_20_method_5_code 0 = .ok (.lload_n 2, 1) := by decide +kernel
theorem d1_1 : decode prog_20_method_5_code 1 = .ok (.lload_n 0, 1) := by decide +kernel
theorem d1_2 : decode prog_20_method_5_code 2 = .ok (.lsub, 1) := by decide +kernel
theorem d1_3 : decode prog_20_method_5_code 3 = .ok (.lload 4, 2) := by decide +kernel
theorem d1_5 : decode prog_20_method_5_code 5 = .ok (.lcmp, 1) := by decide +kernel
theorem d1_6 : decode prog_20_method_5_code 6 = .ok (.ifCond .le 7, 3) := by decide +kernel
theorem d1_13 : decode prog_20_method_5_code 13 = .ok (.iconst 0, 1) := by decide +kernel
theorem d1_14 : decode prog_20_method_5_code 14 = .ok (.ireturn, 1) := by decide +kernel
theorem d1_9 : decode prog_20_method_5_code 9 = .ok (.iconst 1, 1) := by decide +kernel
theorem d1_10 : decode prog_20_method_5_code 10 = .ok (.goto 4, 3) := by decide +kernel
theorem pn_org_everroll_Instants : plainName "org/everroll/Instants" = true := by first | (simp [plainName, overriddenIn]; done) | decide +kernel
theorem ef_1_JJJ (m : MethodId) (x0 : Int64) (x1 : Int64) (x2 : Int64) : entryFrame m #[(.long x0), (.long x1), (.long x2)] 6 = mkF m 0 #[.val (.long x0), .second, .val (.long x1), .second, .val (.long x2), .second] [] := by first | (simp [entryFrame, mkF, argsToLocals, Value.category]; done) | rfl
def f_older (q1 : Int64) (q2 : Int64) (q3 : Int64) : Int32 := (if q3 < (q2 - q1) then (1 : Int32) else (0 : Int32))
def Q_older (Z : State) (q1 : Int64) (q2 : Int64) (q3 : Int64) (h0 : Heap) (n0 : Nat) (v : Option Value) (h : Heap) (L : List Loc) : Prop := v = some (.int (f_older q1 q2 q3)) ∧ Fr n0 L ∧ h = h0
set_option maxRecDepth 65536 in
set_option maxHeartbeats 40000000 in
theorem rm_older_t (l : Launch) (Z : State) (a0 : Array Value) (hw : ∀ d ∈ tables_1, d.before a0 Z = true) (ws : List Jvm.Cond) (q1 : Int64) (q2 : Int64) (q3 : Int64) (h0 : Heap) (n0 : Nat) (Z0 : n0 ≤ h0.size) (hc0 : ¬ (q3 < (q2 - q1))) (hret : (f_older q1 q2 q3) = (0 : Int32)) :
    MetFree l (⟨"org/everroll/Instants", "olderThan", "(JJJ)Z"⟩ : MethodName) (head1 (Jvm.Cond.code (⟨"org/everroll/Instants", "olderThan", "(JJJ)Z"⟩ : MethodName) prog_20_method_5_code 6 (some .boolean) :: ws) ({ frames := 0, cells := 0, slots := 0, locals := 0 } : Room)) (fun a U => a = #[(.long q1), (.long q2), (.long q3)] ∧ Z.Warmed39 U.vm ∧ U.heap = h0) (fun _ _ _ _ _ => True) (fun _ U o U' => ∃ v L, o = .returned v ∧ Q_older Z q1 q2 q3 h0 n0 v U'.heap L ∧ FrameEnd U o U' L ({ frames := 0, cells := 0, slots := 0, locals := 0 } : Room).cells ({ frames := 0, cells := 0, slots := 0, locals := 0 } : Room).slots) := by
  refine MetFree.of_bodySF (plainFor_of_name pn_org_everroll_Instants) hisR ?_
  intro p e s m args below meth c s₁ Bd hml0 hP hK
  obtain ⟨rfl, hZ, hh⟩ := hP
  have hx := Bd.exec
  have hby := Bd.bytes
  have hml : c.maxLocals = 6 := hml0
  have hown : s.vm.findClass "org/everroll/Instants" = some m.cls := findClass_of_methodNamed Bd.named
  have hnm := (name_of_methodNamed Bd.named Bd.method).1
  have X0 : Stand p l e ({ frames := 0, cells := 0, slots := 0, locals := 0 } : Room) s m #[(.long q1), (.long q2), (.long q3)] below meth c s₁ [] 0 0 := Stand.of_body Bd
  have e0 : s₁.heap = h0 := by rw [← hh, Bd.state]; rfl
  have N0 := Fr.nil n0
  have pre0 : ∀ t, Steps p.tables e below (s₁.setTop (mkF m 0 #[.val (.long q1), .second, .val (.long q2), .second, .val (.long q3), .second] [])) t → Steps p.tables e below (s₁.setTop (entryFrame m #[(.long q1), (.long q2), (.long q3)] 6)) t := fun t k => castTop (ef_1_JJJ m q1 q2 q3) k
  obtain ⟨fs, hr, hrun, hended, hW, hsame⟩ := X0.leave (v := some (.int (0 : Int32))) (fun h => by rw [Bd.returns] at h; cases h)
  refine ⟨_, _, pre0 _ ?_, hrun, hended, _, _, rfl, ?_, ⟨_, rfl⟩, hW, hsame.mono (by decide) (by decide)⟩
  · show Steps p.tables e below (s₁.setTop (mkF m 0 #[.val (.long q1), .second, .val (.long q2), .second, .val (.long q3), .second] [])) _
    refine XS.lloadN X0.here hx rfl (hb hby d1_0) rfl ?_
    show Steps p.tables e below (s₁.setTop (mkF m 1 #[.val (.long q1), .second, .val (.long q2), .second, .val (.long q3), .second] [(.long q2)])) _
    refine XS.lloadN X0.here hx rfl (hb hby d1_1) rfl ?_
    show Steps p.tables e below (s₁.setTop (mkF m 2 #[.val (.long q1), .second, .val (.long q2), .second, .val (.long q3), .second] [(.long q1), (.long q2)])) _
    refine XS.lsub X0.here hx rfl (hb hby d1_2) rfl ?_
    show Steps p.tables e below (s₁.setTop (mkF m 3 #[.val (.long q1), .second, .val (.long q2), .second, .val (.long q3), .second] [(.long (q2 - q1))])) _
    refine XS.lload X0.here hx rfl (hb hby d1_3) rfl ?_
    show Steps p.tables e below (s₁.setTop (mkF m 5 #[.val (.long q1), .second, .val (.long q2), .second, .val (.long q3), .second] [(.long q3), (.long (q2 - q1))])) _
    refine XS.lcmp X0.here hx rfl (hb hby d1_5) rfl ?_
    show Steps p.tables e below (s₁.setTop (mkF m 6 #[.val (.long q1), .second, .val (.long q2), .second, .val (.long q3), .second] [(.int (lcmpW (q2 - q1) q3))])) _
    refine XS.ifYes X0.here hx rfl (pc0 := 6) (pc' := 13) rfl (hb hby d1_6) rfl ((if0 _ _).trans (flt (fun q => (hc0 : ¬ (q3 < (q2 - q1))) ((lw_gt _ _).mp q))).2.2.2) (by decide) (by decide) ?_
    show Steps p.tables e below (s₁.setTop (mkF m 13 #[.val (.long q1), .second, .val (.long q2), .second, .val (.long q3), .second] [])) _
    refine XS.iconst X0.here hx rfl (hb hby d1_13) ?_
    show Steps p.tables e below (s₁.setTop (mkF m 14 #[.val (.long q1), .second, .val (.long q2), .second, .val (.long q3), .second] [(.int (0 : Int32))])) _
    exact retN X0 hx (t := .boolean) Bd.returns (by simp) (hb hby d1_14) hr
  · show Q_older Z q1 q2 q3 h0 n0 _ s₁.heap _
    rw [e0]
    exact ⟨by rw [hret], N0, rfl⟩
set_option maxRecDepth 65536 in
set_option maxHeartbeats 40000000 in
theorem rm_older_f (l : Launch) (Z : State) (a0 : Array Value) (hw : ∀ d ∈ tables_1, d.before a0 Z = true) (ws : List Jvm.Cond) (q1 : Int64) (q2 : Int64) (q3 : Int64) (h0 : Heap) (n0 : Nat) (Z0 : n0 ≤ h0.size) (hc0 : q3 < (q2 - q1)) (hret : (f_older q1 q2 q3) = (1 : Int32)) :
    MetFree l (⟨"org/everroll/Instants", "olderThan", "(JJJ)Z"⟩ : MethodName) (head1 (Jvm.Cond.code (⟨"org/everroll/Instants", "olderThan", "(JJJ)Z"⟩ : MethodName) prog_20_method_5_code 6 (some .boolean) :: ws) ({ frames := 0, cells := 0, slots := 0, locals := 0 } : Room)) (fun a U => a = #[(.long q1), (.long q2), (.long q3)] ∧ Z.Warmed39 U.vm ∧ U.heap = h0) (fun _ _ _ _ _ => True) (fun _ U o U' => ∃ v L, o = .returned v ∧ Q_older Z q1 q2 q3 h0 n0 v U'.heap L ∧ FrameEnd U o U' L ({ frames := 0, cells := 0, slots := 0, locals := 0 } : Room).cells ({ frames := 0, cells := 0, slots := 0, locals := 0 } : Room).slots) := by
  refine MetFree.of_bodySF (plainFor_of_name pn_org_everroll_Instants) hisR ?_
  intro p e s m args below meth c s₁ Bd hml0 hP hK
  obtain ⟨rfl, hZ, hh⟩ := hP
  have hx := Bd.exec
  have hby := Bd.bytes
  have hml : c.maxLocals = 6 := hml0
  have hown : s.vm.findClass "org/everroll/Instants" = some m.cls := findClass_of_methodNamed Bd.named
  have hnm := (name_of_methodNamed Bd.named Bd.method).1
  have X0 : Stand p l e ({ frames := 0, cells := 0, slots := 0, locals := 0 } : Room) s m #[(.long q1), (.long q2), (.long q3)] below meth c s₁ [] 0 0 := Stand.of_body Bd
  have e0 : s₁.heap = h0 := by rw [← hh, Bd.state]; rfl
  have N0 := Fr.nil n0
  have pre0 : ∀ t, Steps p.tables e below (s₁.setTop (mkF m 0 #[.val (.long q1), .second, .val (.long q2), .second, .val (.long q3), .second] [])) t → Steps p.tables e below (s₁.setTop (entryFrame m #[(.long q1), (.long q2), (.long q3)] 6)) t := fun t k => castTop (ef_1_JJJ m q1 q2 q3) k
  obtain ⟨fs, hr, hrun, hended, hW, hsame⟩ := X0.leave (v := some (.int (1 : Int32))) (fun h => by rw [Bd.returns] at h; cases h)
  refine ⟨_, _, pre0 _ ?_, hrun, hended, _, _, rfl, ?_, ⟨_, rfl⟩, hW, hsame.mono (by decide) (by decide)⟩
  · show Steps p.tables e below (s₁.setTop (mkF m 0 #[.val (.long q1), .second, .val (.long q2), .second, .val (.long q3), .second] [])) _
    refine XS.lloadN X0.here hx rfl (hb hby d1_0) rfl ?_
    show Steps p.tables e below (s₁.setTop (mkF m 1 #[.val (.long q1), .second, .val (.long q2), .second, .val (.long q3), .second] [(.long q2)])) _
    refine XS.lloadN X0.here hx rfl (hb hby d1_1) rfl ?_
    show Steps p.tables e below (s₁.setTop (mkF m 2 #[.val (.long q1), .second, .val (.long q2), .second, .val (.long q3), .second] [(.long q1), (.long q2)])) _
    refine XS.lsub X0.here hx rfl (hb hby d1_2) rfl ?_
    show Steps p.tables e below (s₁.setTop (mkF m 3 #[.val (.long q1), .second, .val (.long q2), .second, .val (.long q3), .second] [(.long (q2 - q1))])) _
    refine XS.lload X0.here hx rfl (hb hby d1_3) rfl ?_
    show Steps p.tables e below (s₁.setTop (mkF m 5 #[.val (.long q1), .second, .val (.long q2), .second, .val (.long q3), .second] [(.long q3), (.long (q2 - q1))])) _
    refine XS.lcmp X0.here hx rfl (hb hby d1_5) rfl ?_
    show Steps p.tables e below (s₁.setTop (mkF m 6 #[.val (.long q1), .second, .val (.long q2), .second, .val (.long q3), .second] [(.int (lcmpW (q2 - q1) q3))])) _
    refine XS.ifNo X0.here hx rfl (hb hby d1_6) rfl ((if0 _ _).trans (tlt ((lw_gt _ _).mpr (hc0 : q3 < (q2 - q1)))).2.2.2) ?_
    show Steps p.tables e below (s₁.setTop (mkF m 9 #[.val (.long q1), .second, .val (.long q2), .second, .val (.long q3), .second] [])) _
    refine XS.iconst X0.here hx rfl (hb hby d1_9) ?_
    show Steps p.tables e below (s₁.setTop (mkF m 10 #[.val (.long q1), .second, .val (.long q2), .second, .val (.long q3), .second] [(.int (1 : Int32))])) _
    refine XS.goto X0.here hx rfl (pc0 := 10) (pc' := 14) rfl (hb hby d1_10) (by decide) (by decide) ?_
    show Steps p.tables e below (s₁.setTop (mkF m 14 #[.val (.long q1), .second, .val (.long q2), .second, .val (.long q3), .second] [(.int (1 : Int32))])) _
    exact retN X0 hx (t := .boolean) Bd.returns (by simp) (hb hby d1_14) hr
  · show Q_older Z q1 q2 q3 h0 n0 _ s₁.heap _
    rw [e0]
    exact ⟨by rw [hret], N0, rfl⟩
set_option maxRecDepth 65536 in
set_option maxHeartbeats 40000000 in
theorem rm_older (l : Launch) (Z : State) (a0 : Array Value) (hw : ∀ d ∈ tables_1, d.before a0 Z = true) (ws : List Jvm.Cond) (q1 : Int64) (q2 : Int64) (q3 : Int64) (h0 : Heap) (n0 : Nat) (Z0 : n0 ≤ h0.size) :
    MetFree l (⟨"org/everroll/Instants", "olderThan", "(JJJ)Z"⟩ : MethodName) (head1 (Jvm.Cond.code (⟨"org/everroll/Instants", "olderThan", "(JJJ)Z"⟩ : MethodName) prog_20_method_5_code 6 (some .boolean) :: ws) ({ frames := 0, cells := 0, slots := 0, locals := 0 } : Room)) (fun a U => a = #[(.long q1), (.long q2), (.long q3)] ∧ Z.Warmed39 U.vm ∧ U.heap = h0) (fun _ _ _ _ _ => True) (fun _ U o U' => ∃ v L, o = .returned v ∧ Q_older Z q1 q2 q3 h0 n0 v U'.heap L ∧ FrameEnd U o U' L ({ frames := 0, cells := 0, slots := 0, locals := 0 } : Room).cells ({ frames := 0, cells := 0, slots := 0, locals := 0 } : Room).slots) := by
  by_cases c0 : q3 < (q2 - q1)
  · skip
    exact rm_older_f l Z a0 hw ws q1 q2 q3 h0 n0 Z0  c0 (by unfold f_older; rw [if_pos c0])
  · skip
    exact rm_older_t l Z a0 hw ws q1 q2 q3 h0 n0 Z0  c0 (by unfold f_older; rw [if_neg c0])
def own_time (q1 : Int64) : Int64 := ((-62167219200000 : Int64) + ((q1 &&& (9223372036854775807 : Int64)) % (315569520000000 : Int64)))
def own_d (q1 : Int64) (q2 : Int64) : Int64 := ((q2 &&& (9223372036854775807 : Int64)) % (((253402300799999 : Int64) - (own_time q1)) + (1 : Int64)))
def own_inst (q1 : Int64) (q2 : Int64) : Int64 := ((own_time q1) + (own_d q1 q2))
def own_lim (q3 : Int64) : Int64 := (q3 &&& (9223372036854775807 : Int64))
theorem pd_0 : parseMethodDescriptor "(JJJ)Z" = some ⟨[.long, .long, .long], some .boolean⟩ := by decide +kernel
theorem pn_org_everroll_InstantsOlderThanPinLaw : plainName "org/everroll/InstantsOlderThanPinLaw" = true := by first | (simp [plainName, overriddenIn]; done) | decide +kernel
theorem ef_0_JJJ (m : MethodId) (x0 : Int64) (x1 : Int64) (x2 : Int64) : entryFrame m #[(.long x0), (.long x1), (.long x2)] maxLocals = mkF m 0 #[.val (.long x0), .second, .val (.long x1), .second, .val (.long x2), .second, .unset, .unset, .unset, .unset, .unset, .unset, .unset, .unset, .unset, .unset, .unset] [] := by first | (simp [entryFrame, mkF, argsToLocals, Value.category, maxLocals]; done) | rfl
def Q_law (Z : State) (q1 : Int64) (q2 : Int64) (q3 : Int64) (h0 : Heap) (n0 : Nat) (v : Option Value) (h : Heap) (L : List Loc) : Prop := v = some (.int (1 : Int32)) ∧ Fr n0 L
def Road_tttt (q1 : Int64) (q2 : Int64) (q3 : Int64) : Prop := (¬ ((((253402300799999 : Int64) - (own_time q1)) + (1 : Int64)) = (0 : Int64))) ∧ ((own_lim q3) < (own_d q1 q2)) ∧ ((f_older (own_time q1) (own_inst q1 q2) (own_lim q3)) = (1 : Int32)) ∧ ((f_older (own_time q1) (own_inst q1 q2) (own_d q1 q2)) = (0 : Int32)) ∧ ((own_d q1 q2) < (1 : Int64))
set_option maxRecDepth 65536 in
set_option maxHeartbeats 40000000 in
theorem rm_law_tttt (l : Launch) (Z : State) (a0 : Array Value) (hw : ∀ d ∈ tables_1, d.before a0 Z = true) (ws : List Jvm.Cond) (q1 : Int64) (q2 : Int64) (q3 : Int64) (h0 : Heap) (n0 : Nat) (Z0 : n0 ≤ h0.size) (hroad : Road_tttt q1 q2 q3) :
    MetFree l x (head1 (Jvm.Cond.code x code maxLocals ret :: ws) room_1) (fun a U => a = #[(.long q1), (.long q2), (.long q3)] ∧ Z.Warmed39 U.vm ∧ U.heap = h0) (fun _ _ _ _ _ => True) (fun _ U o U' => ∃ v L, o = .returned v ∧ Q_law Z q1 q2 q3 h0 n0 v U'.heap L ∧ FrameEnd U o U' L room_1.cells room_1.slots) := by
  obtain ⟨hnz0, hc0, hc1, hc2, hc3⟩ := hroad
  refine MetFree.of_bodySF (plainFor_of_name pn_org_everroll_InstantsOlderThanPinLaw) hisR ?_
  intro p e s m args below meth c s₁ Bd hml0 hP hK
  obtain ⟨rfl, hZ, hh⟩ := hP
  have hx := Bd.exec
  have hby := Bd.bytes
  have hml : c.maxLocals = 17 := hml0
  have hown : s.vm.findClass "org/everroll/InstantsOlderThanPinLaw" = some m.cls := findClass_of_methodNamed Bd.named
  have hnm := (name_of_methodNamed Bd.named Bd.method).1
  have X0 : Stand p l e room_1 s m #[(.long q1), (.long q2), (.long q3)] below meth c s₁ [] 0 0 := Stand.of_body Bd
  have e0 : s₁.heap = h0 := by rw [← hh, Bd.state]; rfl
  have N0 := Fr.nil n0
  have pre0 : ∀ t, Steps p.tables e below (s₁.setTop (mkF m 0 #[.val (.long q1), .second, .val (.long q2), .second, .val (.long q3), .second, .unset, .unset, .unset, .unset, .unset, .unset, .unset, .unset, .unset, .unset, .unset] [])) t → Steps p.tables e below (s₁.setTop (entryFrame m #[(.long q1), (.long q2), (.long q3)] maxLocals)) t := fun t k => castTop (ef_0_JJJ m q1 q2 q3) k
  obtain ⟨_, _, ⟨T1, L1, k1, n1⟩, -, X1, ⟨Lc1, hQ1, l1, y1, z1⟩, st1⟩ := Jvm.LawKit.callS X0 hx (y := (⟨"org/everroll/Instants", "olderThan", "(JJJ)Z"⟩ : MethodName)) hown (mvT hZ (hw _ (List.mem_of_getElem? (i := 4) rfl))) (mvT hZ (hw _ (List.mem_of_getElem? (i := 5) rfl))) (mvT hZ (hw _ (List.mem_of_getElem? (i := 6) rfl))) (mvT hZ (hw _ (List.mem_of_getElem? (i := 7) rfl))) (by decide) (backOf (W := 0) (rm_older l Z a0 hw [] (own_time q1) (own_inst q1 q2) (own_lim q3) h0 n0 Z0 ) hZ (hw _ (List.mem_of_getElem? (i := 7) rfl)) (hw _ (List.mem_of_getElem? (i := 6) rfl)) (by decide) (by decide)) (g := (mkF m 75 #[.val (.long q1), .second, .val (.long q2), .second, .val (.long q3), .second, .val (.long (315569519999999 : Int64)), .second, .val (.long (own_time q1)), .second, .val (.long (own_d q1 q2)), .second, .val (.long (own_inst q1 q2)), .second, .val (.long (own_lim q3)), .second, .val (.int (1 : Int32))] [(.long (own_lim q3)), (.long (own_inst q1 q2)), (.long (own_time q1))])) rfl (by rw [hml]; rfl) (argsL := [(.long (own_time q1)), (.long (own_inst q1 q2)), (.long (own_lim q3))]) (rest := []) (lenOf pd_0 rfl) rfl (by show 2 * 0 + _ ≤ _; exact Nat.le_of_eq rfl) (hb hby at_75) (fun _ _ => ⟨rfl, e0, (by decide : 0 + 0 ≤ _), (by decide : 0 + 0 ≤ _)⟩)
  dsimp only [Pt.U, Pt.locs, Pt.cells, Pt.slots] at X1 l1 y1 z1 st1 hQ1
  subst l1 y1 z1
  obtain ⟨rfl, Nq1, e1⟩ := hQ1
  have N2 := Fr.app N0 Nq1
  obtain ⟨_, _, ⟨T3, L3, k3, n3⟩, -, X3, ⟨Lc3, hQ3, l3, y3, z3⟩, st3⟩ := Jvm.LawKit.callS X1 hx (y := (⟨"org/everroll/Instants", "olderThan", "(JJJ)Z"⟩ : MethodName)) hown (mvT hZ (hw _ (List.mem_of_getElem? (i := 4) rfl))) (mvT hZ (hw _ (List.mem_of_getElem? (i := 5) rfl))) (mvT hZ (hw _ (List.mem_of_getElem? (i := 6) rfl))) (mvT hZ (hw _ (List.mem_of_getElem? (i := 7) rfl))) (by decide) (backOf (W := 0) (rm_older l Z a0 hw [] (own_time q1) (own_inst q1 q2) (own_d q1 q2) h0 n0 Z0 ) hZ (hw _ (List.mem_of_getElem? (i := 7) rfl)) (hw _ (List.mem_of_getElem? (i := 6) rfl)) (by decide) (by decide)) (g := (mkF m 91 #[.val (.long q1), .second, .val (.long q2), .second, .val (.long q3), .second, .val (.long (315569519999999 : Int64)), .second, .val (.long (own_time q1)), .second, .val (.long (own_d q1 q2)), .second, .val (.long (own_inst q1 q2)), .second, .val (.long (own_lim q3)), .second, .val (.int (1 : Int32))] [(.long (own_d q1 q2)), (.long (own_inst q1 q2)), (.long (own_time q1))])) rfl (by rw [hml]; rfl) (argsL := [(.long (own_time q1)), (.long (own_inst q1 q2)), (.long (own_d q1 q2))]) (rest := []) (lenOf pd_0 rfl) rfl (by show 2 * 0 + _ ≤ _; exact Nat.le_of_eq rfl) (hb hby at_91) (fun _ _ => ⟨rfl, e1, (by decide : 0 + 0 ≤ _), (by decide : 0 + 0 ≤ _)⟩)
  dsimp only [Pt.U, Pt.locs, Pt.cells, Pt.slots] at X3 l3 y3 z3 st3 hQ3
  subst l3 y3 z3
  obtain ⟨rfl, Nq3, e3⟩ := hQ3
  have N4 := Fr.app N2 Nq3
  obtain ⟨fs, hr, hrun, hended, hW, hsame⟩ := X3.leave (v := some (.int (1 : Int32))) (fun h => by rw [Bd.returns] at h; cases h)
  refine ⟨_, _, pre0 _ ?_, hrun, hended, _, _, rfl, ?_, ⟨_, rfl⟩, hW, hsame.mono (by decide) (by decide)⟩
  · show Steps p.tables e below (s₁.setTop (mkF m 0 #[.val (.long q1), .second, .val (.long q2), .second, .val (.long q3), .second, .unset, .unset, .unset, .unset, .unset, .unset, .unset, .unset, .unset, .unset, .unset] [])) _
    refine X0.ldc2Long hx hown (mvT hZ (hw _ (List.mem_of_getElem? (i := 0) rfl))) (g := (mkF m 0 #[.val (.long q1), .second, .val (.long q2), .second, .val (.long q3), .second, .unset, .unset, .unset, .unset, .unset, .unset, .unset, .unset, .unset, .unset, .unset] [])) rfl (hb hby at_0) _ ?_
    show Steps p.tables e below (s₁.setTop (mkF m 3 #[.val (.long q1), .second, .val (.long q2), .second, .val (.long q3), .second, .unset, .unset, .unset, .unset, .unset, .unset, .unset, .unset, .unset, .unset, .unset] [(.long (315569519999999 : Int64))])) _
    refine XS.lstore X0.here hx rfl (hb hby at_3) rfl (l' := #[.val (.long q1), .second, .val (.long q2), .second, .val (.long q3), .second, .val (.long (315569519999999 : Int64)), .second, .unset, .unset, .unset, .unset, .unset, .unset, .unset, .unset, .unset]) rfl ?_
    show Steps p.tables e below (s₁.setTop (mkF m 5 #[.val (.long q1), .second, .val (.long q2), .second, .val (.long q3), .second, .val (.long (315569519999999 : Int64)), .second, .unset, .unset, .unset, .unset, .unset, .unset, .unset, .unset, .unset] [])) _
    refine X0.ldc2Long hx hown (mvT hZ (hw _ (List.mem_of_getElem? (i := 1) rfl))) (g := (mkF m 5 #[.val (.long q1), .second, .val (.long q2), .second, .val (.long q3), .second, .val (.long (315569519999999 : Int64)), .second, .unset, .unset, .unset, .unset, .unset, .unset, .unset, .unset, .unset] [])) rfl (hb hby at_5) _ ?_
    show Steps p.tables e below (s₁.setTop (mkF m 8 #[.val (.long q1), .second, .val (.long q2), .second, .val (.long q3), .second, .val (.long (315569519999999 : Int64)), .second, .unset, .unset, .unset, .unset, .unset, .unset, .unset, .unset, .unset] [(.long (-62167219200000 : Int64))])) _
    refine XS.lloadN X0.here hx rfl (hb hby at_8) rfl ?_
    show Steps p.tables e below (s₁.setTop (mkF m 9 #[.val (.long q1), .second, .val (.long q2), .second, .val (.long q3), .second, .val (.long (315569519999999 : Int64)), .second, .unset, .unset, .unset, .unset, .unset, .unset, .unset, .unset, .unset] [(.long q1), (.long (-62167219200000 : Int64))])) _
    refine X0.ldc2Long hx hown (mvT hZ (hw _ (List.mem_of_getElem? (i := 2) rfl))) (g := (mkF m 9 #[.val (.long q1), .second, .val (.long q2), .second, .val (.long q3), .second, .val (.long (315569519999999 : Int64)), .second, .unset, .unset, .unset, .unset, .unset, .unset, .unset, .unset, .unset] [(.long q1), (.long (-62167219200000 : Int64))])) rfl (hb hby at_9) _ ?_
    show Steps p.tables e below (s₁.setTop (mkF m 12 #[.val (.long q1), .second, .val (.long q2), .second, .val (.long q3), .second, .val (.long (315569519999999 : Int64)), .second, .unset, .unset, .unset, .unset, .unset, .unset, .unset, .unset, .unset] [(.long (9223372036854775807 : Int64)), (.long q1), (.long (-62167219200000 : Int64))])) _
    refine XS.land X0.here hx rfl (hb hby at_12) rfl ?_
    show Steps p.tables e below (s₁.setTop (mkF m 13 #[.val (.long q1), .second, .val (.long q2), .second, .val (.long q3), .second, .val (.long (315569519999999 : Int64)), .second, .unset, .unset, .unset, .unset, .unset, .unset, .unset, .unset, .unset] [(.long (q1 &&& (9223372036854775807 : Int64))), (.long (-62167219200000 : Int64))])) _
    refine XS.lload X0.here hx rfl (hb hby at_13) rfl ?_
    show Steps p.tables e below (s₁.setTop (mkF m 15 #[.val (.long q1), .second, .val (.long q2), .second, .val (.long q3), .second, .val (.long (315569519999999 : Int64)), .second, .unset, .unset, .unset, .unset, .unset, .unset, .unset, .unset, .unset] [(.long (315569519999999 : Int64)), (.long (q1 &&& (9223372036854775807 : Int64))), (.long (-62167219200000 : Int64))])) _
    refine XS.lconst X0.here hx rfl (hb hby at_15) ?_
    show Steps p.tables e below (s₁.setTop (mkF m 16 #[.val (.long q1), .second, .val (.long q2), .second, .val (.long q3), .second, .val (.long (315569519999999 : Int64)), .second, .unset, .unset, .unset, .unset, .unset, .unset, .unset, .unset, .unset] [(.long (1 : Int64)), (.long (315569519999999 : Int64)), (.long (q1 &&& (9223372036854775807 : Int64))), (.long (-62167219200000 : Int64))])) _
    refine XS.ladd X0.here hx rfl (hb hby at_16) rfl ?_
    show Steps p.tables e below (s₁.setTop (mkF m 17 #[.val (.long q1), .second, .val (.long q2), .second, .val (.long q3), .second, .val (.long (315569519999999 : Int64)), .second, .unset, .unset, .unset, .unset, .unset, .unset, .unset, .unset, .unset] [(.long (315569520000000 : Int64)), (.long (q1 &&& (9223372036854775807 : Int64))), (.long (-62167219200000 : Int64))])) _
    refine XS.lrem X0.here hx rfl (hb hby at_17) rfl (by decide) ?_
    rw [lrem_mod]
    show Steps p.tables e below (s₁.setTop (mkF m 18 #[.val (.long q1), .second, .val (.long q2), .second, .val (.long q3), .second, .val (.long (315569519999999 : Int64)), .second, .unset, .unset, .unset, .unset, .unset, .unset, .unset, .unset, .unset] [(.long ((q1 &&& (9223372036854775807 : Int64)) % (315569520000000 : Int64))), (.long (-62167219200000 : Int64))])) _
    refine XS.ladd X0.here hx rfl (hb hby at_18) rfl ?_
    show Steps p.tables e below (s₁.setTop (mkF m 19 #[.val (.long q1), .second, .val (.long q2), .second, .val (.long q3), .second, .val (.long (315569519999999 : Int64)), .second, .unset, .unset, .unset, .unset, .unset, .unset, .unset, .unset, .unset] [(.long ((-62167219200000 : Int64) + ((q1 &&& (9223372036854775807 : Int64)) % (315569520000000 : Int64))))])) _
    refine XS.lstore X0.here hx rfl (hb hby at_19) rfl (l' := #[.val (.long q1), .second, .val (.long q2), .second, .val (.long q3), .second, .val (.long (315569519999999 : Int64)), .second, .val (.long (own_time q1)), .second, .unset, .unset, .unset, .unset, .unset, .unset, .unset]) rfl ?_
    show Steps p.tables e below (s₁.setTop (mkF m 21 #[.val (.long q1), .second, .val (.long q2), .second, .val (.long q3), .second, .val (.long (315569519999999 : Int64)), .second, .val (.long (own_time q1)), .second, .unset, .unset, .unset, .unset, .unset, .unset, .unset] [])) _
    refine XS.lloadN X0.here hx rfl (hb hby at_21) rfl ?_
    show Steps p.tables e below (s₁.setTop (mkF m 22 #[.val (.long q1), .second, .val (.long q2), .second, .val (.long q3), .second, .val (.long (315569519999999 : Int64)), .second, .val (.long (own_time q1)), .second, .unset, .unset, .unset, .unset, .unset, .unset, .unset] [(.long q2)])) _
    refine X0.ldc2Long hx hown (mvT hZ (hw _ (List.mem_of_getElem? (i := 2) rfl))) (g := (mkF m 22 #[.val (.long q1), .second, .val (.long q2), .second, .val (.long q3), .second, .val (.long (315569519999999 : Int64)), .second, .val (.long (own_time q1)), .second, .unset, .unset, .unset, .unset, .unset, .unset, .unset] [(.long q2)])) rfl (hb hby at_22) _ ?_
    show Steps p.tables e below (s₁.setTop (mkF m 25 #[.val (.long q1), .second, .val (.long q2), .second, .val (.long q3), .second, .val (.long (315569519999999 : Int64)), .second, .val (.long (own_time q1)), .second, .unset, .unset, .unset, .unset, .unset, .unset, .unset] [(.long (9223372036854775807 : Int64)), (.long q2)])) _
    refine XS.land X0.here hx rfl (hb hby at_25) rfl ?_
    show Steps p.tables e below (s₁.setTop (mkF m 26 #[.val (.long q1), .second, .val (.long q2), .second, .val (.long q3), .second, .val (.long (315569519999999 : Int64)), .second, .val (.long (own_time q1)), .second, .unset, .unset, .unset, .unset, .unset, .unset, .unset] [(.long (q2 &&& (9223372036854775807 : Int64)))])) _
    refine X0.ldc2Long hx hown (mvT hZ (hw _ (List.mem_of_getElem? (i := 3) rfl))) (g := (mkF m 26 #[.val (.long q1), .second, .val (.long q2), .second, .val (.long q3), .second, .val (.long (315569519999999 : Int64)), .second, .val (.long (own_time q1)), .second, .unset, .unset, .unset, .unset, .unset, .unset, .unset] [(.long (q2 &&& (9223372036854775807 : Int64)))])) rfl (hb hby at_26) _ ?_
    show Steps p.tables e below (s₁.setTop (mkF m 29 #[.val (.long q1), .second, .val (.long q2), .second, .val (.long q3), .second, .val (.long (315569519999999 : Int64)), .second, .val (.long (own_time q1)), .second, .unset, .unset, .unset, .unset, .unset, .unset, .unset] [(.long (253402300799999 : Int64)), (.long (q2 &&& (9223372036854775807 : Int64)))])) _
    refine XS.lload X0.here hx rfl (hb hby at_29) rfl ?_
    show Steps p.tables e below (s₁.setTop (mkF m 31 #[.val (.long q1), .second, .val (.long q2), .second, .val (.long q3), .second, .val (.long (315569519999999 : Int64)), .second, .val (.long (own_time q1)), .second, .unset, .unset, .unset, .unset, .unset, .unset, .unset] [(.long (own_time q1)), (.long (253402300799999 : Int64)), (.long (q2 &&& (9223372036854775807 : Int64)))])) _
    refine XS.lsub X0.here hx rfl (hb hby at_31) rfl ?_
    show Steps p.tables e below (s₁.setTop (mkF m 32 #[.val (.long q1), .second, .val (.long q2), .second, .val (.long q3), .second, .val (.long (315569519999999 : Int64)), .second, .val (.long (own_time q1)), .second, .unset, .unset, .unset, .unset, .unset, .unset, .unset] [(.long ((253402300799999 : Int64) - (own_time q1))), (.long (q2 &&& (9223372036854775807 : Int64)))])) _
    refine XS.lconst X0.here hx rfl (hb hby at_32) ?_
    show Steps p.tables e below (s₁.setTop (mkF m 33 #[.val (.long q1), .second, .val (.long q2), .second, .val (.long q3), .second, .val (.long (315569519999999 : Int64)), .second, .val (.long (own_time q1)), .second, .unset, .unset, .unset, .unset, .unset, .unset, .unset] [(.long (1 : Int64)), (.long ((253402300799999 : Int64) - (own_time q1))), (.long (q2 &&& (9223372036854775807 : Int64)))])) _
    refine XS.ladd X0.here hx rfl (hb hby at_33) rfl ?_
    show Steps p.tables e below (s₁.setTop (mkF m 34 #[.val (.long q1), .second, .val (.long q2), .second, .val (.long q3), .second, .val (.long (315569519999999 : Int64)), .second, .val (.long (own_time q1)), .second, .unset, .unset, .unset, .unset, .unset, .unset, .unset] [(.long (((253402300799999 : Int64) - (own_time q1)) + (1 : Int64))), (.long (q2 &&& (9223372036854775807 : Int64)))])) _
    refine XS.lrem X0.here hx rfl (hb hby at_34) rfl hnz0 ?_
    rw [lrem_mod]
    show Steps p.tables e below (s₁.setTop (mkF m 35 #[.val (.long q1), .second, .val (.long q2), .second, .val (.long q3), .second, .val (.long (315569519999999 : Int64)), .second, .val (.long (own_time q1)), .second, .unset, .unset, .unset, .unset, .unset, .unset, .unset] [(.long ((q2 &&& (9223372036854775807 : Int64)) % (((253402300799999 : Int64) - (own_time q1)) + (1 : Int64))))])) _
    refine XS.lstore X0.here hx rfl (hb hby at_35) rfl (l' := #[.val (.long q1), .second, .val (.long q2), .second, .val (.long q3), .second, .val (.long (315569519999999 : Int64)), .second, .val (.long (own_time q1)), .second, .val (.long (own_d q1 q2)), .second, .unset, .unset, .unset, .unset, .unset]) rfl ?_
    show Steps p.tables e below (s₁.setTop (mkF m 37 #[.val (.long q1), .second, .val (.long q2), .second, .val (.long q3), .second, .val (.long (315569519999999 : Int64)), .second, .val (.long (own_time q1)), .second, .val (.long (own_d q1 q2)), .second, .unset, .unset, .unset, .unset, .unset] [])) _
    refine XS.lload X0.here hx rfl (hb hby at_37) rfl ?_
    show Steps p.tables e below (s₁.setTop (mkF m 39 #[.val (.long q1), .second, .val (.long q2), .second, .val (.long q3), .second, .val (.long (315569519999999 : Int64)), .second, .val (.long (own_time q1)), .second, .val (.long (own_d q1 q2)), .second, .unset, .unset, .unset, .unset, .unset] [(.long (own_time q1))])) _
    refine XS.lload X0.here hx rfl (hb hby at_39) rfl ?_
    show Steps p.tables e below (s₁.setTop (mkF m 41 #[.val (.long q1), .second, .val (.long q2), .second, .val (.long q3), .second, .val (.long (315569519999999 : Int64)), .second, .val (.long (own_time q1)), .second, .val (.long (own_d q1 q2)), .second, .unset, .unset, .unset, .unset, .unset] [(.long (own_d q1 q2)), (.long (own_time q1))])) _
    refine XS.ladd X0.here hx rfl (hb hby at_41) rfl ?_
    show Steps p.tables e below (s₁.setTop (mkF m 42 #[.val (.long q1), .second, .val (.long q2), .second, .val (.long q3), .second, .val (.long (315569519999999 : Int64)), .second, .val (.long (own_time q1)), .second, .val (.long (own_d q1 q2)), .second, .unset, .unset, .unset, .unset, .unset] [(.long ((own_time q1) + (own_d q1 q2)))])) _
    refine XS.lstore X0.here hx rfl (hb hby at_42) rfl (l' := #[.val (.long q1), .second, .val (.long q2), .second, .val (.long q3), .second, .val (.long (315569519999999 : Int64)), .second, .val (.long (own_time q1)), .second, .val (.long (own_d q1 q2)), .second, .val (.long (own_inst q1 q2)), .second, .unset, .unset, .unset]) rfl ?_
    show Steps p.tables e below (s₁.setTop (mkF m 44 #[.val (.long q1), .second, .val (.long q2), .second, .val (.long q3), .second, .val (.long (315569519999999 : Int64)), .second, .val (.long (own_time q1)), .second, .val (.long (own_d q1 q2)), .second, .val (.long (own_inst q1 q2)), .second, .unset, .unset, .unset] [])) _
    refine XS.lload X0.here hx rfl (hb hby at_44) rfl ?_
    show Steps p.tables e below (s₁.setTop (mkF m 46 #[.val (.long q1), .second, .val (.long q2), .second, .val (.long q3), .second, .val (.long (315569519999999 : Int64)), .second, .val (.long (own_time q1)), .second, .val (.long (own_d q1 q2)), .second, .val (.long (own_inst q1 q2)), .second, .unset, .unset, .unset] [(.long q3)])) _
    refine X0.ldc2Long hx hown (mvT hZ (hw _ (List.mem_of_getElem? (i := 2) rfl))) (g := (mkF m 46 #[.val (.long q1), .second, .val (.long q2), .second, .val (.long q3), .second, .val (.long (315569519999999 : Int64)), .second, .val (.long (own_time q1)), .second, .val (.long (own_d q1 q2)), .second, .val (.long (own_inst q1 q2)), .second, .unset, .unset, .unset] [(.long q3)])) rfl (hb hby at_46) _ ?_
    show Steps p.tables e below (s₁.setTop (mkF m 49 #[.val (.long q1), .second, .val (.long q2), .second, .val (.long q3), .second, .val (.long (315569519999999 : Int64)), .second, .val (.long (own_time q1)), .second, .val (.long (own_d q1 q2)), .second, .val (.long (own_inst q1 q2)), .second, .unset, .unset, .unset] [(.long (9223372036854775807 : Int64)), (.long q3)])) _
    refine XS.land X0.here hx rfl (hb hby at_49) rfl ?_
    show Steps p.tables e below (s₁.setTop (mkF m 50 #[.val (.long q1), .second, .val (.long q2), .second, .val (.long q3), .second, .val (.long (315569519999999 : Int64)), .second, .val (.long (own_time q1)), .second, .val (.long (own_d q1 q2)), .second, .val (.long (own_inst q1 q2)), .second, .unset, .unset, .unset] [(.long (q3 &&& (9223372036854775807 : Int64)))])) _
    refine XS.lstore X0.here hx rfl (hb hby at_50) rfl (l' := #[.val (.long q1), .second, .val (.long q2), .second, .val (.long q3), .second, .val (.long (315569519999999 : Int64)), .second, .val (.long (own_time q1)), .second, .val (.long (own_d q1 q2)), .second, .val (.long (own_inst q1 q2)), .second, .val (.long (own_lim q3)), .second, .unset]) rfl ?_
    show Steps p.tables e below (s₁.setTop (mkF m 52 #[.val (.long q1), .second, .val (.long q2), .second, .val (.long q3), .second, .val (.long (315569519999999 : Int64)), .second, .val (.long (own_time q1)), .second, .val (.long (own_d q1 q2)), .second, .val (.long (own_inst q1 q2)), .second, .val (.long (own_lim q3)), .second, .unset] [])) _
    refine XS.lload X0.here hx rfl (hb hby at_52) rfl ?_
    show Steps p.tables e below (s₁.setTop (mkF m 54 #[.val (.long q1), .second, .val (.long q2), .second, .val (.long q3), .second, .val (.long (315569519999999 : Int64)), .second, .val (.long (own_time q1)), .second, .val (.long (own_d q1 q2)), .second, .val (.long (own_inst q1 q2)), .second, .val (.long (own_lim q3)), .second, .unset] [(.long (own_lim q3))])) _
    refine XS.lload X0.here hx rfl (hb hby at_54) rfl ?_
    show Steps p.tables e below (s₁.setTop (mkF m 56 #[.val (.long q1), .second, .val (.long q2), .second, .val (.long q3), .second, .val (.long (315569519999999 : Int64)), .second, .val (.long (own_time q1)), .second, .val (.long (own_d q1 q2)), .second, .val (.long (own_inst q1 q2)), .second, .val (.long (own_lim q3)), .second, .unset] [(.long (own_d q1 q2)), (.long (own_lim q3))])) _
    refine XS.lcmp X0.here hx rfl (hb hby at_56) rfl ?_
    show Steps p.tables e below (s₁.setTop (mkF m 57 #[.val (.long q1), .second, .val (.long q2), .second, .val (.long q3), .second, .val (.long (315569519999999 : Int64)), .second, .val (.long (own_time q1)), .second, .val (.long (own_d q1 q2)), .second, .val (.long (own_inst q1 q2)), .second, .val (.long (own_lim q3)), .second, .unset] [(.int (lcmpW (own_lim q3) (own_d q1 q2)))])) _
    refine XS.ifYes X0.here hx rfl (pc0 := 57) (pc' := 66) rfl (hb hby at_57) rfl ((if0 _ _).trans (tlt ((lw_lt _ _).mpr (hc0 : (own_lim q3) < (own_d q1 q2)))).1) (by decide) (by decide) ?_
    show Steps p.tables e below (s₁.setTop (mkF m 66 #[.val (.long q1), .second, .val (.long q2), .second, .val (.long q3), .second, .val (.long (315569519999999 : Int64)), .second, .val (.long (own_time q1)), .second, .val (.long (own_d q1 q2)), .second, .val (.long (own_inst q1 q2)), .second, .val (.long (own_lim q3)), .second, .unset] [])) _
    refine XS.iconst X0.here hx rfl (hb hby at_66) ?_
    show Steps p.tables e below (s₁.setTop (mkF m 67 #[.val (.long q1), .second, .val (.long q2), .second, .val (.long q3), .second, .val (.long (315569519999999 : Int64)), .second, .val (.long (own_time q1)), .second, .val (.long (own_d q1 q2)), .second, .val (.long (own_inst q1 q2)), .second, .val (.long (own_lim q3)), .second, .unset] [(.int (1 : Int32))])) _
    refine XS.istore X0.here hx rfl (hb hby at_67) rfl (l' := #[.val (.long q1), .second, .val (.long q2), .second, .val (.long q3), .second, .val (.long (315569519999999 : Int64)), .second, .val (.long (own_time q1)), .second, .val (.long (own_d q1 q2)), .second, .val (.long (own_inst q1 q2)), .second, .val (.long (own_lim q3)), .second, .val (.int (1 : Int32))]) rfl ?_
    show Steps p.tables e below (s₁.setTop (mkF m 69 #[.val (.long q1), .second, .val (.long q2), .second, .val (.long q3), .second, .val (.long (315569519999999 : Int64)), .second, .val (.long (own_time q1)), .second, .val (.long (own_d q1 q2)), .second, .val (.long (own_inst q1 q2)), .second, .val (.long (own_lim q3)), .second, .val (.int (1 : Int32))] [])) _
    refine XS.lload X0.here hx rfl (hb hby at_69) rfl ?_
    show Steps p.tables e below (s₁.setTop (mkF m 71 #[.val (.long q1), .second, .val (.long q2), .second, .val (.long q3), .second, .val (.long (315569519999999 : Int64)), .second, .val (.long (own_time q1)), .second, .val (.long (own_d q1 q2)), .second, .val (.long (own_inst q1 q2)), .second, .val (.long (own_lim q3)), .second, .val (.int (1 : Int32))] [(.long (own_time q1))])) _
    refine XS.lload X0.here hx rfl (hb hby at_71) rfl ?_
    show Steps p.tables e below (s₁.setTop (mkF m 73 #[.val (.long q1), .second, .val (.long q2), .second, .val (.long q3), .second, .val (.long (315569519999999 : Int64)), .second, .val (.long (own_time q1)), .second, .val (.long (own_d q1 q2)), .second, .val (.long (own_inst q1 q2)), .second, .val (.long (own_lim q3)), .second, .val (.int (1 : Int32))] [(.long (own_inst q1 q2)), (.long (own_time q1))])) _
    refine XS.lload X0.here hx rfl (hb hby at_73) rfl ?_
    show Steps p.tables e below (s₁.setTop (mkF m 75 #[.val (.long q1), .second, .val (.long q2), .second, .val (.long q3), .second, .val (.long (315569519999999 : Int64)), .second, .val (.long (own_time q1)), .second, .val (.long (own_d q1 q2)), .second, .val (.long (own_inst q1 q2)), .second, .val (.long (own_lim q3)), .second, .val (.int (1 : Int32))] [(.long (own_lim q3)), (.long (own_inst q1 q2)), (.long (own_time q1))])) _
    refine st1 _ ?_
    show Steps p.tables e below (T1.setTop (mkF m 78 #[.val (.long q1), .second, .val (.long q2), .second, .val (.long q3), .second, .val (.long (315569519999999 : Int64)), .second, .val (.long (own_time q1)), .second, .val (.long (own_d q1 q2)), .second, .val (.long (own_inst q1 q2)), .second, .val (.long (own_lim q3)), .second, .val (.int (1 : Int32))] [(.int (f_older (own_time q1) (own_inst q1 q2) (own_lim q3)))])) _
    refine XS.iload X1.here hx rfl (hb hby at_78) rfl ?_
    show Steps p.tables e below (T1.setTop (mkF m 80 #[.val (.long q1), .second, .val (.long q2), .second, .val (.long q3), .second, .val (.long (315569519999999 : Int64)), .second, .val (.long (own_time q1)), .second, .val (.long (own_d q1 q2)), .second, .val (.long (own_inst q1 q2)), .second, .val (.long (own_lim q3)), .second, .val (.int (1 : Int32))] [(.int (1 : Int32)), (.int (f_older (own_time q1) (own_inst q1 q2) (own_lim q3)))])) _
    refine XS.icmpYes X1.here hx rfl (pc0 := 80) (pc' := 85) rfl (hb hby at_80) rfl (teq hc1).1 (by decide) (by decide) ?_
    show Steps p.tables e below (T1.setTop (mkF m 85 #[.val (.long q1), .second, .val (.long q2), .second, .val (.long q3), .second, .val (.long (315569519999999 : Int64)), .second, .val (.long (own_time q1)), .second, .val (.long (own_d q1 q2)), .second, .val (.long (own_inst q1 q2)), .second, .val (.long (own_lim q3)), .second, .val (.int (1 : Int32))] [])) _
    refine XS.lload X1.here hx rfl (hb hby at_85) rfl ?_
    show Steps p.tables e below (T1.setTop (mkF m 87 #[.val (.long q1), .second, .val (.long q2), .second, .val (.long q3), .second, .val (.long (315569519999999 : Int64)), .second, .val (.long (own_time q1)), .second, .val (.long (own_d q1 q2)), .second, .val (.long (own_inst q1 q2)), .second, .val (.long (own_lim q3)), .second, .val (.int (1 : Int32))] [(.long (own_time q1))])) _
    refine XS.lload X1.here hx rfl (hb hby at_87) rfl ?_
    show Steps p.tables e below (T1.setTop (mkF m 89 #[.val (.long q1), .second, .val (.long q2), .second, .val (.long q3), .second, .val (.long (315569519999999 : Int64)), .second, .val (.long (own_time q1)), .second, .val (.long (own_d q1 q2)), .second, .val (.long (own_inst q1 q2)), .second, .val (.long (own_lim q3)), .second, .val (.int (1 : Int32))] [(.long (own_inst q1 q2)), (.long (own_time q1))])) _
    refine XS.lload X1.here hx rfl (hb hby at_89) rfl ?_
    show Steps p.tables e below (T1.setTop (mkF m 91 #[.val (.long q1), .second, .val (.long q2), .second, .val (.long q3), .second, .val (.long (315569519999999 : Int64)), .second, .val (.long (own_time q1)), .second, .val (.long (own_d q1 q2)), .second, .val (.long (own_inst q1 q2)), .second, .val (.long (own_lim q3)), .second, .val (.int (1 : Int32))] [(.long (own_d q1 q2)), (.long (own_inst q1 q2)), (.long (own_time q1))])) _
    refine st3 _ ?_
    show Steps p.tables e below (T3.setTop (mkF m 94 #[.val (.long q1), .second, .val (.long q2), .second, .val (.long q3), .second, .val (.long (315569519999999 : Int64)), .second, .val (.long (own_time q1)), .second, .val (.long (own_d q1 q2)), .second, .val (.long (own_inst q1 q2)), .second, .val (.long (own_lim q3)), .second, .val (.int (1 : Int32))] [(.int (f_older (own_time q1) (own_inst q1 q2) (own_d q1 q2)))])) _
    refine XS.ifYes X3.here hx rfl (pc0 := 94) (pc' := 99) rfl (hb hby at_94) rfl ((if0 _ _).trans (teq hc2).1) (by decide) (by decide) ?_
    show Steps p.tables e below (T3.setTop (mkF m 99 #[.val (.long q1), .second, .val (.long q2), .second, .val (.long q3), .second, .val (.long (315569519999999 : Int64)), .second, .val (.long (own_time q1)), .second, .val (.long (own_d q1 q2)), .second, .val (.long (own_inst q1 q2)), .second, .val (.long (own_lim q3)), .second, .val (.int (1 : Int32))] [])) _
    refine XS.lload X3.here hx rfl (hb hby at_99) rfl ?_
    show Steps p.tables e below (T3.setTop (mkF m 101 #[.val (.long q1), .second, .val (.long q2), .second, .val (.long q3), .second, .val (.long (315569519999999 : Int64)), .second, .val (.long (own_time q1)), .second, .val (.long (own_d q1 q2)), .second, .val (.long (own_inst q1 q2)), .second, .val (.long (own_lim q3)), .second, .val (.int (1 : Int32))] [(.long (own_d q1 q2))])) _
    refine XS.lconst X3.here hx rfl (hb hby at_101) ?_
    show Steps p.tables e below (T3.setTop (mkF m 102 #[.val (.long q1), .second, .val (.long q2), .second, .val (.long q3), .second, .val (.long (315569519999999 : Int64)), .second, .val (.long (own_time q1)), .second, .val (.long (own_d q1 q2)), .second, .val (.long (own_inst q1 q2)), .second, .val (.long (own_lim q3)), .second, .val (.int (1 : Int32))] [(.long (1 : Int64)), (.long (own_d q1 q2))])) _
    refine XS.lcmp X3.here hx rfl (hb hby at_102) rfl ?_
    show Steps p.tables e below (T3.setTop (mkF m 103 #[.val (.long q1), .second, .val (.long q2), .second, .val (.long q3), .second, .val (.long (315569519999999 : Int64)), .second, .val (.long (own_time q1)), .second, .val (.long (own_d q1 q2)), .second, .val (.long (own_inst q1 q2)), .second, .val (.long (own_lim q3)), .second, .val (.int (1 : Int32))] [(.int (lcmpW (own_d q1 q2) (1 : Int64)))])) _
    refine XS.ifYes X3.here hx rfl (pc0 := 103) (pc' := 122) rfl (hb hby at_103) rfl ((if0 _ _).trans (tlt ((lw_lt _ _).mpr (hc3 : (own_d q1 q2) < (1 : Int64)))).1) (by decide) (by decide) ?_
    show Steps p.tables e below (T3.setTop (mkF m 122 #[.val (.long q1), .second, .val (.long q2), .second, .val (.long q3), .second, .val (.long (315569519999999 : Int64)), .second, .val (.long (own_time q1)), .second, .val (.long (own_d q1 q2)), .second, .val (.long (own_inst q1 q2)), .second, .val (.long (own_lim q3)), .second, .val (.int (1 : Int32))] [])) _
    refine XS.iconst X3.here hx rfl (hb hby at_122) ?_
    show Steps p.tables e below (T3.setTop (mkF m 123 #[.val (.long q1), .second, .val (.long q2), .second, .val (.long q3), .second, .val (.long (315569519999999 : Int64)), .second, .val (.long (own_time q1)), .second, .val (.long (own_d q1 q2)), .second, .val (.long (own_inst q1 q2)), .second, .val (.long (own_lim q3)), .second, .val (.int (1 : Int32))] [(.int (1 : Int32))])) _
    exact retN X3 hx (t := .boolean) Bd.returns (by simp) (hb hby at_123) hr
  · show Q_law Z q1 q2 q3 h0 n0 _ T3.heap _
    rw [e3]
    exact ⟨rfl, N4⟩
def Road_tttft (q1 : Int64) (q2 : Int64) (q3 : Int64) : Prop := (¬ ((((253402300799999 : Int64) - (own_time q1)) + (1 : Int64)) = (0 : Int64))) ∧ ((own_lim q3) < (own_d q1 q2)) ∧ ((f_older (own_time q1) (own_inst q1 q2) (own_lim q3)) = (1 : Int32)) ∧ ((f_older (own_time q1) (own_inst q1 q2) (own_d q1 q2)) = (0 : Int32)) ∧ (¬ ((own_d q1 q2) < (1 : Int64))) ∧ (¬ ((f_older (own_time q1) (own_inst q1 q2) ((own_d q1 q2) - (1 : Int64))) = (0 : Int32)))
set_option maxRecDepth 65536 in
set_option maxHeartbeats 40000000 in
theorem rm_law_tttft (l : Launch) (Z : State) (a0 : Array Value) (hw : ∀ d ∈ tables_1, d.before a0 Z = true) (ws : List Jvm.Cond) (q1 : Int64) (q2 : Int64) (q3 : Int64) (h0 : Heap) (n0 : Nat) (Z0 : n0 ≤ h0.size) (hroad : Road_tttft q1 q2 q3) :
    MetFree l x (head1 (Jvm.Cond.code x code maxLocals ret :: ws) room_1) (fun a U => a = #[(.long q1), (.long q2), (.long q3)] ∧ Z.Warmed39 U.vm ∧ U.heap = h0) (fun _ _ _ _ _ => True) (fun _ U o U' => ∃ v L, o = .returned v ∧ Q_law Z q1 q2 q3 h0 n0 v U'.heap L ∧ FrameEnd U o U' L room_1.cells room_1.slots) := by
  obtain ⟨hnz0, hc0, hc1, hc2, hc3, hc4⟩ := hroad
  refine MetFree.of_bodySF (plainFor_of_name pn_org_everroll_InstantsOlderThanPinLaw) hisR ?_
  intro p e s m args below meth c s₁ Bd hml0 hP hK
  obtain ⟨rfl, hZ, hh⟩ := hP
  have hx := Bd.exec
  have hby := Bd.bytes
  have hml : c.maxLocals = 17 := hml0
  have hown : s.vm.findClass "org/everroll/InstantsOlderThanPinLaw" = some m.cls := findClass_of_methodNamed Bd.named
  have hnm := (name_of_methodNamed Bd.named Bd.method).1
  have X0 : Stand p l e room_1 s m #[(.long q1), (.long q2), (.long q3)] below meth c s₁ [] 0 0 := Stand.of_body Bd
  have e0 : s₁.heap = h0 := by rw [← hh, Bd.state]; rfl
  have N0 := Fr.nil n0
  have pre0 : ∀ t, Steps p.tables e below (s₁.setTop (mkF m 0 #[.val (.long q1), .second, .val (.long q2), .second, .val (.long q3), .second, .unset, .unset, .unset, .unset, .unset, .unset, .unset, .unset, .unset, .unset, .unset] [])) t → Steps p.tables e below (s₁.setTop (entryFrame m #[(.long q1), (.long q2), (.long q3)] maxLocals)) t := fun t k => castTop (ef_0_JJJ m q1 q2 q3) k
  obtain ⟨_, _, ⟨T1, L1, k1, n1⟩, -, X1, ⟨Lc1, hQ1, l1, y1, z1⟩, st1⟩ := Jvm.LawKit.callS X0 hx (y := (⟨"org/everroll/Instants", "olderThan", "(JJJ)Z"⟩ : MethodName)) hown (mvT hZ (hw _ (List.mem_of_getElem? (i := 4) rfl))) (mvT hZ (hw _ (List.mem_of_getElem? (i := 5) rfl))) (mvT hZ (hw _ (List.mem_of_getElem? (i := 6) rfl))) (mvT hZ (hw _ (List.mem_of_getElem? (i := 7) rfl))) (by decide) (backOf (W := 0) (rm_older l Z a0 hw [] (own_time q1) (own_inst q1 q2) (own_lim q3) h0 n0 Z0 ) hZ (hw _ (List.mem_of_getElem? (i := 7) rfl)) (hw _ (List.mem_of_getElem? (i := 6) rfl)) (by decide) (by decide)) (g := (mkF m 75 #[.val (.long q1), .second, .val (.long q2), .second, .val (.long q3), .second, .val (.long (315569519999999 : Int64)), .second, .val (.long (own_time q1)), .second, .val (.long (own_d q1 q2)), .second, .val (.long (own_inst q1 q2)), .second, .val (.long (own_lim q3)), .second, .val (.int (1 : Int32))] [(.long (own_lim q3)), (.long (own_inst q1 q2)), (.long (own_time q1))])) rfl (by rw [hml]; rfl) (argsL := [(.long (own_time q1)), (.long (own_inst q1 q2)), (.long (own_lim q3))]) (rest := []) (lenOf pd_0 rfl) rfl (by show 2 * 0 + _ ≤ _; exact Nat.le_of_eq rfl) (hb hby at_75) (fun _ _ => ⟨rfl, e0, (by decide : 0 + 0 ≤ _), (by decide : 0 + 0 ≤ _)⟩)
  dsimp only [Pt.U, Pt.locs, Pt.cells, Pt.slots] at X1 l1 y1 z1 st1 hQ1
  subst l1 y1 z1
  obtain ⟨rfl, Nq1, e1⟩ := hQ1
  have N2 := Fr.app N0 Nq1
  obtain ⟨_, _, ⟨T3, L3, k3, n3⟩, -, X3, ⟨Lc3, hQ3, l3, y3, z3⟩, st3⟩ := Jvm.LawKit.callS X1 hx (y := (⟨"org/everroll/Instants", "olderThan", "(JJJ)Z"⟩ : MethodName)) hown (mvT hZ (hw _ (List.mem_of_getElem? (i := 4) rfl))) (mvT hZ (hw _ (List.mem_of_getElem? (i := 5) rfl))) (mvT hZ (hw _ (List.mem_of_getElem? (i := 6) rfl))) (mvT hZ (hw _ (List.mem_of_getElem? (i := 7) rfl))) (by decide) (backOf (W := 0) (rm_older l Z a0 hw [] (own_time q1) (own_inst q1 q2) (own_d q1 q2) h0 n0 Z0 ) hZ (hw _ (List.mem_of_getElem? (i := 7) rfl)) (hw _ (List.mem_of_getElem? (i := 6) rfl)) (by decide) (by decide)) (g := (mkF m 91 #[.val (.long q1), .second, .val (.long q2), .second, .val (.long q3), .second, .val (.long (315569519999999 : Int64)), .second, .val (.long (own_time q1)), .second, .val (.long (own_d q1 q2)), .second, .val (.long (own_inst q1 q2)), .second, .val (.long (own_lim q3)), .second, .val (.int (1 : Int32))] [(.long (own_d q1 q2)), (.long (own_inst q1 q2)), (.long (own_time q1))])) rfl (by rw [hml]; rfl) (argsL := [(.long (own_time q1)), (.long (own_inst q1 q2)), (.long (own_d q1 q2))]) (rest := []) (lenOf pd_0 rfl) rfl (by show 2 * 0 + _ ≤ _; exact Nat.le_of_eq rfl) (hb hby at_91) (fun _ _ => ⟨rfl, e1, (by decide : 0 + 0 ≤ _), (by decide : 0 + 0 ≤ _)⟩)
  dsimp only [Pt.U, Pt.locs, Pt.cells, Pt.slots] at X3 l3 y3 z3 st3 hQ3
  subst l3 y3 z3
  obtain ⟨rfl, Nq3, e3⟩ := hQ3
  have N4 := Fr.app N2 Nq3
  obtain ⟨_, _, ⟨T5, L5, k5, n5⟩, -, X5, ⟨Lc5, hQ5, l5, y5, z5⟩, st5⟩ := Jvm.LawKit.callS X3 hx (y := (⟨"org/everroll/Instants", "olderThan", "(JJJ)Z"⟩ : MethodName)) hown (mvT hZ (hw _ (List.mem_of_getElem? (i := 4) rfl))) (mvT hZ (hw _ (List.mem_of_getElem? (i := 5) rfl))) (mvT hZ (hw _ (List.mem_of_getElem? (i := 6) rfl))) (mvT hZ (hw _ (List.mem_of_getElem? (i := 7) rfl))) (by decide) (backOf (W := 0) (rm_older l Z a0 hw [] (own_time q1) (own_inst q1 q2) ((own_d q1 q2) - (1 : Int64)) h0 n0 Z0 ) hZ (hw _ (List.mem_of_getElem? (i := 7) rfl)) (hw _ (List.mem_of_getElem? (i := 6) rfl)) (by decide) (by decide)) (g := (mkF m 114 #[.val (.long q1), .second, .val (.long q2), .second, .val (.long q3), .second, .val (.long (315569519999999 : Int64)), .second, .val (.long (own_time q1)), .second, .val (.long (own_d q1 q2)), .second, .val (.long (own_inst q1 q2)), .second, .val (.long (own_lim q3)), .second, .val (.int (1 : Int32))] [(.long ((own_d q1 q2) - (1 : Int64))), (.long (own_inst q1 q2)), (.long (own_time q1))])) rfl (by rw [hml]; rfl) (argsL := [(.long (own_time q1)), (.long (own_inst q1 q2)), (.long ((own_d q1 q2) - (1 : Int64)))]) (rest := []) (lenOf pd_0 rfl) rfl (by show 2 * 0 + _ ≤ _; exact Nat.le_of_eq rfl) (hb hby at_114) (fun _ _ => ⟨rfl, e3, (by decide : 0 + 0 ≤ _), (by decide : 0 + 0 ≤ _)⟩)
  dsimp only [Pt.U, Pt.locs, Pt.cells, Pt.slots] at X5 l5 y5 z5 st5 hQ5
  subst l5 y5 z5
  obtain ⟨rfl, Nq5, e5⟩ := hQ5
  have N6 := Fr.app N4 Nq5
  obtain ⟨fs, hr, hrun, hended, hW, hsame⟩ := X5.leave (v := some (.int (1 : Int32))) (fun h => by rw [Bd.returns] at h; cases h)
  refine ⟨_, _, pre0 _ ?_, hrun, hended, _, _, rfl, ?_, ⟨_, rfl⟩, hW, hsame.mono (by decide) (by decide)⟩
  · show Steps p.tables e below (s₁.setTop (mkF m 0 #[.val (.long q1), .second, .val (.long q2), .second, .val (.long q3), .second, .unset, .unset, .unset, .unset, .unset, .unset, .unset, .unset, .unset, .unset, .unset] [])) _
    refine X0.ldc2Long hx hown (mvT hZ (hw _ (List.mem_of_getElem? (i := 0) rfl))) (g := (mkF m 0 #[.val (.long q1), .second, .val (.long q2), .second, .val (.long q3), .second, .unset, .unset, .unset, .unset, .unset, .unset, .unset, .unset, .unset, .unset, .unset] [])) rfl (hb hby at_0) _ ?_
    show Steps p.tables e below (s₁.setTop (mkF m 3 #[.val (.long q1), .second, .val (.long q2), .second, .val (.long q3), .second, .unset, .unset, .unset, .unset, .unset, .unset, .unset, .unset, .unset, .unset, .unset] [(.long (315569519999999 : Int64))])) _
    refine XS.lstore X0.here hx rfl (hb hby at_3) rfl (l' := #[.val (.long q1), .second, .val (.long q2), .second, .val (.long q3), .second, .val (.long (315569519999999 : Int64)), .second, .unset, .unset, .unset, .unset, .unset, .unset, .unset, .unset, .unset]) rfl ?_
    show Steps p.tables e below (s₁.setTop (mkF m 5 #[.val (.long q1), .second, .val (.long q2), .second, .val (.long q3), .second, .val (.long (315569519999999 : Int64)), .second, .unset, .unset, .unset, .unset, .unset, .unset, .unset, .unset, .unset] [])) _
    refine X0.ldc2Long hx hown (mvT hZ (hw _ (List.mem_of_getElem? (i := 1) rfl))) (g := (mkF m 5 #[.val (.long q1), .second, .val (.long q2), .second, .val (.long q3), .second, .val (.long (315569519999999 : Int64)), .second, .unset, .unset, .unset, .unset, .unset, .unset, .unset, .unset, .unset] [])) rfl (hb hby at_5) _ ?_
    show Steps p.tables e below (s₁.setTop (mkF m 8 #[.val (.long q1), .second, .val (.long q2), .second, .val (.long q3), .second, .val (.long (315569519999999 : Int64)), .second, .unset, .unset, .unset, .unset, .unset, .unset, .unset, .unset, .unset] [(.long (-62167219200000 : Int64))])) _
    refine XS.lloadN X0.here hx rfl (hb hby at_8) rfl ?_
    show Steps p.tables e below (s₁.setTop (mkF m 9 #[.val (.long q1), .second, .val (.long q2), .second, .val (.long q3), .second, .val (.long (315569519999999 : Int64)), .second, .unset, .unset, .unset, .unset, .unset, .unset, .unset, .unset, .unset] [(.long q1), (.long (-62167219200000 : Int64))])) _
    refine X0.ldc2Long hx hown (mvT hZ (hw _ (List.mem_of_getElem? (i := 2) rfl))) (g := (mkF m 9 #[.val (.long q1), .second, .val (.long q2), .second, .val (.long q3), .second, .val (.long (315569519999999 : Int64)), .second, .unset, .unset, .unset, .unset, .unset, .unset, .unset, .unset, .unset] [(.long q1), (.long (-62167219200000 : Int64))])) rfl (hb hby at_9) _ ?_
    show Steps p.tables e below (s₁.setTop (mkF m 12 #[.val (.long q1), .second, .val (.long q2), .second, .val (.long q3), .second, .val (.long (315569519999999 : Int64)), .second, .unset, .unset, .unset, .unset, .unset, .unset, .unset, .unset, .unset] [(.long (9223372036854775807 : Int64)), (.long q1), (.long (-62167219200000 : Int64))])) _
    refine XS.land X0.here hx rfl (hb hby at_12) rfl ?_
    show Steps p.tables e below (s₁.setTop (mkF m 13 #[.val (.long q1), .second, .val (.long q2), .second, .val (.long q3), .second, .val (.long (315569519999999 : Int64)), .second, .unset, .unset, .unset, .unset, .unset, .unset, .unset, .unset, .unset] [(.long (q1 &&& (9223372036854775807 : Int64))), (.long (-62167219200000 : Int64))])) _
    refine XS.lload X0.here hx rfl (hb hby at_13) rfl ?_
    show Steps p.tables e below (s₁.setTop (mkF m 15 #[.val (.long q1), .second, .val (.long q2), .second, .val (.long q3), .second, .val (.long (315569519999999 : Int64)), .second, .unset, .unset, .unset, .unset, .unset, .unset, .unset, .unset, .unset] [(.long (315569519999999 : Int64)), (.long (q1 &&& (9223372036854775807 : Int64))), (.long (-62167219200000 : Int64))])) _
    refine XS.lconst X0.here hx rfl (hb hby at_15) ?_
    show Steps p.tables e below (s₁.setTop (mkF m 16 #[.val (.long q1), .second, .val (.long q2), .second, .val (.long q3), .second, .val (.long (315569519999999 : Int64)), .second, .unset, .unset, .unset, .unset, .unset, .unset, .unset, .unset, .unset] [(.long (1 : Int64)), (.long (315569519999999 : Int64)), (.long (q1 &&& (9223372036854775807 : Int64))), (.long (-62167219200000 : Int64))])) _
    refine XS.ladd X0.here hx rfl (hb hby at_16) rfl ?_
    show Steps p.tables e below (s₁.setTop (mkF m 17 #[.val (.long q1), .second, .val (.long q2), .second, .val (.long q3), .second, .val (.long (315569519999999 : Int64)), .second, .unset, .unset, .unset, .unset, .unset, .unset, .unset, .unset, .unset] [(.long (315569520000000 : Int64)), (.long (q1 &&& (9223372036854775807 : Int64))), (.long (-62167219200000 : Int64))])) _
    refine XS.lrem X0.here hx rfl (hb hby at_17) rfl (by decide) ?_
    rw [lrem_mod]
    show Steps p.tables e below (s₁.setTop (mkF m 18 #[.val (.long q1), .second, .val (.long q2), .second, .val (.long q3), .second, .val (.long (315569519999999 : Int64)), .second, .unset, .unset, .unset, .unset, .unset, .unset, .unset, .unset, .unset] [(.long ((q1 &&& (9223372036854775807 : Int64)) % (315569520000000 : Int64))), (.long (-62167219200000 : Int64))])) _
    refine XS.ladd X0.here hx rfl (hb hby at_18) rfl ?_
    show Steps p.tables e below (s₁.setTop (mkF m 19 #[.val (.long q1), .second, .val (.long q2), .second, .val (.long q3), .second, .val (.long (315569519999999 : Int64)), .second, .unset, .unset, .unset, .unset, .unset, .unset, .unset, .unset, .unset] [(.long ((-62167219200000 : Int64) + ((q1 &&& (9223372036854775807 : Int64)) % (315569520000000 : Int64))))])) _
    refine XS.lstore X0.here hx rfl (hb hby at_19) rfl (l' := #[.val (.long q1), .second, .val (.long q2), .second, .val (.long q3), .second, .val (.long (315569519999999 : Int64)), .second, .val (.long (own_time q1)), .second, .unset, .unset, .unset, .unset, .unset, .unset, .unset]) rfl ?_
    show Steps p.tables e below (s₁.setTop (mkF m 21 #[.val (.long q1), .second, .val (.long q2), .second, .val (.long q3), .second, .val (.long (315569519999999 : Int64)), .second, .val (.long (own_time q1)), .second, .unset, .unset, .unset, .unset, .unset, .unset, .unset] [])) _
    refine XS.lloadN X0.here hx rfl (hb hby at_21) rfl ?_
    show Steps p.tables e below (s₁.setTop (mkF m 22 #[.val (.long q1), .second, .val (.long q2), .second, .val (.long q3), .second, .val (.long (315569519999999 : Int64)), .second, .val (.long (own_time q1)), .second, .unset, .unset, .unset, .unset, .unset, .unset, .unset] [(.long q2)])) _
    refine X0.ldc2Long hx hown (mvT hZ (hw _ (List.mem_of_getElem? (i := 2) rfl))) (g := (mkF m 22 #[.val (.long q1), .second, .val (.long q2), .second, .val (.long q3), .second, .val (.long (315569519999999 : Int64)), .second, .val (.long (own_time q1)), .second, .unset, .unset, .unset, .unset, .unset, .unset, .unset] [(.long q2)])) rfl (hb hby at_22) _ ?_
    show Steps p.tables e below (s₁.setTop (mkF m 25 #[.val (.long q1), .second, .val (.long q2), .second, .val (.long q3), .second, .val (.long (315569519999999 : Int64)), .second, .val (.long (own_time q1)), .second, .unset, .unset, .unset, .unset, .unset, .unset, .unset] [(.long (9223372036854775807 : Int64)), (.long q2)])) _
    refine XS.land X0.here hx rfl (hb hby at_25) rfl ?_
    show Steps p.tables e below (s₁.setTop (mkF m 26 #[.val (.long q1), .second, .val (.long q2), .second, .val (.long q3), .second, .val (.long (315569519999999 : Int64)), .second, .val (.long (own_time q1)), .second, .unset, .unset, .unset, .unset, .unset, .unset, .unset] [(.long (q2 &&& (9223372036854775807 : Int64)))])) _
    refine X0.ldc2Long hx hown (mvT hZ (hw _ (List.mem_of_getElem? (i := 3) rfl))) (g := (mkF m 26 #[.val (.long q1), .second, .val (.long q2), .second, .val (.long q3), .second, .val (.long (315569519999999 : Int64)), .second, .val (.long (own_time q1)), .second, .unset, .unset, .unset, .unset, .unset, .unset, .unset] [(.long (q2 &&& (9223372036854775807 : Int64)))])) rfl (hb hby at_26) _ ?_
    show Steps p.tables e below (s₁.setTop (mkF m 29 #[.val (.long q1), .second, .val (.long q2), .second, .val (.long q3), .second, .val (.long (315569519999999 : Int64)), .second, .val (.long (own_time q1)), .second, .unset, .unset, .unset, .unset, .unset, .unset, .unset] [(.long (253402300799999 : Int64)), (.long (q2 &&& (9223372036854775807 : Int64)))])) _
    refine XS.lload X0.here hx rfl (hb hby at_29) rfl ?_
    show Steps p.tables e below (s₁.setTop (mkF m 31 #[.val (.long q1), .second, .val (.long q2), .second, .val (.long q3), .second, .val (.long (315569519999999 : Int64)), .second, .val (.long (own_time q1)), .second, .unset, .unset, .unset, .unset, .unset, .unset, .unset] [(.long (own_time q1)), (.long (253402300799999 : Int64)), (.long (q2 &&& (9223372036854775807 : Int64)))])) _
    refine XS.lsub X0.here hx rfl (hb hby at_31) rfl ?_
    show Steps p.tables e below (s₁.setTop (mkF m 32 #[.val (.long q1), .second, .val (.long q2), .second, .val (.long q3), .second, .val (.long (315569519999999 : Int64)), .second, .val (.long (own_time q1)), .second, .unset, .unset, .unset, .unset, .unset, .unset, .unset] [(.long ((253402300799999 : Int64) - (own_time q1))), (.long (q2 &&& (9223372036854775807 : Int64)))])) _
    refine XS.lconst X0.here hx rfl (hb hby at_32) ?_
    show Steps p.tables e below (s₁.setTop (mkF m 33 #[.val (.long q1), .second, .val (.long q2), .second, .val (.long q3), .second, .val (.long (315569519999999 : Int64)), .second, .val (.long (own_time q1)), .second, .unset, .unset, .unset, .unset, .unset, .unset, .unset] [(.long (1 : Int64)), (.long ((253402300799999 : Int64) - (own_time q1))), (.long (q2 &&& (9223372036854775807 : Int64)))])) _
    refine XS.ladd X0.here hx rfl (hb hby at_33) rfl ?_
    show Steps p.tables e below (s₁.setTop (mkF m 34 #[.val (.long q1), .second, .val (.long q2), .second, .val (.long q3), .second, .val (.long (315569519999999 : Int64)), .second, .val (.long (own_time q1)), .second, .unset, .unset, .unset, .unset, .unset, .unset, .unset] [(.long (((253402300799999 : Int64) - (own_time q1)) + (1 : Int64))), (.long (q2 &&& (9223372036854775807 : Int64)))])) _
    refine XS.lrem X0.here hx rfl (hb hby at_34) rfl hnz0 ?_
    rw [lrem_mod]
    show Steps p.tables e below (s₁.setTop (mkF m 35 #[.val (.long q1), .second, .val (.long q2), .second, .val (.long q3), .second, .val (.long (315569519999999 : Int64)), .second, .val (.long (own_time q1)), .second, .unset, .unset, .unset, .unset, .unset, .unset, .unset] [(.long ((q2 &&& (9223372036854775807 : Int64)) % (((253402300799999 : Int64) - (own_time q1)) + (1 : Int64))))])) _
    refine XS.lstore X0.here hx rfl (hb hby at_35) rfl (l' := #[.val (.long q1), .second, .val (.long q2), .second, .val (.long q3), .second, .val (.long (315569519999999 : Int64)), .second, .val (.long (own_time q1)), .second, .val (.long (own_d q1 q2)), .second, .unset, .unset, .unset, .unset, .unset]) rfl ?_
    show Steps p.tables e below (s₁.setTop (mkF m 37 #[.val (.long q1), .second, .val (.long q2), .second, .val (.long q3), .second, .val (.long (315569519999999 : Int64)), .second, .val (.long (own_time q1)), .second, .val (.long (own_d q1 q2)), .second, .unset, .unset, .unset, .unset, .unset] [])) _
    refine XS.lload X0.here hx rfl (hb hby at_37) rfl ?_
    show Steps p.tables e below (s₁.setTop (mkF m 39 #[.val (.long q1), .second, .val (.long q2), .second, .val (.long q3), .second, .val (.long (315569519999999 : Int64)), .second, .val (.long (own_time q1)), .second, .val (.long (own_d q1 q2)), .second, .unset, .unset, .unset, .unset, .unset] [(.long (own_time q1))])) _
    refine XS.lload X0.here hx rfl (hb hby at_39) rfl ?_
    show Steps p.tables e below (s₁.setTop (mkF m 41 #[.val (.long q1), .second, .val (.long q2), .second, .val (.long q3), .second, .val (.long (315569519999999 : Int64)), .second, .val (.long (own_time q1)), .second, .val (.long (own_d q1 q2)), .second, .unset, .unset, .unset, .unset, .unset] [(.long (own_d q1 q2)), (.long (own_time q1))])) _
    refine XS.ladd X0.here hx rfl (hb hby at_41) rfl ?_
    show Steps p.tables e below (s₁.setTop (mkF m 42 #[.val (.long q1), .second, .val (.long q2), .second, .val (.long q3), .second, .val (.long (315569519999999 : Int64)), .second, .val (.long (own_time q1)), .second, .val (.long (own_d q1 q2)), .second, .unset, .unset, .unset, .unset, .unset] [(.long ((own_time q1) + (own_d q1 q2)))])) _
    refine XS.lstore X0.here hx rfl (hb hby at_42) rfl (l' := #[.val (.long q1), .second, .val (.long q2), .second, .val (.long q3), .second, .val (.long (315569519999999 : Int64)), .second, .val (.long (own_time q1)), .second, .val (.long (own_d q1 q2)), .second, .val (.long (own_inst q1 q2)), .second, .unset, .unset, .unset]) rfl ?_
    show Steps p.tables e below (s₁.setTop (mkF m 44 #[.val (.long q1), .second, .val (.long q2), .second, .val (.long q3), .second, .val (.long (315569519999999 : Int64)), .second, .val (.long (own_time q1)), .second, .val (.long (own_d q1 q2)), .second, .val (.long (own_inst q1 q2)), .second, .unset, .unset, .unset] [])) _
    refine XS.lload X0.here hx rfl (hb hby at_44) rfl ?_
    show Steps p.tables e below (s₁.setTop (mkF m 46 #[.val (.long q1), .second, .val (.long q2), .second, .val (.long q3), .second, .val (.long (315569519999999 : Int64)), .second, .val (.long (own_time q1)), .second, .val (.long (own_d q1 q2)), .second, .val (.long (own_inst q1 q2)), .second, .unset, .unset, .unset] [(.long q3)])) _
    refine X0.ldc2Long hx hown (mvT hZ (hw _ (List.mem_of_getElem? (i := 2) rfl))) (g := (mkF m 46 #[.val (.long q1), .second, .val (.long q2), .second, .val (.long q3), .second, .val (.long (315569519999999 : Int64)), .second, .val (.long (own_time q1)), .second, .val (.long (own_d q1 q2)), .second, .val (.long (own_inst q1 q2)), .second, .unset, .unset, .unset] [(.long q3)])) rfl (hb hby at_46) _ ?_
    show Steps p.tables e below (s₁.setTop (mkF m 49 #[.val (.long q1), .second, .val (.long q2), .second, .val (.long q3), .second, .val (.long (315569519999999 : Int64)), .second, .val (.long (own_time q1)), .second, .val (.long (own_d q1 q2)), .second, .val (.long (own_inst q1 q2)), .second, .unset, .unset, .unset] [(.long (9223372036854775807 : Int64)), (.long q3)])) _
    refine XS.land X0.here hx rfl (hb hby at_49) rfl ?_
    show Steps p.tables e below (s₁.setTop (mkF m 50 #[.val (.long q1), .second, .val (.long q2), .second, .val (.long q3), .second, .val (.long (315569519999999 : Int64)), .second, .val (.long (own_time q1)), .second, .val (.long (own_d q1 q2)), .second, .val (.long (own_inst q1 q2)), .second, .unset, .unset, .unset] [(.long (q3 &&& (9223372036854775807 : Int64)))])) _
    refine XS.lstore X0.here hx rfl (hb hby at_50) rfl (l' := #[.val (.long q1), .second, .val (.long q2), .second, .val (.long q3), .second, .val (.long (315569519999999 : Int64)), .second, .val (.long (own_time q1)), .second, .val (.long (own_d q1 q2)), .second, .val (.long (own_inst q1 q2)), .second, .val (.long (own_lim q3)), .second, .unset]) rfl ?_
    show Steps p.tables e below (s₁.setTop (mkF m 52 #[.val (.long q1), .second, .val (.long q2), .second, .val (.long q3), .second, .val (.long (315569519999999 : Int64)), .second, .val (.long (own_time q1)), .second, .val (.long (own_d q1 q2)), .second, .val (.long (own_inst q1 q2)), .second, .val (.long (own_lim q3)), .second, .unset] [])) _
    refine XS.lload X0.here hx rfl (hb hby at_52) rfl ?_
    show Steps p.tables e below (s₁.setTop (mkF m 54 #[.val (.long q1), .second, .val (.long q2), .second, .val (.long q3), .second, .val (.long (315569519999999 : Int64)), .second, .val (.long (own_time q1)), .second, .val (.long (own_d q1 q2)), .second, .val (.long (own_inst q1 q2)), .second, .val (.long (own_lim q3)), .second, .unset] [(.long (own_lim q3))])) _
    refine XS.lload X0.here hx rfl (hb hby at_54) rfl ?_
    show Steps p.tables e below (s₁.setTop (mkF m 56 #[.val (.long q1), .second, .val (.long q2), .second, .val (.long q3), .second, .val (.long (315569519999999 : Int64)), .second, .val (.long (own_time q1)), .second, .val (.long (own_d q1 q2)), .second, .val (.long (own_inst q1 q2)), .second, .val (.long (own_lim q3)), .second, .unset] [(.long (own_d q1 q2)), (.long (own_lim q3))])) _
    refine XS.lcmp X0.here hx rfl (hb hby at_56) rfl ?_
    show Steps p.tables e below (s₁.setTop (mkF m 57 #[.val (.long q1), .second, .val (.long q2), .second, .val (.long q3), .second, .val (.long (315569519999999 : Int64)), .second, .val (.long (own_time q1)), .second, .val (.long (own_d q1 q2)), .second, .val (.long (own_inst q1 q2)), .second, .val (.long (own_lim q3)), .second, .unset] [(.int (lcmpW (own_lim q3) (own_d q1 q2)))])) _
    refine XS.ifYes X0.here hx rfl (pc0 := 57) (pc' := 66) rfl (hb hby at_57) rfl ((if0 _ _).trans (tlt ((lw_lt _ _).mpr (hc0 : (own_lim q3) < (own_d q1 q2)))).1) (by decide) (by decide) ?_
    show Steps p.tables e below (s₁.setTop (mkF m 66 #[.val (.long q1), .second, .val (.long q2), .second, .val (.long q3), .second, .val (.long (315569519999999 : Int64)), .second, .val (.long (own_time q1)), .second, .val (.long (own_d q1 q2)), .second, .val (.long (own_inst q1 q2)), .second, .val (.long (own_lim q3)), .second, .unset] [])) _
    refine XS.iconst X0.here hx rfl (hb hby at_66) ?_
    show Steps p.tables e below (s₁.setTop (mkF m 67 #[.val (.long q1), .second, .val (.long q2), .second, .val (.long q3), .second, .val (.long (315569519999999 : Int64)), .second, .val (.long (own_time q1)), .second, .val (.long (own_d q1 q2)), .second, .val (.long (own_inst q1 q2)), .second, .val (.long (own_lim q3)), .second, .unset] [(.int (1 : Int32))])) _
    refine XS.istore X0.here hx rfl (hb hby at_67) rfl (l' := #[.val (.long q1), .second, .val (.long q2), .second, .val (.long q3), .second, .val (.long (315569519999999 : Int64)), .second, .val (.long (own_time q1)), .second, .val (.long (own_d q1 q2)), .second, .val (.long (own_inst q1 q2)), .second, .val (.long (own_lim q3)), .second, .val (.int (1 : Int32))]) rfl ?_
    show Steps p.tables e below (s₁.setTop (mkF m 69 #[.val (.long q1), .second, .val (.long q2), .second, .val (.long q3), .second, .val (.long (315569519999999 : Int64)), .second, .val (.long (own_time q1)), .second, .val (.long (own_d q1 q2)), .second, .val (.long (own_inst q1 q2)), .second, .val (.long (own_lim q3)), .second, .val (.int (1 : Int32))] [])) _
    refine XS.lload X0.here hx rfl (hb hby at_69) rfl ?_
    show Steps p.tables e below (s₁.setTop (mkF m 71 #[.val (.long q1), .second, .val (.long q2), .second, .val (.long q3), .second, .val (.long (315569519999999 : Int64)), .second, .val (.long (own_time q1)), .second, .val (.long (own_d q1 q2)), .second, .val (.long (own_inst q1 q2)), .second, .val (.long (own_lim q3)), .second, .val (.int (1 : Int32))] [(.long (own_time q1))])) _
    refine XS.lload X0.here hx rfl (hb hby at_71) rfl ?_
    show Steps p.tables e below (s₁.setTop (mkF m 73 #[.val (.long q1), .second, .val (.long q2), .second, .val (.long q3), .second, .val (.long (315569519999999 : Int64)), .second, .val (.long (own_time q1)), .second, .val (.long (own_d q1 q2)), .second, .val (.long (own_inst q1 q2)), .second, .val (.long (own_lim q3)), .second, .val (.int (1 : Int32))] [(.long (own_inst q1 q2)), (.long (own_time q1))])) _
    refine XS.lload X0.here hx rfl (hb hby at_73) rfl ?_
    show Steps p.tables e below (s₁.setTop (mkF m 75 #[.val (.long q1), .second, .val (.long q2), .second, .val (.long q3), .second, .val (.long (315569519999999 : Int64)), .second, .val (.long (own_time q1)), .second, .val (.long (own_d q1 q2)), .second, .val (.long (own_inst q1 q2)), .second, .val (.long (own_lim q3)), .second, .val (.int (1 : Int32))] [(.long (own_lim q3)), (.long (own_inst q1 q2)), (.long (own_time q1))])) _
    refine st1 _ ?_
    show Steps p.tables e below (T1.setTop (mkF m 78 #[.val (.long q1), .second, .val (.long q2), .second, .val (.long q3), .second, .val (.long (315569519999999 : Int64)), .second, .val (.long (own_time q1)), .second, .val (.long (own_d q1 q2)), .second, .val (.long (own_inst q1 q2)), .second, .val (.long (own_lim q3)), .second, .val (.int (1 : Int32))] [(.int (f_older (own_time q1) (own_inst q1 q2) (own_lim q3)))])) _
    refine XS.iload X1.here hx rfl (hb hby at_78) rfl ?_
    show Steps p.tables e below (T1.setTop (mkF m 80 #[.val (.long q1), .second, .val (.long q2), .second, .val (.long q3), .second, .val (.long (315569519999999 : Int64)), .second, .val (.long (own_time q1)), .second, .val (.long (own_d q1 q2)), .second, .val (.long (own_inst q1 q2)), .second, .val (.long (own_lim q3)), .second, .val (.int (1 : Int32))] [(.int (1 : Int32)), (.int (f_older (own_time q1) (own_inst q1 q2) (own_lim q3)))])) _
    refine XS.icmpYes X1.here hx rfl (pc0 := 80) (pc' := 85) rfl (hb hby at_80) rfl (teq hc1).1 (by decide) (by decide) ?_
    show Steps p.tables e below (T1.setTop (mkF m 85 #[.val (.long q1), .second, .val (.long q2), .second, .val (.long q3), .second, .val (.long (315569519999999 : Int64)), .second, .val (.long (own_time q1)), .second, .val (.long (own_d q1 q2)), .second, .val (.long (own_inst q1 q2)), .second, .val (.long (own_lim q3)), .second, .val (.int (1 : Int32))] [])) _
    refine XS.lload X1.here hx rfl (hb hby at_85) rfl ?_
    show Steps p.tables e below (T1.setTop (mkF m 87 #[.val (.long q1), .second, .val (.long q2), .second, .val (.long q3), .second, .val (.long (315569519999999 : Int64)), .second, .val (.long (own_time q1)), .second, .val (.long (own_d q1 q2)), .second, .val (.long (own_inst q1 q2)), .second, .val (.long (own_lim q3)), .second, .val (.int (1 : Int32))] [(.long (own_time q1))])) _
    refine XS.lload X1.here hx rfl (hb hby at_87) rfl ?_
    show Steps p.tables e below (T1.setTop (mkF m 89 #[.val (.long q1), .second, .val (.long q2), .second, .val (.long q3), .second, .val (.long (315569519999999 : Int64)), .second, .val (.long (own_time q1)), .second, .val (.long (own_d q1 q2)), .second, .val (.long (own_inst q1 q2)), .second, .val (.long (own_lim q3)), .second, .val (.int (1 : Int32))] [(.long (own_inst q1 q2)), (.long (own_time q1))])) _
    refine XS.lload X1.here hx rfl (hb hby at_89) rfl ?_
    show Steps p.tables e below (T1.setTop (mkF m 91 #[.val (.long q1), .second, .val (.long q2), .second, .val (.long q3), .second, .val (.long (315569519999999 : Int64)), .second, .val (.long (own_time q1)), .second, .val (.long (own_d q1 q2)), .second, .val (.long (own_inst q1 q2)), .second, .val (.long (own_lim q3)), .second, .val (.int (1 : Int32))] [(.long (own_d q1 q2)), (.long (own_inst q1 q2)), (.long (own_time q1))])) _
    refine st3 _ ?_
    show Steps p.tables e below (T3.setTop (mkF m 94 #[.val (.long q1), .second, .val (.long q2), .second, .val (.long q3), .second, .val (.long (315569519999999 : Int64)), .second, .val (.long (own_time q1)), .second, .val (.long (own_d q1 q2)), .second, .val (.long (own_inst q1 q2)), .second, .val (.long (own_lim q3)), .second, .val (.int (1 : Int32))] [(.int (f_older (own_time q1) (own_inst q1 q2) (own_d q1 q2)))])) _
    refine XS.ifYes X3.here hx rfl (pc0 := 94) (pc' := 99) rfl (hb hby at_94) rfl ((if0 _ _).trans (teq hc2).1) (by decide) (by decide) ?_
    show Steps p.tables e below (T3.setTop (mkF m 99 #[.val (.long q1), .second, .val (.long q2), .second, .val (.long q3), .second, .val (.long (315569519999999 : Int64)), .second, .val (.long (own_time q1)), .second, .val (.long (own_d q1 q2)), .second, .val (.long (own_inst q1 q2)), .second, .val (.long (own_lim q3)), .second, .val (.int (1 : Int32))] [])) _
    refine XS.lload X3.here hx rfl (hb hby at_99) rfl ?_
    show Steps p.tables e below (T3.setTop (mkF m 101 #[.val (.long q1), .second, .val (.long q2), .second, .val (.long q3), .second, .val (.long (315569519999999 : Int64)), .second, .val (.long (own_time q1)), .second, .val (.long (own_d q1 q2)), .second, .val (.long (own_inst q1 q2)), .second, .val (.long (own_lim q3)), .second, .val (.int (1 : Int32))] [(.long (own_d q1 q2))])) _
    refine XS.lconst X3.here hx rfl (hb hby at_101) ?_
    show Steps p.tables e below (T3.setTop (mkF m 102 #[.val (.long q1), .second, .val (.long q2), .second, .val (.long q3), .second, .val (.long (315569519999999 : Int64)), .second, .val (.long (own_time q1)), .second, .val (.long (own_d q1 q2)), .second, .val (.long (own_inst q1 q2)), .second, .val (.long (own_lim q3)), .second, .val (.int (1 : Int32))] [(.long (1 : Int64)), (.long (own_d q1 q2))])) _
    refine XS.lcmp X3.here hx rfl (hb hby at_102) rfl ?_
    show Steps p.tables e below (T3.setTop (mkF m 103 #[.val (.long q1), .second, .val (.long q2), .second, .val (.long q3), .second, .val (.long (315569519999999 : Int64)), .second, .val (.long (own_time q1)), .second, .val (.long (own_d q1 q2)), .second, .val (.long (own_inst q1 q2)), .second, .val (.long (own_lim q3)), .second, .val (.int (1 : Int32))] [(.int (lcmpW (own_d q1 q2) (1 : Int64)))])) _
    refine XS.ifNo X3.here hx rfl (hb hby at_103) rfl ((if0 _ _).trans (flt (fun q => (hc3 : ¬ ((own_d q1 q2) < (1 : Int64))) ((lw_lt _ _).mp q))).1) ?_
    show Steps p.tables e below (T3.setTop (mkF m 106 #[.val (.long q1), .second, .val (.long q2), .second, .val (.long q3), .second, .val (.long (315569519999999 : Int64)), .second, .val (.long (own_time q1)), .second, .val (.long (own_d q1 q2)), .second, .val (.long (own_inst q1 q2)), .second, .val (.long (own_lim q3)), .second, .val (.int (1 : Int32))] [])) _
    refine XS.lload X3.here hx rfl (hb hby at_106) rfl ?_
    show Steps p.tables e below (T3.setTop (mkF m 108 #[.val (.long q1), .second, .val (.long q2), .second, .val (.long q3), .second, .val (.long (315569519999999 : Int64)), .second, .val (.long (own_time q1)), .second, .val (.long (own_d q1 q2)), .second, .val (.long (own_inst q1 q2)), .second, .val (.long (own_lim q3)), .second, .val (.int (1 : Int32))] [(.long (own_time q1))])) _
    refine XS.lload X3.here hx rfl (hb hby at_108) rfl ?_
    show Steps p.tables e below (T3.setTop (mkF m 110 #[.val (.long q1), .second, .val (.long q2), .second, .val (.long q3), .second, .val (.long (315569519999999 : Int64)), .second, .val (.long (own_time q1)), .second, .val (.long (own_d q1 q2)), .second, .val (.long (own_inst q1 q2)), .second, .val (.long (own_lim q3)), .second, .val (.int (1 : Int32))] [(.long (own_inst q1 q2)), (.long (own_time q1))])) _
    refine XS.lload X3.here hx rfl (hb hby at_110) rfl ?_
    show Steps p.tables e below (T3.setTop (mkF m 112 #[.val (.long q1), .second, .val (.long q2), .second, .val (.long q3), .second, .val (.long (315569519999999 : Int64)), .second, .val (.long (own_time q1)), .second, .val (.long (own_d q1 q2)), .second, .val (.long (own_inst q1 q2)), .second, .val (.long (own_lim q3)), .second, .val (.int (1 : Int32))] [(.long (own_d q1 q2)), (.long (own_inst q1 q2)), (.long (own_time q1))])) _
    refine XS.lconst X3.here hx rfl (hb hby at_112) ?_
    show Steps p.tables e below (T3.setTop (mkF m 113 #[.val (.long q1), .second, .val (.long q2), .second, .val (.long q3), .second, .val (.long (315569519999999 : Int64)), .second, .val (.long (own_time q1)), .second, .val (.long (own_d q1 q2)), .second, .val (.long (own_inst q1 q2)), .second, .val (.long (own_lim q3)), .second, .val (.int (1 : Int32))] [(.long (1 : Int64)), (.long (own_d q1 q2)), (.long (own_inst q1 q2)), (.long (own_time q1))])) _
    refine XS.lsub X3.here hx rfl (hb hby at_113) rfl ?_
    show Steps p.tables e below (T3.setTop (mkF m 114 #[.val (.long q1), .second, .val (.long q2), .second, .val (.long q3), .second, .val (.long (315569519999999 : Int64)), .second, .val (.long (own_time q1)), .second, .val (.long (own_d q1 q2)), .second, .val (.long (own_inst q1 q2)), .second, .val (.long (own_lim q3)), .second, .val (.int (1 : Int32))] [(.long ((own_d q1 q2) - (1 : Int64))), (.long (own_inst q1 q2)), (.long (own_time q1))])) _
    refine st5 _ ?_
    show Steps p.tables e below (T5.setTop (mkF m 117 #[.val (.long q1), .second, .val (.long q2), .second, .val (.long q3), .second, .val (.long (315569519999999 : Int64)), .second, .val (.long (own_time q1)), .second, .val (.long (own_d q1 q2)), .second, .val (.long (own_inst q1 q2)), .second, .val (.long (own_lim q3)), .second, .val (.int (1 : Int32))] [(.int (f_older (own_time q1) (own_inst q1 q2) ((own_d q1 q2) - (1 : Int64))))])) _
    refine XS.ifYes X5.here hx rfl (pc0 := 117) (pc' := 122) rfl (hb hby at_117) rfl ((if0 _ _).trans (feq hc4).2) (by decide) (by decide) ?_
    show Steps p.tables e below (T5.setTop (mkF m 122 #[.val (.long q1), .second, .val (.long q2), .second, .val (.long q3), .second, .val (.long (315569519999999 : Int64)), .second, .val (.long (own_time q1)), .second, .val (.long (own_d q1 q2)), .second, .val (.long (own_inst q1 q2)), .second, .val (.long (own_lim q3)), .second, .val (.int (1 : Int32))] [])) _
    refine XS.iconst X5.here hx rfl (hb hby at_122) ?_
    show Steps p.tables e below (T5.setTop (mkF m 123 #[.val (.long q1), .second, .val (.long q2), .second, .val (.long q3), .second, .val (.long (315569519999999 : Int64)), .second, .val (.long (own_time q1)), .second, .val (.long (own_d q1 q2)), .second, .val (.long (own_inst q1 q2)), .second, .val (.long (own_lim q3)), .second, .val (.int (1 : Int32))] [(.int (1 : Int32))])) _
    exact retN X5 hx (t := .boolean) Bd.returns (by simp) (hb hby at_123) hr
  · show Q_law Z q1 q2 q3 h0 n0 _ T5.heap _
    rw [e5]
    exact ⟨rfl, N6⟩
def Road_fttt (q1 : Int64) (q2 : Int64) (q3 : Int64) : Prop := (¬ ((((253402300799999 : Int64) - (own_time q1)) + (1 : Int64)) = (0 : Int64))) ∧ (¬ ((own_lim q3) < (own_d q1 q2))) ∧ ((f_older (own_time q1) (own_inst q1 q2) (own_lim q3)) = (0 : Int32)) ∧ ((f_older (own_time q1) (own_inst q1 q2) (own_d q1 q2)) = (0 : Int32)) ∧ ((own_d q1 q2) < (1 : Int64))
set_option maxRecDepth 65536 in
set_option maxHeartbeats 40000000 in
theorem rm_law_fttt (l : Launch) (Z : State) (a0 : Array Value) (hw : ∀ d ∈ tables_1, d.before a0 Z = true) (ws : List Jvm.Cond) (q1 : Int64) (q2 : Int64) (q3 : Int64) (h0 : Heap) (n0 : Nat) (Z0 : n0 ≤ h0.size) (hroad : Road_fttt q1 q2 q3) :
    MetFree l x (head1 (Jvm.Cond.code x code maxLocals ret :: ws) room_1) (fun a U => a = #[(.long q1), (.long q2), (.long q3)] ∧ Z.Warmed39 U.vm ∧ U.heap = h0) (fun _ _ _ _ _ => True) (fun _ U o U' => ∃ v L, o = .returned v ∧ Q_law Z q1 q2 q3 h0 n0 v U'.heap L ∧ FrameEnd U o U' L room_1.cells room_1.slots) := by
  obtain ⟨hnz0, hc0, hc1, hc2, hc3⟩ := hroad
  refine MetFree.of_bodySF (plainFor_of_name pn_org_everroll_InstantsOlderThanPinLaw) hisR ?_
  intro p e s m args below meth c s₁ Bd hml0 hP hK
  obtain ⟨rfl, hZ, hh⟩ := hP
  have hx := Bd.exec
  have hby := Bd.bytes
  have hml : c.maxLocals = 17 := hml0
  have hown : s.vm.findClass "org/everroll/InstantsOlderThanPinLaw" = some m.cls := findClass_of_methodNamed Bd.named
  have hnm := (name_of_methodNamed Bd.named Bd.method).1
  have X0 : Stand p l e room_1 s m #[(.long q1), (.long q2), (.long q3)] below meth c s₁ [] 0 0 := Stand.of_body Bd
  have e0 : s₁.heap = h0 := by rw [← hh, Bd.state]; rfl
  have N0 := Fr.nil n0
  have pre0 : ∀ t, Steps p.tables e below (s₁.setTop (mkF m 0 #[.val (.long q1), .second, .val (.long q2), .second, .val (.long q3), .second, .unset, .unset, .unset, .unset, .unset, .unset, .unset, .unset, .unset, .unset, .unset] [])) t → Steps p.tables e below (s₁.setTop (entryFrame m #[(.long q1), (.long q2), (.long q3)] maxLocals)) t := fun t k => castTop (ef_0_JJJ m q1 q2 q3) k
  obtain ⟨_, _, ⟨T1, L1, k1, n1⟩, -, X1, ⟨Lc1, hQ1, l1, y1, z1⟩, st1⟩ := Jvm.LawKit.callS X0 hx (y := (⟨"org/everroll/Instants", "olderThan", "(JJJ)Z"⟩ : MethodName)) hown (mvT hZ (hw _ (List.mem_of_getElem? (i := 4) rfl))) (mvT hZ (hw _ (List.mem_of_getElem? (i := 5) rfl))) (mvT hZ (hw _ (List.mem_of_getElem? (i := 6) rfl))) (mvT hZ (hw _ (List.mem_of_getElem? (i := 7) rfl))) (by decide) (backOf (W := 0) (rm_older l Z a0 hw [] (own_time q1) (own_inst q1 q2) (own_lim q3) h0 n0 Z0 ) hZ (hw _ (List.mem_of_getElem? (i := 7) rfl)) (hw _ (List.mem_of_getElem? (i := 6) rfl)) (by decide) (by decide)) (g := (mkF m 75 #[.val (.long q1), .second, .val (.long q2), .second, .val (.long q3), .second, .val (.long (315569519999999 : Int64)), .second, .val (.long (own_time q1)), .second, .val (.long (own_d q1 q2)), .second, .val (.long (own_inst q1 q2)), .second, .val (.long (own_lim q3)), .second, .val (.int (0 : Int32))] [(.long (own_lim q3)), (.long (own_inst q1 q2)), (.long (own_time q1))])) rfl (by rw [hml]; rfl) (argsL := [(.long (own_time q1)), (.long (own_inst q1 q2)), (.long (own_lim q3))]) (rest := []) (lenOf pd_0 rfl) rfl (by show 2 * 0 + _ ≤ _; exact Nat.le_of_eq rfl) (hb hby at_75) (fun _ _ => ⟨rfl, e0, (by decide : 0 + 0 ≤ _), (by decide : 0 + 0 ≤ _)⟩)
  dsimp only [Pt.U, Pt.locs, Pt.cells, Pt.slots] at X1 l1 y1 z1 st1 hQ1
  subst l1 y1 z1
  obtain ⟨rfl, Nq1, e1⟩ := hQ1
  have N2 := Fr.app N0 Nq1
  obtain ⟨_, _, ⟨T3, L3, k3, n3⟩, -, X3, ⟨Lc3, hQ3, l3, y3, z3⟩, st3⟩ := Jvm.LawKit.callS X1 hx (y := (⟨"org/everroll/Instants", "olderThan", "(JJJ)Z"⟩ : MethodName)) hown (mvT hZ (hw _ (List.mem_of_getElem? (i := 4) rfl))) (mvT hZ (hw _ (List.mem_of_getElem? (i := 5) rfl))) (mvT hZ (hw _ (List.mem_of_getElem? (i := 6) rfl))) (mvT hZ (hw _ (List.mem_of_getElem? (i := 7) rfl))) (by decide) (backOf (W := 0) (rm_older l Z a0 hw [] (own_time q1) (own_inst q1 q2) (own_d q1 q2) h0 n0 Z0 ) hZ (hw _ (List.mem_of_getElem? (i := 7) rfl)) (hw _ (List.mem_of_getElem? (i := 6) rfl)) (by decide) (by decide)) (g := (mkF m 91 #[.val (.long q1), .second, .val (.long q2), .second, .val (.long q3), .second, .val (.long (315569519999999 : Int64)), .second, .val (.long (own_time q1)), .second, .val (.long (own_d q1 q2)), .second, .val (.long (own_inst q1 q2)), .second, .val (.long (own_lim q3)), .second, .val (.int (0 : Int32))] [(.long (own_d q1 q2)), (.long (own_inst q1 q2)), (.long (own_time q1))])) rfl (by rw [hml]; rfl) (argsL := [(.long (own_time q1)), (.long (own_inst q1 q2)), (.long (own_d q1 q2))]) (rest := []) (lenOf pd_0 rfl) rfl (by show 2 * 0 + _ ≤ _; exact Nat.le_of_eq rfl) (hb hby at_91) (fun _ _ => ⟨rfl, e1, (by decide : 0 + 0 ≤ _), (by decide : 0 + 0 ≤ _)⟩)
  dsimp only [Pt.U, Pt.locs, Pt.cells, Pt.slots] at X3 l3 y3 z3 st3 hQ3
  subst l3 y3 z3
  obtain ⟨rfl, Nq3, e3⟩ := hQ3
  have N4 := Fr.app N2 Nq3
  obtain ⟨fs, hr, hrun, hended, hW, hsame⟩ := X3.leave (v := some (.int (1 : Int32))) (fun h => by rw [Bd.returns] at h; cases h)
  refine ⟨_, _, pre0 _ ?_, hrun, hended, _, _, rfl, ?_, ⟨_, rfl⟩, hW, hsame.mono (by decide) (by decide)⟩
  · show Steps p.tables e below (s₁.setTop (mkF m 0 #[.val (.long q1), .second, .val (.long q2), .second, .val (.long q3), .second, .unset, .unset, .unset, .unset, .unset, .unset, .unset, .unset, .unset, .unset, .unset] [])) _
    refine X0.ldc2Long hx hown (mvT hZ (hw _ (List.mem_of_getElem? (i := 0) rfl))) (g := (mkF m 0 #[.val (.long q1), .second, .val (.long q2), .second, .val (.long q3), .second, .unset, .unset, .unset, .unset, .unset, .unset, .unset, .unset, .unset, .unset, .unset] [])) rfl (hb hby at_0) _ ?_
    show Steps p.tables e below (s₁.setTop (mkF m 3 #[.val (.long q1), .second, .val (.long q2), .second, .val (.long q3), .second, .unset, .unset, .unset, .unset, .unset, .unset, .unset, .unset, .unset, .unset, .unset] [(.long (315569519999999 : Int64))])) _
    refine XS.lstore X0.here hx rfl (hb hby at_3) rfl (l' := #[.val (.long q1), .second, .val (.long q2), .second, .val (.long q3), .second, .val (.long (315569519999999 : Int64)), .second, .unset, .unset, .unset, .unset, .unset, .unset, .unset, .unset, .unset]) rfl ?_
    show Steps p.tables e below (s₁.setTop (mkF m 5 #[.val (.long q1), .second, .val (.long q2), .second, .val (.long q3), .second, .val (.long (315569519999999 : Int64)), .second, .unset, .unset, .unset, .unset, .unset, .unset, .unset, .unset, .unset] [])) _
    refine X0.ldc2Long hx hown (mvT hZ (hw _ (List.mem_of_getElem? (i := 1) rfl))) (g := (mkF m 5 #[.val (.long q1), .second, .val (.long q2), .second, .val (.long q3), .second, .val (.long (315569519999999 : Int64)), .second, .unset, .unset, .unset, .unset, .unset, .unset, .unset, .unset, .unset] [])) rfl (hb hby at_5) _ ?_
    show Steps p.tables e below (s₁.setTop (mkF m 8 #[.val (.long q1), .second, .val (.long q2), .second, .val (.long q3), .second, .val (.long (315569519999999 : Int64)), .second, .unset, .unset, .unset, .unset, .unset, .unset, .unset, .unset, .unset] [(.long (-62167219200000 : Int64))])) _
    refine XS.lloadN X0.here hx rfl (hb hby at_8) rfl ?_
    show Steps p.tables e below (s₁.setTop (mkF m 9 #[.val (.long q1), .second, .val (.long q2), .second, .val (.long q3), .second, .val (.long (315569519999999 : Int64)), .second, .unset, .unset, .unset, .unset, .unset, .unset, .unset, .unset, .unset] [(.long q1), (.long (-62167219200000 : Int64))])) _
    refine X0.ldc2Long hx hown (mvT hZ (hw _ (List.mem_of_getElem? (i := 2) rfl))) (g := (mkF m 9 #[.val (.long q1), .second, .val (.long q2), .second, .val (.long q3), .second, .val (.long (315569519999999 : Int64)), .second, .unset, .unset, .unset, .unset, .unset, .unset, .unset, .unset, .unset] [(.long q1), (.long (-62167219200000 : Int64))])) rfl (hb hby at_9) _ ?_
    show Steps p.tables e below (s₁.setTop (mkF m 12 #[.val (.long q1), .second, .val (.long q2), .second, .val (.long q3), .second, .val (.long (315569519999999 : Int64)), .second, .unset, .unset, .unset, .unset, .unset, .unset, .unset, .unset, .unset] [(.long (9223372036854775807 : Int64)), (.long q1), (.long (-62167219200000 : Int64))])) _
    refine XS.land X0.here hx rfl (hb hby at_12) rfl ?_
    show Steps p.tables e below (s₁.setTop (mkF m 13 #[.val (.long q1), .second, .val (.long q2), .second, .val (.long q3), .second, .val (.long (315569519999999 : Int64)), .second, .unset, .unset, .unset, .unset, .unset, .unset, .unset, .unset, .unset] [(.long (q1 &&& (9223372036854775807 : Int64))), (.long (-62167219200000 : Int64))])) _
    refine XS.lload X0.here hx rfl (hb hby at_13) rfl ?_
    show Steps p.tables e below (s₁.setTop (mkF m 15 #[.val (.long q1), .second, .val (.long q2), .second, .val (.long q3), .second, .val (.long (315569519999999 : Int64)), .second, .unset, .unset, .unset, .unset, .unset, .unset, .unset, .unset, .unset] [(.long (315569519999999 : Int64)), (.long (q1 &&& (9223372036854775807 : Int64))), (.long (-62167219200000 : Int64))])) _
    refine XS.lconst X0.here hx rfl (hb hby at_15) ?_
    show Steps p.tables e below (s₁.setTop (mkF m 16 #[.val (.long q1), .second, .val (.long q2), .second, .val (.long q3), .second, .val (.long (315569519999999 : Int64)), .second, .unset, .unset, .unset, .unset, .unset, .unset, .unset, .unset, .unset] [(.long (1 : Int64)), (.long (315569519999999 : Int64)), (.long (q1 &&& (9223372036854775807 : Int64))), (.long (-62167219200000 : Int64))])) _
    refine XS.ladd X0.here hx rfl (hb hby at_16) rfl ?_
    show Steps p.tables e below (s₁.setTop (mkF m 17 #[.val (.long q1), .second, .val (.long q2), .second, .val (.long q3), .second, .val (.long (315569519999999 : Int64)), .second, .unset, .unset, .unset, .unset, .unset, .unset, .unset, .unset, .unset] [(.long (315569520000000 : Int64)), (.long (q1 &&& (9223372036854775807 : Int64))), (.long (-62167219200000 : Int64))])) _
    refine XS.lrem X0.here hx rfl (hb hby at_17) rfl (by decide) ?_
    rw [lrem_mod]
    show Steps p.tables e below (s₁.setTop (mkF m 18 #[.val (.long q1), .second, .val (.long q2), .second, .val (.long q3), .second, .val (.long (315569519999999 : Int64)), .second, .unset, .unset, .unset, .unset, .unset, .unset, .unset, .unset, .unset] [(.long ((q1 &&& (9223372036854775807 : Int64)) % (315569520000000 : Int64))), (.long (-62167219200000 : Int64))])) _
    refine XS.ladd X0.here hx rfl (hb hby at_18) rfl ?_
    show Steps p.tables e below (s₁.setTop (mkF m 19 #[.val (.long q1), .second, .val (.long q2), .second, .val (.long q3), .second, .val (.long (315569519999999 : Int64)), .second, .unset, .unset, .unset, .unset, .unset, .unset, .unset, .unset, .unset] [(.long ((-62167219200000 : Int64) + ((q1 &&& (9223372036854775807 : Int64)) % (315569520000000 : Int64))))])) _
    refine XS.lstore X0.here hx rfl (hb hby at_19) rfl (l' := #[.val (.long q1), .second, .val (.long q2), .second, .val (.long q3), .second, .val (.long (315569519999999 : Int64)), .second, .val (.long (own_time q1)), .second, .unset, .unset, .unset, .unset, .unset, .unset, .unset]) rfl ?_
    show Steps p.tables e below (s₁.setTop (mkF m 21 #[.val (.long q1), .second, .val (.long q2), .second, .val (.long q3), .second, .val (.long (315569519999999 : Int64)), .second, .val (.long (own_time q1)), .second, .unset, .unset, .unset, .unset, .unset, .unset, .unset] [])) _
    refine XS.lloadN X0.here hx rfl (hb hby at_21) rfl ?_
    show Steps p.tables e below (s₁.setTop (mkF m 22 #[.val (.long q1), .second, .val (.long q2), .second, .val (.long q3), .second, .val (.long (315569519999999 : Int64)), .second, .val (.long (own_time q1)), .second, .unset, .unset, .unset, .unset, .unset, .unset, .unset] [(.long q2)])) _
    refine X0.ldc2Long hx hown (mvT hZ (hw _ (List.mem_of_getElem? (i := 2) rfl))) (g := (mkF m 22 #[.val (.long q1), .second, .val (.long q2), .second, .val (.long q3), .second, .val (.long (315569519999999 : Int64)), .second, .val (.long (own_time q1)), .second, .unset, .unset, .unset, .unset, .unset, .unset, .unset] [(.long q2)])) rfl (hb hby at_22) _ ?_
    show Steps p.tables e below (s₁.setTop (mkF m 25 #[.val (.long q1), .second, .val (.long q2), .second, .val (.long q3), .second, .val (.long (315569519999999 : Int64)), .second, .val (.long (own_time q1)), .second, .unset, .unset, .unset, .unset, .unset, .unset, .unset] [(.long (9223372036854775807 : Int64)), (.long q2)])) _
    refine XS.land X0.here hx rfl (hb hby at_25) rfl ?_
    show Steps p.tables e below (s₁.setTop (mkF m 26 #[.val (.long q1), .second, .val (.long q2), .second, .val (.long q3), .second, .val (.long (315569519999999 : Int64)), .second, .val (.long (own_time q1)), .second, .unset, .unset, .unset, .unset, .unset, .unset, .unset] [(.long (q2 &&& (9223372036854775807 : Int64)))])) _
    refine X0.ldc2Long hx hown (mvT hZ (hw _ (List.mem_of_getElem? (i := 3) rfl))) (g := (mkF m 26 #[.val (.long q1), .second, .val (.long q2), .second, .val (.long q3), .second, .val (.long (315569519999999 : Int64)), .second, .val (.long (own_time q1)), .second, .unset, .unset, .unset, .unset, .unset, .unset, .unset] [(.long (q2 &&& (9223372036854775807 : Int64)))])) rfl (hb hby at_26) _ ?_
    show Steps p.tables e below (s₁.setTop (mkF m 29 #[.val (.long q1), .second, .val (.long q2), .second, .val (.long q3), .second, .val (.long (315569519999999 : Int64)), .second, .val (.long (own_time q1)), .second, .unset, .unset, .unset, .unset, .unset, .unset, .unset] [(.long (253402300799999 : Int64)), (.long (q2 &&& (9223372036854775807 : Int64)))])) _
    refine XS.lload X0.here hx rfl (hb hby at_29) rfl ?_
    show Steps p.tables e below (s₁.setTop (mkF m 31 #[.val (.long q1), .second, .val (.long q2), .second, .val (.long q3), .second, .val (.long (315569519999999 : Int64)), .second, .val (.long (own_time q1)), .second, .unset, .unset, .unset, .unset, .unset, .unset, .unset] [(.long (own_time q1)), (.long (253402300799999 : Int64)), (.long (q2 &&& (9223372036854775807 : Int64)))])) _
    refine XS.lsub X0.here hx rfl (hb hby at_31) rfl ?_
    show Steps p.tables e below (s₁.setTop (mkF m 32 #[.val (.long q1), .second, .val (.long q2), .second, .val (.long q3), .second, .val (.long (315569519999999 : Int64)), .second, .val (.long (own_time q1)), .second, .unset, .unset, .unset, .unset, .unset, .unset, .unset] [(.long ((253402300799999 : Int64) - (own_time q1))), (.long (q2 &&& (9223372036854775807 : Int64)))])) _
    refine XS.lconst X0.here hx rfl (hb hby at_32) ?_
    show Steps p.tables e below (s₁.setTop (mkF m 33 #[.val (.long q1), .second, .val (.long q2), .second, .val (.long q3), .second, .val (.long (315569519999999 : Int64)), .second, .val (.long (own_time q1)), .second, .unset, .unset, .unset, .unset, .unset, .unset, .unset] [(.long (1 : Int64)), (.long ((253402300799999 : Int64) - (own_time q1))), (.long (q2 &&& (9223372036854775807 : Int64)))])) _
    refine XS.ladd X0.here hx rfl (hb hby at_33) rfl ?_
    show Steps p.tables e below (s₁.setTop (mkF m 34 #[.val (.long q1), .second, .val (.long q2), .second, .val (.long q3), .second, .val (.long (315569519999999 : Int64)), .second, .val (.long (own_time q1)), .second, .unset, .unset, .unset, .unset, .unset, .unset, .unset] [(.long (((253402300799999 : Int64) - (own_time q1)) + (1 : Int64))), (.long (q2 &&& (9223372036854775807 : Int64)))])) _
    refine XS.lrem X0.here hx rfl (hb hby at_34) rfl hnz0 ?_
    rw [lrem_mod]
    show Steps p.tables e below (s₁.setTop (mkF m 35 #[.val (.long q1), .second, .val (.long q2), .second, .val (.long q3), .second, .val (.long (315569519999999 : Int64)), .second, .val (.long (own_time q1)), .second, .unset, .unset, .unset, .unset, .unset, .unset, .unset] [(.long ((q2 &&& (9223372036854775807 : Int64)) % (((253402300799999 : Int64) - (own_time q1)) + (1 : Int64))))])) _
    refine XS.lstore X0.here hx rfl (hb hby at_35) rfl (l' := #[.val (.long q1), .second, .val (.long q2), .second, .val (.long q3), .second, .val (.long (315569519999999 : Int64)), .second, .val (.long (own_time q1)), .second, .val (.long (own_d q1 q2)), .second, .unset, .unset, .unset, .unset, .unset]) rfl ?_
    show Steps p.tables e below (s₁.setTop (mkF m 37 #[.val (.long q1), .second, .val (.long q2), .second, .val (.long q3), .second, .val (.long (315569519999999 : Int64)), .second, .val (.long (own_time q1)), .second, .val (.long (own_d q1 q2)), .second, .unset, .unset, .unset, .unset, .unset] [])) _
    refine XS.lload X0.here hx rfl (hb hby at_37) rfl ?_
    show Steps p.tables e below (s₁.setTop (mkF m 39 #[.val (.long q1), .second, .val (.long q2), .second, .val (.long q3), .second, .val (.long (315569519999999 : Int64)), .second, .val (.long (own_time q1)), .second, .val (.long (own_d q1 q2)), .second, .unset, .unset, .unset, .unset, .unset] [(.long (own_time q1))])) _
    refine XS.lload X0.here hx rfl (hb hby at_39) rfl ?_
    show Steps p.tables e below (s₁.setTop (mkF m 41 #[.val (.long q1), .second, .val (.long q2), .second, .val (.long q3), .second, .val (.long (315569519999999 : Int64)), .second, .val (.long (own_time q1)), .second, .val (.long (own_d q1 q2)), .second, .unset, .unset, .unset, .unset, .unset] [(.long (own_d q1 q2)), (.long (own_time q1))])) _
    refine XS.ladd X0.here hx rfl (hb hby at_41) rfl ?_
    show Steps p.tables e below (s₁.setTop (mkF m 42 #[.val (.long q1), .second, .val (.long q2), .second, .val (.long q3), .second, .val (.long (315569519999999 : Int64)), .second, .val (.long (own_time q1)), .second, .val (.long (own_d q1 q2)), .second, .unset, .unset, .unset, .unset, .unset] [(.long ((own_time q1) + (own_d q1 q2)))])) _
    refine XS.lstore X0.here hx rfl (hb hby at_42) rfl (l' := #[.val (.long q1), .second, .val (.long q2), .second, .val (.long q3), .second, .val (.long (315569519999999 : Int64)), .second, .val (.long (own_time q1)), .second, .val (.long (own_d q1 q2)), .second, .val (.long (own_inst q1 q2)), .second, .unset, .unset, .unset]) rfl ?_
    show Steps p.tables e below (s₁.setTop (mkF m 44 #[.val (.long q1), .second, .val (.long q2), .second, .val (.long q3), .second, .val (.long (315569519999999 : Int64)), .second, .val (.long (own_time q1)), .second, .val (.long (own_d q1 q2)), .second, .val (.long (own_inst q1 q2)), .second, .unset, .unset, .unset] [])) _
    refine XS.lload X0.here hx rfl (hb hby at_44) rfl ?_
    show Steps p.tables e below (s₁.setTop (mkF m 46 #[.val (.long q1), .second, .val (.long q2), .second, .val (.long q3), .second, .val (.long (315569519999999 : Int64)), .second, .val (.long (own_time q1)), .second, .val (.long (own_d q1 q2)), .second, .val (.long (own_inst q1 q2)), .second, .unset, .unset, .unset] [(.long q3)])) _
    refine X0.ldc2Long hx hown (mvT hZ (hw _ (List.mem_of_getElem? (i := 2) rfl))) (g := (mkF m 46 #[.val (.long q1), .second, .val (.long q2), .second, .val (.long q3), .second, .val (.long (315569519999999 : Int64)), .second, .val (.long (own_time q1)), .second, .val (.long (own_d q1 q2)), .second, .val (.long (own_inst q1 q2)), .second, .unset, .unset, .unset] [(.long q3)])) rfl (hb hby at_46) _ ?_
    show Steps p.tables e below (s₁.setTop (mkF m 49 #[.val (.long q1), .second, .val (.long q2), .second, .val (.long q3), .second, .val (.long (315569519999999 : Int64)), .second, .val (.long (own_time q1)), .second, .val (.long (own_d q1 q2)), .second, .val (.long (own_inst q1 q2)), .second, .unset, .unset, .unset] [(.long (9223372036854775807 : Int64)), (.long q3)])) _
    refine XS.land X0.here hx rfl (hb hby at_49) rfl ?_
    show Steps p.tables e below (s₁.setTop (mkF m 50 #[.val (.long q1), .second, .val (.long q2), .second, .val (.long q3), .second, .val (.long (315569519999999 : Int64)), .second, .val (.long (own_time q1)), .second, .val (.long (own_d q1 q2)), .second, .val (.long (own_inst q1 q2)), .second, .unset, .unset, .unset] [(.long (q3 &&& (9223372036854775807 : Int64)))])) _
    refine XS.lstore X0.here hx rfl (hb hby at_50) rfl (l' := #[.val (.long q1), .second, .val (.long q2), .second, .val (.long q3), .second, .val (.long (315569519999999 : Int64)), .second, .val (.long (own_time q1)), .second, .val (.long (own_d q1 q2)), .second, .val (.long (own_inst q1 q2)), .second, .val (.long (own_lim q3)), .second, .unset]) rfl ?_
    show Steps p.tables e below (s₁.setTop (mkF m 52 #[.val (.long q1), .second, .val (.long q2), .second, .val (.long q3), .second, .val (.long (315569519999999 : Int64)), .second, .val (.long (own_time q1)), .second, .val (.long (own_d q1 q2)), .second, .val (.long (own_inst q1 q2)), .second, .val (.long (own_lim q3)), .second, .unset] [])) _
    refine XS.lload X0.here hx rfl (hb hby at_52) rfl ?_
    show Steps p.tables e below (s₁.setTop (mkF m 54 #[.val (.long q1), .second, .val (.long q2), .second, .val (.long q3), .second, .val (.long (315569519999999 : Int64)), .second, .val (.long (own_time q1)), .second, .val (.long (own_d q1 q2)), .second, .val (.long (own_inst q1 q2)), .second, .val (.long (own_lim q3)), .second, .unset] [(.long (own_lim q3))])) _
    refine XS.lload X0.here hx rfl (hb hby at_54) rfl ?_
    show Steps p.tables e below (s₁.setTop (mkF m 56 #[.val (.long q1), .second, .val (.long q2), .second, .val (.long q3), .second, .val (.long (315569519999999 : Int64)), .second, .val (.long (own_time q1)), .second, .val (.long (own_d q1 q2)), .second, .val (.long (own_inst q1 q2)), .second, .val (.long (own_lim q3)), .second, .unset] [(.long (own_d q1 q2)), (.long (own_lim q3))])) _
    refine XS.lcmp X0.here hx rfl (hb hby at_56) rfl ?_
    show Steps p.tables e below (s₁.setTop (mkF m 57 #[.val (.long q1), .second, .val (.long q2), .second, .val (.long q3), .second, .val (.long (315569519999999 : Int64)), .second, .val (.long (own_time q1)), .second, .val (.long (own_d q1 q2)), .second, .val (.long (own_inst q1 q2)), .second, .val (.long (own_lim q3)), .second, .unset] [(.int (lcmpW (own_lim q3) (own_d q1 q2)))])) _
    refine XS.ifNo X0.here hx rfl (hb hby at_57) rfl ((if0 _ _).trans (flt (fun q => (hc0 : ¬ ((own_lim q3) < (own_d q1 q2))) ((lw_lt _ _).mp q))).1) ?_
    show Steps p.tables e below (s₁.setTop (mkF m 60 #[.val (.long q1), .second, .val (.long q2), .second, .val (.long q3), .second, .val (.long (315569519999999 : Int64)), .second, .val (.long (own_time q1)), .second, .val (.long (own_d q1 q2)), .second, .val (.long (own_inst q1 q2)), .second, .val (.long (own_lim q3)), .second, .unset] [])) _
    refine XS.iconst X0.here hx rfl (hb hby at_60) ?_
    show Steps p.tables e below (s₁.setTop (mkF m 61 #[.val (.long q1), .second, .val (.long q2), .second, .val (.long q3), .second, .val (.long (315569519999999 : Int64)), .second, .val (.long (own_time q1)), .second, .val (.long (own_d q1 q2)), .second, .val (.long (own_inst q1 q2)), .second, .val (.long (own_lim q3)), .second, .unset] [(.int (0 : Int32))])) _
    refine XS.istore X0.here hx rfl (hb hby at_61) rfl (l' := #[.val (.long q1), .second, .val (.long q2), .second, .val (.long q3), .second, .val (.long (315569519999999 : Int64)), .second, .val (.long (own_time q1)), .second, .val (.long (own_d q1 q2)), .second, .val (.long (own_inst q1 q2)), .second, .val (.long (own_lim q3)), .second, .val (.int (0 : Int32))]) rfl ?_
    show Steps p.tables e below (s₁.setTop (mkF m 63 #[.val (.long q1), .second, .val (.long q2), .second, .val (.long q3), .second, .val (.long (315569519999999 : Int64)), .second, .val (.long (own_time q1)), .second, .val (.long (own_d q1 q2)), .second, .val (.long (own_inst q1 q2)), .second, .val (.long (own_lim q3)), .second, .val (.int (0 : Int32))] [])) _
    refine XS.goto X0.here hx rfl (pc0 := 63) (pc' := 69) rfl (hb hby at_63) (by decide) (by decide) ?_
    show Steps p.tables e below (s₁.setTop (mkF m 69 #[.val (.long q1), .second, .val (.long q2), .second, .val (.long q3), .second, .val (.long (315569519999999 : Int64)), .second, .val (.long (own_time q1)), .second, .val (.long (own_d q1 q2)), .second, .val (.long (own_inst q1 q2)), .second, .val (.long (own_lim q3)), .second, .val (.int (0 : Int32))] [])) _
    refine XS.lload X0.here hx rfl (hb hby at_69) rfl ?_
    show Steps p.tables e below (s₁.setTop (mkF m 71 #[.val (.long q1), .second, .val (.long q2), .second, .val (.long q3), .second, .val (.long (315569519999999 : Int64)), .second, .val (.long (own_time q1)), .second, .val (.long (own_d q1 q2)), .second, .val (.long (own_inst q1 q2)), .second, .val (.long (own_lim q3)), .second, .val (.int (0 : Int32))] [(.long (own_time q1))])) _
    refine XS.lload X0.here hx rfl (hb hby at_71) rfl ?_
    show Steps p.tables e below (s₁.setTop (mkF m 73 #[.val (.long q1), .second, .val (.long q2), .second, .val (.long q3), .second, .val (.long (315569519999999 : Int64)), .second, .val (.long (own_time q1)), .second, .val (.long (own_d q1 q2)), .second, .val (.long (own_inst q1 q2)), .second, .val (.long (own_lim q3)), .second, .val (.int (0 : Int32))] [(.long (own_inst q1 q2)), (.long (own_time q1))])) _
    refine XS.lload X0.here hx rfl (hb hby at_73) rfl ?_
    show Steps p.tables e below (s₁.setTop (mkF m 75 #[.val (.long q1), .second, .val (.long q2), .second, .val (.long q3), .second, .val (.long (315569519999999 : Int64)), .second, .val (.long (own_time q1)), .second, .val (.long (own_d q1 q2)), .second, .val (.long (own_inst q1 q2)), .second, .val (.long (own_lim q3)), .second, .val (.int (0 : Int32))] [(.long (own_lim q3)), (.long (own_inst q1 q2)), (.long (own_time q1))])) _
    refine st1 _ ?_
    show Steps p.tables e below (T1.setTop (mkF m 78 #[.val (.long q1), .second, .val (.long q2), .second, .val (.long q3), .second, .val (.long (315569519999999 : Int64)), .second, .val (.long (own_time q1)), .second, .val (.long (own_d q1 q2)), .second, .val (.long (own_inst q1 q2)), .second, .val (.long (own_lim q3)), .second, .val (.int (0 : Int32))] [(.int (f_older (own_time q1) (own_inst q1 q2) (own_lim q3)))])) _
    refine XS.iload X1.here hx rfl (hb hby at_78) rfl ?_
    show Steps p.tables e below (T1.setTop (mkF m 80 #[.val (.long q1), .second, .val (.long q2), .second, .val (.long q3), .second, .val (.long (315569519999999 : Int64)), .second, .val (.long (own_time q1)), .second, .val (.long (own_d q1 q2)), .second, .val (.long (own_inst q1 q2)), .second, .val (.long (own_lim q3)), .second, .val (.int (0 : Int32))] [(.int (0 : Int32)), (.int (f_older (own_time q1) (own_inst q1 q2) (own_lim q3)))])) _
    refine XS.icmpYes X1.here hx rfl (pc0 := 80) (pc' := 85) rfl (hb hby at_80) rfl (teq hc1).1 (by decide) (by decide) ?_
    show Steps p.tables e below (T1.setTop (mkF m 85 #[.val (.long q1), .second, .val (.long q2), .second, .val (.long q3), .second, .val (.long (315569519999999 : Int64)), .second, .val (.long (own_time q1)), .second, .val (.long (own_d q1 q2)), .second, .val (.long (own_inst q1 q2)), .second, .val (.long (own_lim q3)), .second, .val (.int (0 : Int32))] [])) _
    refine XS.lload X1.here hx rfl (hb hby at_85) rfl ?_
    show Steps p.tables e below (T1.setTop (mkF m 87 #[.val (.long q1), .second, .val (.long q2), .second, .val (.long q3), .second, .val (.long (315569519999999 : Int64)), .second, .val (.long (own_time q1)), .second, .val (.long (own_d q1 q2)), .second, .val (.long (own_inst q1 q2)), .second, .val (.long (own_lim q3)), .second, .val (.int (0 : Int32))] [(.long (own_time q1))])) _
    refine XS.lload X1.here hx rfl (hb hby at_87) rfl ?_
    show Steps p.tables e below (T1.setTop (mkF m 89 #[.val (.long q1), .second, .val (.long q2), .second, .val (.long q3), .second, .val (.long (315569519999999 : Int64)), .second, .val (.long (own_time q1)), .second, .val (.long (own_d q1 q2)), .second, .val (.long (own_inst q1 q2)), .second, .val (.long (own_lim q3)), .second, .val (.int (0 : Int32))] [(.long (own_inst q1 q2)), (.long (own_time q1))])) _
    refine XS.lload X1.here hx rfl (hb hby at_89) rfl ?_
    show Steps p.tables e below (T1.setTop (mkF m 91 #[.val (.long q1), .second, .val (.long q2), .second, .val (.long q3), .second, .val (.long (315569519999999 : Int64)), .second, .val (.long (own_time q1)), .second, .val (.long (own_d q1 q2)), .second, .val (.long (own_inst q1 q2)), .second, .val (.long (own_lim q3)), .second, .val (.int (0 : Int32))] [(.long (own_d q1 q2)), (.long (own_inst q1 q2)), (.long (own_time q1))])) _
    refine st3 _ ?_
    show Steps p.tables e below (T3.setTop (mkF m 94 #[.val (.long q1), .second, .val (.long q2), .second, .val (.long q3), .second, .val (.long (315569519999999 : Int64)), .second, .val (.long (own_time q1)), .second, .val (.long (own_d q1 q2)), .second, .val (.long (own_inst q1 q2)), .second, .val (.long (own_lim q3)), .second, .val (.int (0 : Int32))] [(.int (f_older (own_time q1) (own_inst q1 q2) (own_d q1 q2)))])) _
    refine XS.ifYes X3.here hx rfl (pc0 := 94) (pc' := 99) rfl (hb hby at_94) rfl ((if0 _ _).trans (teq hc2).1) (by decide) (by decide) ?_
    show Steps p.tables e below (T3.setTop (mkF m 99 #[.val (.long q1), .second, .val (.long q2), .second, .val (.long q3), .second, .val (.long (315569519999999 : Int64)), .second, .val (.long (own_time q1)), .second, .val (.long (own_d q1 q2)), .second, .val (.long (own_inst q1 q2)), .second, .val (.long (own_lim q3)), .second, .val (.int (0 : Int32))] [])) _
    refine XS.lload X3.here hx rfl (hb hby at_99) rfl ?_
    show Steps p.tables e below (T3.setTop (mkF m 101 #[.val (.long q1), .second, .val (.long q2), .second, .val (.long q3), .second, .val (.long (315569519999999 : Int64)), .second, .val (.long (own_time q1)), .second, .val (.long (own_d q1 q2)), .second, .val (.long (own_inst q1 q2)), .second, .val (.long (own_lim q3)), .second, .val (.int (0 : Int32))] [(.long (own_d q1 q2))])) _
    refine XS.lconst X3.here hx rfl (hb hby at_101) ?_
    show Steps p.tables e below (T3.setTop (mkF m 102 #[.val (.long q1), .second, .val (.long q2), .second, .val (.long q3), .second, .val (.long (315569519999999 : Int64)), .second, .val (.long (own_time q1)), .second, .val (.long (own_d q1 q2)), .second, .val (.long (own_inst q1 q2)), .second, .val (.long (own_lim q3)), .second, .val (.int (0 : Int32))] [(.long (1 : Int64)), (.long (own_d q1 q2))])) _
    refine XS.lcmp X3.here hx rfl (hb hby at_102) rfl ?_
    show Steps p.tables e below (T3.setTop (mkF m 103 #[.val (.long q1), .second, .val (.long q2), .second, .val (.long q3), .second, .val (.long (315569519999999 : Int64)), .second, .val (.long (own_time q1)), .second, .val (.long (own_d q1 q2)), .second, .val (.long (own_inst q1 q2)), .second, .val (.long (own_lim q3)), .second, .val (.int (0 : Int32))] [(.int (lcmpW (own_d q1 q2) (1 : Int64)))])) _
    refine XS.ifYes X3.here hx rfl (pc0 := 103) (pc' := 122) rfl (hb hby at_103) rfl ((if0 _ _).trans (tlt ((lw_lt _ _).mpr (hc3 : (own_d q1 q2) < (1 : Int64)))).1) (by decide) (by decide) ?_
    show Steps p.tables e below (T3.setTop (mkF m 122 #[.val (.long q1), .second, .val (.long q2), .second, .val (.long q3), .second, .val (.long (315569519999999 : Int64)), .second, .val (.long (own_time q1)), .second, .val (.long (own_d q1 q2)), .second, .val (.long (own_inst q1 q2)), .second, .val (.long (own_lim q3)), .second, .val (.int (0 : Int32))] [])) _
    refine XS.iconst X3.here hx rfl (hb hby at_122) ?_
    show Steps p.tables e below (T3.setTop (mkF m 123 #[.val (.long q1), .second, .val (.long q2), .second, .val (.long q3), .second, .val (.long (315569519999999 : Int64)), .second, .val (.long (own_time q1)), .second, .val (.long (own_d q1 q2)), .second, .val (.long (own_inst q1 q2)), .second, .val (.long (own_lim q3)), .second, .val (.int (0 : Int32))] [(.int (1 : Int32))])) _
    exact retN X3 hx (t := .boolean) Bd.returns (by simp) (hb hby at_123) hr
  · show Q_law Z q1 q2 q3 h0 n0 _ T3.heap _
    rw [e3]
    exact ⟨rfl, N4⟩
def Road_fttft (q1 : Int64) (q2 : Int64) (q3 : Int64) : Prop := (¬ ((((253402300799999 : Int64) - (own_time q1)) + (1 : Int64)) = (0 : Int64))) ∧ (¬ ((own_lim q3) < (own_d q1 q2))) ∧ ((f_older (own_time q1) (own_inst q1 q2) (own_lim q3)) = (0 : Int32)) ∧ ((f_older (own_time q1) (own_inst q1 q2) (own_d q1 q2)) = (0 : Int32)) ∧ (¬ ((own_d q1 q2) < (1 : Int64))) ∧ (¬ ((f_older (own_time q1) (own_inst q1 q2) ((own_d q1 q2) - (1 : Int64))) = (0 : Int32)))
set_option maxRecDepth 65536 in
set_option maxHeartbeats 40000000 in
theorem rm_law_fttft (l : Launch) (Z : State) (a0 : Array Value) (hw : ∀ d ∈ tables_1, d.before a0 Z = true) (ws : List Jvm.Cond) (q1 : Int64) (q2 : Int64) (q3 : Int64) (h0 : Heap) (n0 : Nat) (Z0 : n0 ≤ h0.size) (hroad : Road_fttft q1 q2 q3) :
    MetFree l x (head1 (Jvm.Cond.code x code maxLocals ret :: ws) room_1) (fun a U => a = #[(.long q1), (.long q2), (.long q3)] ∧ Z.Warmed39 U.vm ∧ U.heap = h0) (fun _ _ _ _ _ => True) (fun _ U o U' => ∃ v L, o = .returned v ∧ Q_law Z q1 q2 q3 h0 n0 v U'.heap L ∧ FrameEnd U o U' L room_1.cells room_1.slots) := by
  obtain ⟨hnz0, hc0, hc1, hc2, hc3, hc4⟩ := hroad
  refine MetFree.of_bodySF (plainFor_of_name pn_org_everroll_InstantsOlderThanPinLaw) hisR ?_
  intro p e s m args below meth c s₁ Bd hml0 hP hK
  obtain ⟨rfl, hZ, hh⟩ := hP
  have hx := Bd.exec
  have hby := Bd.bytes
  have hml : c.maxLocals = 17 := hml0
  have hown : s.vm.findClass "org/everroll/InstantsOlderThanPinLaw" = some m.cls := findClass_of_methodNamed Bd.named
  have hnm := (name_of_methodNamed Bd.named Bd.method).1
  have X0 : Stand p l e room_1 s m #[(.long q1), (.long q2), (.long q3)] below meth c s₁ [] 0 0 := Stand.of_body Bd
  have e0 : s₁.heap = h0 := by rw [← hh, Bd.state]; rfl
  have N0 := Fr.nil n0
  have pre0 : ∀ t, Steps p.tables e below (s₁.setTop (mkF m 0 #[.val (.long q1), .second, .val (.long q2), .second, .val (.long q3), .second, .unset, .unset, .unset, .unset, .unset, .unset, .unset, .unset, .unset, .unset, .unset] [])) t → Steps p.tables e below (s₁.setTop (entryFrame m #[(.long q1), (.long q2), (.long q3)] maxLocals)) t := fun t k => castTop (ef_0_JJJ m q1 q2 q3) k
  obtain ⟨_, _, ⟨T1, L1, k1, n1⟩, -, X1, ⟨Lc1, hQ1, l1, y1, z1⟩, st1⟩ := Jvm.LawKit.callS X0 hx (y := (⟨"org/everroll/Instants", "olderThan", "(JJJ)Z"⟩ : MethodName)) hown (mvT hZ (hw _ (List.mem_of_getElem? (i := 4) rfl))) (mvT hZ (hw _ (List.mem_of_getElem? (i := 5) rfl))) (mvT hZ (hw _ (List.mem_of_getElem? (i := 6) rfl))) (mvT hZ (hw _ (List.mem_of_getElem? (i := 7) rfl))) (by decide) (backOf (W := 0) (rm_older l Z a0 hw [] (own_time q1) (own_inst q1 q2) (own_lim q3) h0 n0 Z0 ) hZ (hw _ (List.mem_of_getElem? (i := 7) rfl)) (hw _ (List.mem_of_getElem? (i := 6) rfl)) (by decide) (by decide)) (g := (mkF m 75 #[.val (.long q1), .second, .val (.long q2), .second, .val (.long q3), .second, .val (.long (315569519999999 : Int64)), .second, .val (.long (own_time q1)), .second, .val (.long (own_d q1 q2)), .second, .val (.long (own_inst q1 q2)), .second, .val (.long (own_lim q3)), .second, .val (.int (0 : Int32))] [(.long (own_lim q3)), (.long (own_inst q1 q2)), (.long (own_time q1))])) rfl (by rw [hml]; rfl) (argsL := [(.long (own_time q1)), (.long (own_inst q1 q2)), (.long (own_lim q3))]) (rest := []) (lenOf pd_0 rfl) rfl (by show 2 * 0 + _ ≤ _; exact Nat.le_of_eq rfl) (hb hby at_75) (fun _ _ => ⟨rfl, e0, (by decide : 0 + 0 ≤ _), (by decide : 0 + 0 ≤ _)⟩)
  dsimp only [Pt.U, Pt.locs, Pt.cells, Pt.slots] at X1 l1 y1 z1 st1 hQ1
  subst l1 y1 z1
  obtain ⟨rfl, Nq1, e1⟩ := hQ1
  have N2 := Fr.app N0 Nq1
  obtain ⟨_, _, ⟨T3, L3, k3, n3⟩, -, X3, ⟨Lc3, hQ3, l3, y3, z3⟩, st3⟩ := Jvm.LawKit.callS X1 hx (y := (⟨"org/everroll/Instants", "olderThan", "(JJJ)Z"⟩ : MethodName)) hown (mvT hZ (hw _ (List.mem_of_getElem? (i := 4) rfl))) (mvT hZ (hw _ (List.mem_of_getElem? (i := 5) rfl))) (mvT hZ (hw _ (List.mem_of_getElem? (i := 6) rfl))) (mvT hZ (hw _ (List.mem_of_getElem? (i := 7) rfl))) (by decide) (backOf (W := 0) (rm_older l Z a0 hw [] (own_time q1) (own_inst q1 q2) (own_d q1 q2) h0 n0 Z0 ) hZ (hw _ (List.mem_of_getElem? (i := 7) rfl)) (hw _ (List.mem_of_getElem? (i := 6) rfl)) (by decide) (by decide)) (g := (mkF m 91 #[.val (.long q1), .second, .val (.long q2), .second, .val (.long q3), .second, .val (.long (315569519999999 : Int64)), .second, .val (.long (own_time q1)), .second, .val (.long (own_d q1 q2)), .second, .val (.long (own_inst q1 q2)), .second, .val (.long (own_lim q3)), .second, .val (.int (0 : Int32))] [(.long (own_d q1 q2)), (.long (own_inst q1 q2)), (.long (own_time q1))])) rfl (by rw [hml]; rfl) (argsL := [(.long (own_time q1)), (.long (own_inst q1 q2)), (.long (own_d q1 q2))]) (rest := []) (lenOf pd_0 rfl) rfl (by show 2 * 0 + _ ≤ _; exact Nat.le_of_eq rfl) (hb hby at_91) (fun _ _ => ⟨rfl, e1, (by decide : 0 + 0 ≤ _), (by decide : 0 + 0 ≤ _)⟩)
  dsimp only [Pt.U, Pt.locs, Pt.cells, Pt.slots] at X3 l3 y3 z3 st3 hQ3
  subst l3 y3 z3
  obtain ⟨rfl, Nq3, e3⟩ := hQ3
  have N4 := Fr.app N2 Nq3
  obtain ⟨_, _, ⟨T5, L5, k5, n5⟩, -, X5, ⟨Lc5, hQ5, l5, y5, z5⟩, st5⟩ := Jvm.LawKit.callS X3 hx (y := (⟨"org/everroll/Instants", "olderThan", "(JJJ)Z"⟩ : MethodName)) hown (mvT hZ (hw _ (List.mem_of_getElem? (i := 4) rfl))) (mvT hZ (hw _ (List.mem_of_getElem? (i := 5) rfl))) (mvT hZ (hw _ (List.mem_of_getElem? (i := 6) rfl))) (mvT hZ (hw _ (List.mem_of_getElem? (i := 7) rfl))) (by decide) (backOf (W := 0) (rm_older l Z a0 hw [] (own_time q1) (own_inst q1 q2) ((own_d q1 q2) - (1 : Int64)) h0 n0 Z0 ) hZ (hw _ (List.mem_of_getElem? (i := 7) rfl)) (hw _ (List.mem_of_getElem? (i := 6) rfl)) (by decide) (by decide)) (g := (mkF m 114 #[.val (.long q1), .second, .val (.long q2), .second, .val (.long q3), .second, .val (.long (315569519999999 : Int64)), .second, .val (.long (own_time q1)), .second, .val (.long (own_d q1 q2)), .second, .val (.long (own_inst q1 q2)), .second, .val (.long (own_lim q3)), .second, .val (.int (0 : Int32))] [(.long ((own_d q1 q2) - (1 : Int64))), (.long (own_inst q1 q2)), (.long (own_time q1))])) rfl (by rw [hml]; rfl) (argsL := [(.long (own_time q1)), (.long (own_inst q1 q2)), (.long ((own_d q1 q2) - (1 : Int64)))]) (rest := []) (lenOf pd_0 rfl) rfl (by show 2 * 0 + _ ≤ _; exact Nat.le_of_eq rfl) (hb hby at_114) (fun _ _ => ⟨rfl, e3, (by decide : 0 + 0 ≤ _), (by decide : 0 + 0 ≤ _)⟩)
  dsimp only [Pt.U, Pt.locs, Pt.cells, Pt.slots] at X5 l5 y5 z5 st5 hQ5
  subst l5 y5 z5
  obtain ⟨rfl, Nq5, e5⟩ := hQ5
  have N6 := Fr.app N4 Nq5
  obtain ⟨fs, hr, hrun, hended, hW, hsame⟩ := X5.leave (v := some (.int (1 : Int32))) (fun h => by rw [Bd.returns] at h; cases h)
  refine ⟨_, _, pre0 _ ?_, hrun, hended, _, _, rfl, ?_, ⟨_, rfl⟩, hW, hsame.mono (by decide) (by decide)⟩
  · show Steps p.tables e below (s₁.setTop (mkF m 0 #[.val (.long q1), .second, .val (.long q2), .second, .val (.long q3), .second, .unset, .unset, .unset, .unset, .unset, .unset, .unset, .unset, .unset, .unset, .unset] [])) _
    refine X0.ldc2Long hx hown (mvT hZ (hw _ (List.mem_of_getElem? (i := 0) rfl))) (g := (mkF m 0 #[.val (.long q1), .second, .val (.long q2), .second, .val (.long q3), .second, .unset, .unset, .unset, .unset, .unset, .unset, .unset, .unset, .unset, .unset, .unset] [])) rfl (hb hby at_0) _ ?_
    show Steps p.tables e below (s₁.setTop (mkF m 3 #[.val (.long q1), .second, .val (.long q2), .second, .val (.long q3), .second, .unset, .unset, .unset, .unset, .unset, .unset, .unset, .unset, .unset, .unset, .unset] [(.long (315569519999999 : Int64))])) _
    refine XS.lstore X0.here hx rfl (hb hby at_3) rfl (l' := #[.val (.long q1), .second, .val (.long q2), .second, .val (.long q3), .second, .val (.long (315569519999999 : Int64)), .second, .unset, .unset, .unset, .unset, .unset, .unset, .unset, .unset, .unset]) rfl ?_
    show Steps p.tables e below (s₁.setTop (mkF m 5 #[.val (.long q1), .second, .val (.long q2), .second, .val (.long q3), .second, .val (.long (315569519999999 : Int64)), .second, .unset, .unset, .unset, .unset, .unset, .unset, .unset, .unset, .unset] [])) _
    refine X0.ldc2Long hx hown (mvT hZ (hw _ (List.mem_of_getElem? (i := 1) rfl))) (g := (mkF m 5 #[.val (.long q1), .second, .val (.long q2), .second, .val (.long q3), .second, .val (.long (315569519999999 : Int64)), .second, .unset, .unset, .unset, .unset, .unset, .unset, .unset, .unset, .unset] [])) rfl (hb hby at_5) _ ?_
    show Steps p.tables e below (s₁.setTop (mkF m 8 #[.val (.long q1), .second, .val (.long q2), .second, .val (.long q3), .second, .val (.long (315569519999999 : Int64)), .second, .unset, .unset, .unset, .unset, .unset, .unset, .unset, .unset, .unset] [(.long (-62167219200000 : Int64))])) _
    refine XS.lloadN X0.here hx rfl (hb hby at_8) rfl ?_
    show Steps p.tables e below (s₁.setTop (mkF m 9 #[.val (.long q1), .second, .val (.long q2), .second, .val (.long q3), .second, .val (.long (315569519999999 : Int64)), .second, .unset, .unset, .unset, .unset, .unset, .unset, .unset, .unset, .unset] [(.long q1), (.long (-62167219200000 : Int64))])) _
    refine X0.ldc2Long hx hown (mvT hZ (hw _ (List.mem_of_getElem? (i := 2) rfl))) (g := (mkF m 9 #[.val (.long q1), .second, .val (.long q2), .second, .val (.long q3), .second, .val (.long (315569519999999 : Int64)), .second, .unset, .unset, .unset, .unset, .unset, .unset, .unset, .unset, .unset] [(.long q1), (.long (-62167219200000 : Int64))])) rfl (hb hby at_9) _ ?_
    show Steps p.tables e below (s₁.setTop (mkF m 12 #[.val (.long q1), .second, .val (.long q2), .second, .val (.long q3), .second, .val (.long (315569519999999 : Int64)), .second, .unset, .unset, .unset, .unset, .unset, .unset, .unset, .unset, .unset] [(.long (9223372036854775807 : Int64)), (.long q1), (.long (-62167219200000 : Int64))])) _
    refine XS.land X0.here hx rfl (hb hby at_12) rfl ?_
    show Steps p.tables e below (s₁.setTop (mkF m 13 #[.val (.long q1), .second, .val (.long q2), .second, .val (.long q3), .second, .val (.long (315569519999999 : Int64)), .second, .unset, .unset, .unset, .unset, .unset, .unset, .unset, .unset, .unset] [(.long (q1 &&& (9223372036854775807 : Int64))), (.long (-62167219200000 : Int64))])) _
    refine XS.lload X0.here hx rfl (hb hby at_13) rfl ?_
    show Steps p.tables e below (s₁.setTop (mkF m 15 #[.val (.long q1), .second, .val (.long q2), .second, .val (.long q3), .second, .val (.long (315569519999999 : Int64)), .second, .unset, .unset, .unset, .unset, .unset, .unset, .unset, .unset, .unset] [(.long (315569519999999 : Int64)), (.long (q1 &&& (9223372036854775807 : Int64))), (.long (-62167219200000 : Int64))])) _
    refine XS.lconst X0.here hx rfl (hb hby at_15) ?_
    show Steps p.tables e below (s₁.setTop (mkF m 16 #[.val (.long q1), .second, .val (.long q2), .second, .val (.long q3), .second, .val (.long (315569519999999 : Int64)), .second, .unset, .unset, .unset, .unset, .unset, .unset, .unset, .unset, .unset] [(.long (1 : Int64)), (.long (315569519999999 : Int64)), (.long (q1 &&& (9223372036854775807 : Int64))), (.long (-62167219200000 : Int64))])) _
    refine XS.ladd X0.here hx rfl (hb hby at_16) rfl ?_
    show Steps p.tables e below (s₁.setTop (mkF m 17 #[.val (.long q1), .second, .val (.long q2), .second, .val (.long q3), .second, .val (.long (315569519999999 : Int64)), .second, .unset, .unset, .unset, .unset, .unset, .unset, .unset, .unset, .unset] [(.long (315569520000000 : Int64)), (.long (q1 &&& (9223372036854775807 : Int64))), (.long (-62167219200000 : Int64))])) _
    refine XS.lrem X0.here hx rfl (hb hby at_17) rfl (by decide) ?_
    rw [lrem_mod]
    show Steps p.tables e below (s₁.setTop (mkF m 18 #[.val (.long q1), .second, .val (.long q2), .second, .val (.long q3), .second, .val (.long (315569519999999 : Int64)), .second, .unset, .unset, .unset, .unset, .unset, .unset, .unset, .unset, .unset] [(.long ((q1 &&& (9223372036854775807 : Int64)) % (315569520000000 : Int64))), (.long (-62167219200000 : Int64))])) _
    refine XS.ladd X0.here hx rfl (hb hby at_18) rfl ?_
    show Steps p.tables e below (s₁.setTop (mkF m 19 #[.val (.long q1), .second, .val (.long q2), .second, .val (.long q3), .second, .val (.long (315569519999999 : Int64)), .second, .unset, .unset, .unset, .unset, .unset, .unset, .unset, .unset, .unset] [(.long ((-62167219200000 : Int64) + ((q1 &&& (9223372036854775807 : Int64)) % (315569520000000 : Int64))))])) _
    refine XS.lstore X0.here hx rfl (hb hby at_19) rfl (l' := #[.val (.long q1), .second, .val (.long q2), .second, .val (.long q3), .second, .val (.long (315569519999999 : Int64)), .second, .val (.long (own_time q1)), .second, .unset, .unset, .unset, .unset, .unset, .unset, .unset]) rfl ?_
    show Steps p.tables e below (s₁.setTop (mkF m 21 #[.val (.long q1), .second, .val (.long q2), .second, .val (.long q3), .second, .val (.long (315569519999999 : Int64)), .second, .val (.long (own_time q1)), .second, .unset, .unset, .unset, .unset, .unset, .unset, .unset] [])) _
    refine XS.lloadN X0.here hx rfl (hb hby at_21) rfl ?_
    show Steps p.tables e below (s₁.setTop (mkF m 22 #[.val (.long q1), .second, .val (.long q2), .second, .val (.long q3), .second, .val (.long (315569519999999 : Int64)), .second, .val (.long (own_time q1)), .second, .unset, .unset, .unset, .unset, .unset, .unset, .unset] [(.long q2)])) _
    refine X0.ldc2Long hx hown (mvT hZ (hw _ (List.mem_of_getElem? (i := 2) rfl))) (g := (mkF m 22 #[.val (.long q1), .second, .val (.long q2), .second, .val (.long q3), .second, .val (.long (315569519999999 : Int64)), .second, .val (.long (own_time q1)), .second, .unset, .unset, .unset, .unset, .unset, .unset, .unset] [(.long q2)])) rfl (hb hby at_22) _ ?_
    show Steps p.tables e below (s₁.setTop (mkF m 25 #[.val (.long q1), .second, .val (.long q2), .second, .val (.long q3), .second, .val (.long (315569519999999 : Int64)), .second, .val (.long (own_time q1)), .second, .unset, .unset, .unset, .unset, .unset, .unset, .unset] [(.long (9223372036854775807 : Int64)), (.long q2)])) _
    refine XS.land X0.here hx rfl (hb hby at_25) rfl ?_
    show Steps p.tables e below (s₁.setTop (mkF m 26 #[.val (.long q1), .second, .val (.long q2), .second, .val (.long q3), .second, .val (.long (315569519999999 : Int64)), .second, .val (.long (own_time q1)), .second, .unset, .unset, .unset, .unset, .unset, .unset, .unset] [(.long (q2 &&& (9223372036854775807 : Int64)))])) _
    refine X0.ldc2Long hx hown (mvT hZ (hw _ (List.mem_of_getElem? (i := 3) rfl))) (g := (mkF m 26 #[.val (.long q1), .second, .val (.long q2), .second, .val (.long q3), .second, .val (.long (315569519999999 : Int64)), .second, .val (.long (own_time q1)), .second, .unset, .unset, .unset, .unset, .unset, .unset, .unset] [(.long (q2 &&& (9223372036854775807 : Int64)))])) rfl (hb hby at_26) _ ?_
    show Steps p.tables e below (s₁.setTop (mkF m 29 #[.val (.long q1), .second, .val (.long q2), .second, .val (.long q3), .second, .val (.long (315569519999999 : Int64)), .second, .val (.long (own_time q1)), .second, .unset, .unset, .unset, .unset, .unset, .unset, .unset] [(.long (253402300799999 : Int64)), (.long (q2 &&& (9223372036854775807 : Int64)))])) _
    refine XS.lload X0.here hx rfl (hb hby at_29) rfl ?_
    show Steps p.tables e below (s₁.setTop (mkF m 31 #[.val (.long q1), .second, .val (.long q2), .second, .val (.long q3), .second, .val (.long (315569519999999 : Int64)), .second, .val (.long (own_time q1)), .second, .unset, .unset, .unset, .unset, .unset, .unset, .unset] [(.long (own_time q1)), (.long (253402300799999 : Int64)), (.long (q2 &&& (9223372036854775807 : Int64)))])) _
    refine XS.lsub X0.here hx rfl (hb hby at_31) rfl ?_
    show Steps p.tables e below (s₁.setTop (mkF m 32 #[.val (.long q1), .second, .val (.long q2), .second, .val (.long q3), .second, .val (.long (315569519999999 : Int64)), .second, .val (.long (own_time q1)), .second, .unset, .unset, .unset, .unset, .unset, .unset, .unset] [(.long ((253402300799999 : Int64) - (own_time q1))), (.long (q2 &&& (9223372036854775807 : Int64)))])) _
    refine XS.lconst X0.here hx rfl (hb hby at_32) ?_
    show Steps p.tables e below (s₁.setTop (mkF m 33 #[.val (.long q1), .second, .val (.long q2), .second, .val (.long q3), .second, .val (.long (315569519999999 : Int64)), .second, .val (.long (own_time q1)), .second, .unset, .unset, .unset, .unset, .unset, .unset, .unset] [(.long (1 : Int64)), (.long ((253402300799999 : Int64) - (own_time q1))), (.long (q2 &&& (9223372036854775807 : Int64)))])) _
    refine XS.ladd X0.here hx rfl (hb hby at_33) rfl ?_
    show Steps p.tables e below (s₁.setTop (mkF m 34 #[.val (.long q1), .second, .val (.long q2), .second, .val (.long q3), .second, .val (.long (315569519999999 : Int64)), .second, .val (.long (own_time q1)), .second, .unset, .unset, .unset, .unset, .unset, .unset, .unset] [(.long (((253402300799999 : Int64) - (own_time q1)) + (1 : Int64))), (.long (q2 &&& (9223372036854775807 : Int64)))])) _
    refine XS.lrem X0.here hx rfl (hb hby at_34) rfl hnz0 ?_
    rw [lrem_mod]
    show Steps p.tables e below (s₁.setTop (mkF m 35 #[.val (.long q1), .second, .val (.long q2), .second, .val (.long q3), .second, .val (.long (315569519999999 : Int64)), .second, .val (.long (own_time q1)), .second, .unset, .unset, .unset, .unset, .unset, .unset, .unset] [(.long ((q2 &&& (9223372036854775807 : Int64)) % (((253402300799999 : Int64) - (own_time q1)) + (1 : Int64))))])) _
    refine XS.lstore X0.here hx rfl (hb hby at_35) rfl (l' := #[.val (.long q1), .second, .val (.long q2), .second, .val (.long q3), .second, .val (.long (315569519999999 : Int64)), .second, .val (.long (own_time q1)), .second, .val (.long (own_d q1 q2)), .second, .unset, .unset, .unset, .unset, .unset]) rfl ?_
    show Steps p.tables e below (s₁.setTop (mkF m 37 #[.val (.long q1), .second, .val (.long q2), .second, .val (.long q3), .second, .val (.long (315569519999999 : Int64)), .second, .val (.long (own_time q1)), .second, .val (.long (own_d q1 q2)), .second, .unset, .unset, .unset, .unset, .unset] [])) _
    refine XS.lload X0.here hx rfl (hb hby at_37) rfl ?_
    show Steps p.tables e below (s₁.setTop (mkF m 39 #[.val (.long q1), .second, .val (.long q2), .second, .val (.long q3), .second, .val (.long (315569519999999 : Int64)), .second, .val (.long (own_time q1)), .second, .val (.long (own_d q1 q2)), .second, .unset, .unset, .unset, .unset, .unset] [(.long (own_time q1))])) _
    refine XS.lload X0.here hx rfl (hb hby at_39) rfl ?_
    show Steps p.tables e below (s₁.setTop (mkF m 41 #[.val (.long q1), .second, .val (.long q2), .second, .val (.long q3), .second, .val (.long (315569519999999 : Int64)), .second, .val (.long (own_time q1)), .second, .val (.long (own_d q1 q2)), .second, .unset, .unset, .unset, .unset, .unset] [(.long (own_d q1 q2)), (.long (own_time q1))])) _
    refine XS.ladd X0.here hx rfl (hb hby at_41) rfl ?_
    show Steps p.tables e below (s₁.setTop (mkF m 42 #[.val (.long q1), .second, .val (.long q2), .second, .val (.long q3), .second, .val (.long (315569519999999 : Int64)), .second, .val (.long (own_time q1)), .second, .val (.long (own_d q1 q2)), .second, .unset, .unset, .unset, .unset, .unset] [(.long ((own_time q1) + (own_d q1 q2)))])) _
    refine XS.lstore X0.here hx rfl (hb hby at_42) rfl (l' := #[.val (.long q1), .second, .val (.long q2), .second, .val (.long q3), .second, .val (.long (315569519999999 : Int64)), .second, .val (.long (own_time q1)), .second, .val (.long (own_d q1 q2)), .second, .val (.long (own_inst q1 q2)), .second, .unset, .unset, .unset]) rfl ?_
    show Steps p.tables e below (s₁.setTop (mkF m 44 #[.val (.long q1), .second, .val (.long q2), .second, .val (.long q3), .second, .val (.long (315569519999999 : Int64)), .second, .val (.long (own_time q1)), .second, .val (.long (own_d q1 q2)), .second, .val (.long (own_inst q1 q2)), .second, .unset, .unset, .unset] [])) _
    refine XS.lload X0.here hx rfl (hb hby at_44) rfl ?_
    show Steps p.tables e below (s₁.setTop (mkF m 46 #[.val (.long q1), .second, .val (.long q2), .second, .val (.long q3), .second, .val (.long (315569519999999 : Int64)), .second, .val (.long (own_time q1)), .second, .val (.long (own_d q1 q2)), .second, .val (.long (own_inst q1 q2)), .second, .unset, .unset, .unset] [(.long q3)])) _
    refine X0.ldc2Long hx hown (mvT hZ (hw _ (List.mem_of_getElem? (i := 2) rfl))) (g := (mkF m 46 #[.val (.long q1), .second, .val (.long q2), .second, .val (.long q3), .second, .val (.long (315569519999999 : Int64)), .second, .val (.long (own_time q1)), .second, .val (.long (own_d q1 q2)), .second, .val (.long (own_inst q1 q2)), .second, .unset, .unset, .unset] [(.long q3)])) rfl (hb hby at_46) _ ?_
    show Steps p.tables e below (s₁.setTop (mkF m 49 #[.val (.long q1), .second, .val (.long q2), .second, .val (.long q3), .second, .val (.long (315569519999999 : Int64)), .second, .val (.long (own_time q1)), .second, .val (.long (own_d q1 q2)), .second, .val (.long (own_inst q1 q2)), .second, .unset, .unset, .unset] [(.long (9223372036854775807 : Int64)), (.long q3)])) _
    refine XS.land X0.here hx rfl (hb hby at_49) rfl ?_
    show Steps p.tables e below (s₁.setTop (mkF m 50 #[.val (.long q1), .second, .val (.long q2), .second, .val (.long q3), .second, .val (.long (315569519999999 : Int64)), .second, .val (.long (own_time q1)), .second, .val (.long (own_d q1 q2)), .second, .val (.long (own_inst q1 q2)), .second, .unset, .unset, .unset] [(.long (q3 &&& (9223372036854775807 : Int64)))])) _
    refine XS.lstore X0.here hx rfl (hb hby at_50) rfl (l' := #[.val (.long q1), .second, .val (.long q2), .second, .val (.long q3), .second, .val (.long (315569519999999 : Int64)), .second, .val (.long (own_time q1)), .second, .val (.long (own_d q1 q2)), .second, .val (.long (own_inst q1 q2)), .second, .val (.long (own_lim q3)), .second, .unset]) rfl ?_
    show Steps p.tables e below (s₁.setTop (mkF m 52 #[.val (.long q1), .second, .val (.long q2), .second, .val (.long q3), .second, .val (.long (315569519999999 : Int64)), .second, .val (.long (own_time q1)), .second, .val (.long (own_d q1 q2)), .second, .val (.long (own_inst q1 q2)), .second, .val (.long (own_lim q3)), .second, .unset] [])) _
    refine XS.lload X0.here hx rfl (hb hby at_52) rfl ?_
    show Steps p.tables e below (s₁.setTop (mkF m 54 #[.val (.long q1), .second, .val (.long q2), .second, .val (.long q3), .second, .val (.long (315569519999999 : Int64)), .second, .val (.long (own_time q1)), .second, .val (.long (own_d q1 q2)), .second, .val (.long (own_inst q1 q2)), .second, .val (.long (own_lim q3)), .second, .unset] [(.long (own_lim q3))])) _
    refine XS.lload X0.here hx rfl (hb hby at_54) rfl ?_
    show Steps p.tables e below (s₁.setTop (mkF m 56 #[.val (.long q1), .second, .val (.long q2), .second, .val (.long q3), .second, .val (.long (315569519999999 : Int64)), .second, .val (.long (own_time q1)), .second, .val (.long (own_d q1 q2)), .second, .val (.long (own_inst q1 q2)), .second, .val (.long (own_lim q3)), .second, .unset] [(.long (own_d q1 q2)), (.long (own_lim q3))])) _
    refine XS.lcmp X0.here hx rfl (hb hby at_56) rfl ?_
    show Steps p.tables e below (s₁.setTop (mkF m 57 #[.val (.long q1), .second, .val (.long q2), .second, .val (.long q3), .second, .val (.long (315569519999999 : Int64)), .second, .val (.long (own_time q1)), .second, .val (.long (own_d q1 q2)), .second, .val (.long (own_inst q1 q2)), .second, .val (.long (own_lim q3)), .second, .unset] [(.int (lcmpW (own_lim q3) (own_d q1 q2)))])) _
    refine XS.ifNo X0.here hx rfl (hb hby at_57) rfl ((if0 _ _).trans (flt (fun q => (hc0 : ¬ ((own_lim q3) < (own_d q1 q2))) ((lw_lt _ _).mp q))).1) ?_
    show Steps p.tables e below (s₁.setTop (mkF m 60 #[.val (.long q1), .second, .val (.long q2), .second, .val (.long q3), .second, .val (.long (315569519999999 : Int64)), .second, .val (.long (own_time q1)), .second, .val (.long (own_d q1 q2)), .second, .val (.long (own_inst q1 q2)), .second, .val (.long (own_lim q3)), .second, .unset] [])) _
    refine XS.iconst X0.here hx rfl (hb hby at_60) ?_
    show Steps p.tables e below (s₁.setTop (mkF m 61 #[.val (.long q1), .second, .val (.long q2), .second, .val (.long q3), .second, .val (.long (315569519999999 : Int64)), .second, .val (.long (own_time q1)), .second, .val (.long (own_d q1 q2)), .second, .val (.long (own_inst q1 q2)), .second, .val (.long (own_lim q3)), .second, .unset] [(.int (0 : Int32))])) _
    refine XS.istore X0.here hx rfl (hb hby at_61) rfl (l' := #[.val (.long q1), .second, .val (.long q2), .second, .val (.long q3), .second, .val (.long (315569519999999 : Int64)), .second, .val (.long (own_time q1)), .second, .val (.long (own_d q1 q2)), .second, .val (.long (own_inst q1 q2)), .second, .val (.long (own_lim q3)), .second, .val (.int (0 : Int32))]) rfl ?_
    show Steps p.tables e below (s₁.setTop (mkF m 63 #[.val (.long q1), .second, .val (.long q2), .second, .val (.long q3), .second, .val (.long (315569519999999 : Int64)), .second, .val (.long (own_time q1)), .second, .val (.long (own_d q1 q2)), .second, .val (.long (own_inst q1 q2)), .second, .val (.long (own_lim q3)), .second, .val (.int (0 : Int32))] [])) _
    refine XS.goto X0.here hx rfl (pc0 := 63) (pc' := 69) rfl (hb hby at_63) (by decide) (by decide) ?_
    show Steps p.tables e below (s₁.setTop (mkF m 69 #[.val (.long q1), .second, .val (.long q2), .second, .val (.long q3), .second, .val (.long (315569519999999 : Int64)), .second, .val (.long (own_time q1)), .second, .val (.long (own_d q1 q2)), .second, .val (.long (own_inst q1 q2)), .second, .val (.long (own_lim q3)), .second, .val (.int (0 : Int32))] [])) _
    refine XS.lload X0.here hx rfl (hb hby at_69) rfl ?_
    show Steps p.tables e below (s₁.setTop (mkF m 71 #[.val (.long q1), .second, .val (.long q2), .second, .val (.long q3), .second, .val (.long (315569519999999 : Int64)), .second, .val (.long (own_time q1)), .second, .val (.long (own_d q1 q2)), .second, .val (.long (own_inst q1 q2)), .second, .val (.long (own_lim q3)), .second, .val (.int (0 : Int32))] [(.long (own_time q1))])) _
    refine XS.lload X0.here hx rfl (hb hby at_71) rfl ?_
    show Steps p.tables e below (s₁.setTop (mkF m 73 #[.val (.long q1), .second, .val (.long q2), .second, .val (.long q3), .second, .val (.long (315569519999999 : Int64)), .second, .val (.long (own_time q1)), .second, .val (.long (own_d q1 q2)), .second, .val (.long (own_inst q1 q2)), .second, .val (.long (own_lim q3)), .second, .val (.int (0 : Int32))] [(.long (own_inst q1 q2)), (.long (own_time q1))])) _
    refine XS.lload X0.here hx rfl (hb hby at_73) rfl ?_
    show Steps p.tables e below (s₁.setTop (mkF m 75 #[.val (.long q1), .second, .val (.long q2), .second, .val (.long q3), .second, .val (.long (315569519999999 : Int64)), .second, .val (.long (own_time q1)), .second, .val (.long (own_d q1 q2)), .second, .val (.long (own_inst q1 q2)), .second, .val (.long (own_lim q3)), .second, .val (.int (0 : Int32))] [(.long (own_lim q3)), (.long (own_inst q1 q2)), (.long (own_time q1))])) _
    refine st1 _ ?_
    show Steps p.tables e below (T1.setTop (mkF m 78 #[.val (.long q1), .second, .val (.long q2), .second, .val (.long q3), .second, .val (.long (315569519999999 : Int64)), .second, .val (.long (own_time q1)), .second, .val (.long (own_d q1 q2)), .second, .val (.long (own_inst q1 q2)), .second, .val (.long (own_lim q3)), .second, .val (.int (0 : Int32))] [(.int (f_older (own_time q1) (own_inst q1 q2) (own_lim q3)))])) _
    refine XS.iload X1.here hx rfl (hb hby at_78) rfl ?_
    show Steps p.tables e below (T1.setTop (mkF m 80 #[.val (.long q1), .second, .val (.long q2), .second, .val (.long q3), .second, .val (.long (315569519999999 : Int64)), .second, .val (.long (own_time q1)), .second, .val (.long (own_d q1 q2)), .second, .val (.long (own_inst q1 q2)), .second, .val (.long (own_lim q3)), .second, .val (.int (0 : Int32))] [(.int (0 : Int32)), (.int (f_older (own_time q1) (own_inst q1 q2) (own_lim q3)))])) _
    refine XS.icmpYes X1.here hx rfl (pc0 := 80) (pc' := 85) rfl (hb hby at_80) rfl (teq hc1).1 (by decide) (by decide) ?_
    show Steps p.tables e below (T1.setTop (mkF m 85 #[.val (.long q1), .second, .val (.long q2), .second, .val (.long q3), .second, .val (.long (315569519999999 : Int64)), .second, .val (.long (own_time q1)), .second, .val (.long (own_d q1 q2)), .second, .val (.long (own_inst q1 q2)), .second, .val (.long (own_lim q3)), .second, .val (.int (0 : Int32))] [])) _
    refine XS.lload X1.here hx rfl (hb hby at_85) rfl ?_
    show Steps p.tables e below (T1.setTop (mkF m 87 #[.val (.long q1), .second, .val (.long q2), .second, .val (.long q3), .second, .val (.long (315569519999999 : Int64)), .second, .val (.long (own_time q1)), .second, .val (.long (own_d q1 q2)), .second, .val (.long (own_inst q1 q2)), .second, .val (.long (own_lim q3)), .second, .val (.int (0 : Int32))] [(.long (own_time q1))])) _
    refine XS.lload X1.here hx rfl (hb hby at_87) rfl ?_
    show Steps p.tables e below (T1.setTop (mkF m 89 #[.val (.long q1), .second, .val (.long q2), .second, .val (.long q3), .second, .val (.long (315569519999999 : Int64)), .second, .val (.long (own_time q1)), .second, .val (.long (own_d q1 q2)), .second, .val (.long (own_inst q1 q2)), .second, .val (.long (own_lim q3)), .second, .val (.int (0 : Int32))] [(.long (own_inst q1 q2)), (.long (own_time q1))])) _
    refine XS.lload X1.here hx rfl (hb hby at_89) rfl ?_
    show Steps p.tables e below (T1.setTop (mkF m 91 #[.val (.long q1), .second, .val (.long q2), .second, .val (.long q3), .second, .val (.long (315569519999999 : Int64)), .second, .val (.long (own_time q1)), .second, .val (.long (own_d q1 q2)), .second, .val (.long (own_inst q1 q2)), .second, .val (.long (own_lim q3)), .second, .val (.int (0 : Int32))] [(.long (own_d q1 q2)), (.long (own_inst q1 q2)), (.long (own_time q1))])) _
    refine st3 _ ?_
    show Steps p.tables e below (T3.setTop (mkF m 94 #[.val (.long q1), .second, .val (.long q2), .second, .val (.long q3), .second, .val (.long (315569519999999 : Int64)), .second, .val (.long (own_time q1)), .second, .val (.long (own_d q1 q2)), .second, .val (.long (own_inst q1 q2)), .second, .val (.long (own_lim q3)), .second, .val (.int (0 : Int32))] [(.int (f_older (own_time q1) (own_inst q1 q2) (own_d q1 q2)))])) _
    refine XS.ifYes X3.here hx rfl (pc0 := 94) (pc' := 99) rfl (hb hby at_94) rfl ((if0 _ _).trans (teq hc2).1) (by decide) (by decide) ?_
    show Steps p.tables e below (T3.setTop (mkF m 99 #[.val (.long q1), .second, .val (.long q2), .second, .val (.long q3), .second, .val (.long (315569519999999 : Int64)), .second, .val (.long (own_time q1)), .second, .val (.long (own_d q1 q2)), .second, .val (.long (own_inst q1 q2)), .second, .val (.long (own_lim q3)), .second, .val (.int (0 : Int32))] [])) _
    refine XS.lload X3.here hx rfl (hb hby at_99) rfl ?_
    show Steps p.tables e below (T3.setTop (mkF m 101 #[.val (.long q1), .second, .val (.long q2), .second, .val (.long q3), .second, .val (.long (315569519999999 : Int64)), .second, .val (.long (own_time q1)), .second, .val (.long (own_d q1 q2)), .second, .val (.long (own_inst q1 q2)), .second, .val (.long (own_lim q3)), .second, .val (.int (0 : Int32))] [(.long (own_d q1 q2))])) _
    refine XS.lconst X3.here hx rfl (hb hby at_101) ?_
    show Steps p.tables e below (T3.setTop (mkF m 102 #[.val (.long q1), .second, .val (.long q2), .second, .val (.long q3), .second, .val (.long (315569519999999 : Int64)), .second, .val (.long (own_time q1)), .second, .val (.long (own_d q1 q2)), .second, .val (.long (own_inst q1 q2)), .second, .val (.long (own_lim q3)), .second, .val (.int (0 : Int32))] [(.long (1 : Int64)), (.long (own_d q1 q2))])) _
    refine XS.lcmp X3.here hx rfl (hb hby at_102) rfl ?_
    show Steps p.tables e below (T3.setTop (mkF m 103 #[.val (.long q1), .second, .val (.long q2), .second, .val (.long q3), .second, .val (.long (315569519999999 : Int64)), .second, .val (.long (own_time q1)), .second, .val (.long (own_d q1 q2)), .second, .val (.long (own_inst q1 q2)), .second, .val (.long (own_lim q3)), .second, .val (.int (0 : Int32))] [(.int (lcmpW (own_d q1 q2) (1 : Int64)))])) _
    refine XS.ifNo X3.here hx rfl (hb hby at_103) rfl ((if0 _ _).trans (flt (fun q => (hc3 : ¬ ((own_d q1 q2) < (1 : Int64))) ((lw_lt _ _).mp q))).1) ?_
    show Steps p.tables e below (T3.setTop (mkF m 106 #[.val (.long q1), .second, .val (.long q2), .second, .val (.long q3), .second, .val (.long (315569519999999 : Int64)), .second, .val (.long (own_time q1)), .second, .val (.long (own_d q1 q2)), .second, .val (.long (own_inst q1 q2)), .second, .val (.long (own_lim q3)), .second, .val (.int (0 : Int32))] [])) _
    refine XS.lload X3.here hx rfl (hb hby at_106) rfl ?_
    show Steps p.tables e below (T3.setTop (mkF m 108 #[.val (.long q1), .second, .val (.long q2), .second, .val (.long q3), .second, .val (.long (315569519999999 : Int64)), .second, .val (.long (own_time q1)), .second, .val (.long (own_d q1 q2)), .second, .val (.long (own_inst q1 q2)), .second, .val (.long (own_lim q3)), .second, .val (.int (0 : Int32))] [(.long (own_time q1))])) _
    refine XS.lload X3.here hx rfl (hb hby at_108) rfl ?_
    show Steps p.tables e below (T3.setTop (mkF m 110 #[.val (.long q1), .second, .val (.long q2), .second, .val (.long q3), .second, .val (.long (315569519999999 : Int64)), .second, .val (.long (own_time q1)), .second, .val (.long (own_d q1 q2)), .second, .val (.long (own_inst q1 q2)), .second, .val (.long (own_lim q3)), .second, .val (.int (0 : Int32))] [(.long (own_inst q1 q2)), (.long (own_time q1))])) _
    refine XS.lload X3.here hx rfl (hb hby at_110) rfl ?_
    show Steps p.tables e below (T3.setTop (mkF m 112 #[.val (.long q1), .second, .val (.long q2), .second, .val (.long q3), .second, .val (.long (315569519999999 : Int64)), .second, .val (.long (own_time q1)), .second, .val (.long (own_d q1 q2)), .second, .val (.long (own_inst q1 q2)), .second, .val (.long (own_lim q3)), .second, .val (.int (0 : Int32))] [(.long (own_d q1 q2)), (.long (own_inst q1 q2)), (.long (own_time q1))])) _
    refine XS.lconst X3.here hx rfl (hb hby at_112) ?_
    show Steps p.tables e below (T3.setTop (mkF m 113 #[.val (.long q1), .second, .val (.long q2), .second, .val (.long q3), .second, .val (.long (315569519999999 : Int64)), .second, .val (.long (own_time q1)), .second, .val (.long (own_d q1 q2)), .second, .val (.long (own_inst q1 q2)), .second, .val (.long (own_lim q3)), .second, .val (.int (0 : Int32))] [(.long (1 : Int64)), (.long (own_d q1 q2)), (.long (own_inst q1 q2)), (.long (own_time q1))])) _
    refine XS.lsub X3.here hx rfl (hb hby at_113) rfl ?_
    show Steps p.tables e below (T3.setTop (mkF m 114 #[.val (.long q1), .second, .val (.long q2), .second, .val (.long q3), .second, .val (.long (315569519999999 : Int64)), .second, .val (.long (own_time q1)), .second, .val (.long (own_d q1 q2)), .second, .val (.long (own_inst q1 q2)), .second, .val (.long (own_lim q3)), .second, .val (.int (0 : Int32))] [(.long ((own_d q1 q2) - (1 : Int64))), (.long (own_inst q1 q2)), (.long (own_time q1))])) _
    refine st5 _ ?_
    show Steps p.tables e below (T5.setTop (mkF m 117 #[.val (.long q1), .second, .val (.long q2), .second, .val (.long q3), .second, .val (.long (315569519999999 : Int64)), .second, .val (.long (own_time q1)), .second, .val (.long (own_d q1 q2)), .second, .val (.long (own_inst q1 q2)), .second, .val (.long (own_lim q3)), .second, .val (.int (0 : Int32))] [(.int (f_older (own_time q1) (own_inst q1 q2) ((own_d q1 q2) - (1 : Int64))))])) _
    refine XS.ifYes X5.here hx rfl (pc0 := 117) (pc' := 122) rfl (hb hby at_117) rfl ((if0 _ _).trans (feq hc4).2) (by decide) (by decide) ?_
    show Steps p.tables e below (T5.setTop (mkF m 122 #[.val (.long q1), .second, .val (.long q2), .second, .val (.long q3), .second, .val (.long (315569519999999 : Int64)), .second, .val (.long (own_time q1)), .second, .val (.long (own_d q1 q2)), .second, .val (.long (own_inst q1 q2)), .second, .val (.long (own_lim q3)), .second, .val (.int (0 : Int32))] [])) _
    refine XS.iconst X5.here hx rfl (hb hby at_122) ?_
    show Steps p.tables e below (T5.setTop (mkF m 123 #[.val (.long q1), .second, .val (.long q2), .second, .val (.long q3), .second, .val (.long (315569519999999 : Int64)), .second, .val (.long (own_time q1)), .second, .val (.long (own_d q1 q2)), .second, .val (.long (own_inst q1 q2)), .second, .val (.long (own_lim q3)), .second, .val (.int (0 : Int32))] [(.int (1 : Int32))])) _
    exact retN X5 hx (t := .boolean) Bd.returns (by simp) (hb hby at_123) hr
  · show Q_law Z q1 q2 q3 h0 n0 _ T5.heap _
    rw [e5]
    exact ⟨rfl, N6⟩
theorem own_time_rng (q1 : Int64) : -62167219200000 ≤ (own_time q1).toInt ∧ (own_time q1).toInt ≤ 253402300799999 := by
  have e1 := own_mL q1
  have e0 : (315569520000000 : Int64).toInt = 315569520000000 := by decide
  have e2 := own_lmod_rng (q1 &&& 9223372036854775807) (315569520000000 : Int64) e1.1 (by omega)
  have e3 := c_ladd (-62167219200000) ((q1 &&& 9223372036854775807) % (315569520000000 : Int64))
  have e4 := rng64 ((-62167219200000 : Int64) + ((q1 &&& 9223372036854775807) % (315569520000000 : Int64)))
  have e5 : (-62167219200000 : Int64).toInt = -62167219200000 := by decide
  unfold own_time
  omega
theorem own_d_rng (q1 q2 : Int64) : 0 < (((253402300799999 : Int64) - (own_time q1)) + (1 : Int64)).toInt ∧ 0 ≤ (own_d q1 q2).toInt ∧ (own_d q1 q2).toInt + (own_time q1).toInt ≤ 253402300799999 := by
  have t := own_time_rng q1
  have e1 := own_mL q2
  have a1 := c_lsub 253402300799999 (own_time q1)
  have a2 := rng64 ((253402300799999 : Int64) - own_time q1)
  have a3 := c_ladd ((253402300799999 : Int64) - own_time q1) 1
  have a4 := rng64 (((253402300799999 : Int64) - own_time q1) + 1)
  have o1 : (253402300799999 : Int64).toInt = 253402300799999 := by decide
  have o2 : (1 : Int64).toInt = 1 := by decide
  have e0 : 0 < (((253402300799999 : Int64) - own_time q1) + 1).toInt := by omega
  have e2 := own_lmod_rng (q2 &&& 9223372036854775807) (((253402300799999 : Int64) - own_time q1) + 1) e1.1 e0
  refine ⟨e0, ?_⟩
  unfold own_d
  omega
theorem own_diff (t d : Int64) : (t + d) - t = d := by grind
theorem own_older (q1 q2 z : Int64) : f_older (own_time q1) (own_inst q1 q2) z = if z < own_d q1 q2 then 1 else 0 := by
  unfold f_older own_inst; rw [own_diff]
theorem own_plain (q1 q2 q3 : Int64) : Road_tttt q1 q2 q3 ∨ Road_tttft q1 q2 q3 ∨ Road_fttt q1 q2 q3 ∨ Road_fttft q1 q2 q3 := by
  have d := own_d_rng q1 q2
  have k2 : ¬ ((((253402300799999 : Int64) - (own_time q1)) + (1 : Int64)) = (0 : Int64)) := own_nz64 d.1
  have k3 : f_older (own_time q1) (own_inst q1 q2) (own_d q1 q2) = (0 : Int32) := by
    rw [own_older, if_neg]; rw [own_lt64]; omega
  have k4 : ¬ (own_d q1 q2 < (1 : Int64)) → ¬ (f_older (own_time q1) (own_inst q1 q2) (own_d q1 q2 - (1 : Int64)) = (0 : Int32)) := by
    intro h
    rw [own_older, if_pos]
    · decide
    · rw [own_lt64] at *
      have a1 := c_lsub (own_d q1 q2) 1
      have a2 := rng64 (own_d q1 q2 - 1)
      have o2 : (1 : Int64).toInt = 1 := by decide
      omega
  by_cases c1 : own_lim q3 < own_d q1 q2 <;> by_cases c2 : own_d q1 q2 < (1 : Int64)
  · exact Or.inl ⟨k2, c1, by rw [own_older, if_pos c1], k3, c2⟩
  · exact Or.inr (Or.inl ⟨k2, c1, by rw [own_older, if_pos c1], k3, c2, k4 c2⟩)
  · exact Or.inr (Or.inr (Or.inl ⟨k2, c1, by rw [own_older, if_neg c1], k3, c2⟩))
  · exact Or.inr (Or.inr (Or.inr ⟨k2, c1, by rw [own_older, if_neg c1], k3, c2, k4 c2⟩))
set_option maxRecDepth 65536 in
set_option maxHeartbeats 40000000 in
theorem rm_law (l : Launch) (Z : State) (a0 : Array Value) (hw : ∀ d ∈ tables_1, d.before a0 Z = true) (ws : List Jvm.Cond) (q1 : Int64) (q2 : Int64) (q3 : Int64) (h0 : Heap) (n0 : Nat) (Z0 : n0 ≤ h0.size) :
    MetFree l x (head1 (Jvm.Cond.code x code maxLocals ret :: ws) room_1) (fun a U => a = #[(.long q1), (.long q2), (.long q3)] ∧ Z.Warmed39 U.vm ∧ U.heap = h0) (fun _ _ _ _ _ => True) (fun _ U o U' => ∃ v L, o = .returned v ∧ Q_law Z q1 q2 q3 h0 n0 v U'.heap L ∧ FrameEnd U o U' L room_1.cells room_1.slots) := by
  rcases own_plain q1 q2 q3 with h | h | h | h
  · exact rm_law_tttt l Z a0 hw ws q1 q2 q3 h0 n0 Z0 h
  · exact rm_law_tttft l Z a0 hw ws q1 q2 q3 h0 n0 Z0 h
  · exact rm_law_fttt l Z a0 hw ws q1 q2 q3 h0 n0 Z0 h
  · exact rm_law_fttft l Z a0 hw ws q1 q2 q3 h0 n0 Z0 h
set_option maxRecDepth 65536 in
set_option maxHeartbeats 40000000 in
theorem comes_1 {Post : Tables → Env → Array Value → State → Outcome → State → Prop} (hpost : ∀ tb e args s v u, (limb_1_1.after args s (.returned v) u = true ∧ limb_1_2.after args s (.returned v) u = true ∧ True) → FrameEnd s (.returned v) u (Jvm.fieldLocs frame_1_writes args s ++ Jvm.arrayLocs frame_1_arrays args s ++ Jvm.staticLocs frame_1_statics s) 0 0 → Post tb e args s (.returned v) u) :
    ArmFor flags0 classFile x code maxLocals ret World_1 tables_1 room_1 Calls_1 rest_1 Pre_1 Post := by
  intro l hfl _ _ p e ha hc hk s m args below hf hA hF happ hP
  obtain ⟨hcalls, hrest, hpre⟩ := hP
  obtain ⟨-, -, -, hnamed, -, -, -, hat⟩ := (Spec.applies_iff hf).mp happ
  obtain ⟨hg, hn⟩ := and_e (Cond.before_iff.mp (show (Jvm.Cond.and given_1 narrow_1).before args s = true from hpre))
  obtain ⟨g1, g2⟩ := and_e hg
  obtain ⟨g3, g4⟩ := and_e g2
  obtain ⟨g5, g6⟩ := and_e g4
  obtain ⟨w0, w1, w2, rfl⟩ : ∃ w0 w1 w2 : Value, args = #[w0, w1, w2] := by
    have hs : args.size = 3 := by simpa [Cond.value, given_1] using g1
    obtain ⟨L⟩ := args
    match L, hs with
    | [w0, w1, w2], _ => exact ⟨w0, w1, w2, rfl⟩
  have hw := fun d (hd : d ∈ tables_1) => atoms_spec (ws := Jvm.Cond.code x code maxLocals ret :: tables_1) hat d (List.mem_cons_of_mem _ hd)
  have hfit : Fit s := fun {y c} hc i hi => by
    obtain ⟨ha, rfl⟩ := Array.getElem?_eq_some_iff.mp hc
    have q := List.all_eq_true.mp ((Array.all_eq_true_iff_forall_mem.mp hF) _ (Array.getElem_mem ha)) i (List.mem_range.mpr hi)
    simpa [Array.getElem?_eq_getElem hi] using q
  obtain ⟨i0, ei0⟩ := isL_v g3
  obtain rfl : w0 = (.long i0) := Option.some.inj ei0
  obtain ⟨i1, ei1⟩ := isL_v g5
  obtain rfl : w1 = (.long i1) := Option.some.inj ei1
  obtain ⟨i2, ei2⟩ := isL_v g6
  obtain rfl : w2 = (.long i2) := Option.some.inj ei2
  obtain ⟨n, o, h1, h2, h3, _, L, rfl, ⟨rfl, N⟩, hq⟩ := rm_law l s _ hw tables_1 i0 i1 i2 s.heap s.heap.size (Nat.le_refl _) p e ha hc hk s m _ below hf ((Spec.applies_iff_loose hf).mp happ).1 ⟨rfl, State.Warmed39.refl s, rfl⟩ trivial
  refine ⟨n, _, h1, h2, h3, hpost _ _ _ _ _ _ ⟨Cond.after_iff.mpr rfl, Cond.after_iff.mpr (eq_i res_at (Term.int_eval (1)) rfl), trivial⟩ ⟨hq.1, hq.2.1, (hq.2.2.sift fun y hy => Or.inr (N y hy)).mono (by decide) (by decide)⟩⟩
theorem main_1_1 : Claimed_1_1 := comes_1 fun _ _ _ _ _ _ h hF => ⟨h.1, hF⟩
theorem main_1_2 : Claimed_1_2 := comes_1 fun _ _ _ _ _ _ h hF => ⟨h.2.1, hF⟩
end Jvm.Pilot.@@N@@
namespace Jvm.Pilot.@@N@@
open Jvm Jvm.ClassFile Sem Op Lib Jvm.Free Jvm.Stand Jvm.Pilot.@@N@@.Jvm.D
/-! MADE BY PROGRAM (witnessworld.py) out of the Statement's table words and the real class files: 9 classes; the members and pool entries that the words name. The judged class is class 1, her method 1. -/
namespace start1
open Jvm.ClassFile
def u (s : String) : CpInfo := .utf8 (stringToUtf16 s)
/-- a pool by its gaps: so many unusable entries, then the entry; so many at the end -/
def gap : Nat → List CpInfo → List CpInfo
  | 0, r => r
  | n + 1, r => .unusable :: gap n r
def poolList (es : List (Nat × CpInfo)) (last : Nat) : List CpInfo := es.foldr (fun e r => gap e.1 (e.2 :: r)) (gap last [])
def pool (es : List (Nat × CpInfo)) (last : Nat) : Array CpInfo := ⟨poolList es last⟩
def fileOf (pool : Array CpInfo) (this : Nat) (attrs : Array Attribute := #[]) (ms : Array MethodInfo := #[]) (fl : Nat := 33) (sup : Nat := 0) (ifs : Array Nat := #[]) (fds : Array FieldInfo := #[]) : ClassFile where
  minorVersion := 0
  majorVersion := 65
  constantPool := pool
  accessFlags := fl
  thisClass := this
  superClass := sup
  interfaces := ifs
  fields := fds
  methods := ms
  attributes := attrs
def plain (name : String) (sup : Option ClassId) : Class where
  name := name
  kind := .ordinary
  loader := none
  accessFlags := 33
  super := sup
  interfaces := #[]
  cf := none
  fields := #[]
  methods := #[]
  instanceTypes := #[]
  staticTypes := #[]
  resolved := #[]
  callSites := []
  init := .initialized
  statics := none
  mirror := none

def pool0 : Array CpInfo := pool [(5, u "<init>"), (0, u "()V"), (1, .class_ 10), (1, u "java/lang/Object")] 113

def k0m0 : Method := { name := "<init>", desc := "()V", sig := { parameters := [], returnType := none }, accessFlags := 1, code := none }
/-- java/lang/Object -/
def k0 : Class := { plain "java/lang/Object" none with
  accessFlags := 33
  interfaces := #[]
  cf := some (fileOf pool0 8 #[] #[{ accessFlags := 1, nameIndex := 5, descriptorIndex := 6, attributes := #[] }] 33 0 #[] #[])
  fields := #[]
  methods := #[k0m0]
  instanceTypes := #[]
  staticTypes := #[]
  resolved := Array.replicate 124 none
  statics := none }

def pool1 : Array CpInfo := pool [(2, .class_ 4), (1, u "java/lang/Object"), (0, u "<init>"), (0, u "()V"), (0, .class_ 8), (0, u "org/everroll/InstantsOlderThanPinLaw"), (0, .long 315569519999999), (1, .long 18446681906490351616), (3, .long 9223372036854775807), (1, .long 253402300799999), (1, .methodref 20 21), (0, .class_ 22), (0, .nameAndType 23 24), (0, u "org/everroll/Instants"), (0, u "olderThan"), (0, u "(JJJ)Z"), (0, u "FIRST_MS"), (0, u "J"), (1, u "LAST_MS"), (2, u "law")] 3

def k1m0 : Method := { name := "<init>", desc := "()V", sig := { parameters := [], returnType := none }, accessFlags := 2, code := none }
def k1c1 : Code := { maxStack := 8, maxLocals := 17, code := code, exceptionTable := #[], attributes := #[] }
def k1m1 : Method := { name := "law", desc := "(JJJ)Z", sig := { parameters := [.long, .long, .long], returnType := some .boolean }, accessFlags := 9, code := some k1c1 }
/-- org/everroll/InstantsOlderThanPinLaw -/
def k1 : Class := { plain "org/everroll/InstantsOlderThanPinLaw" (some 0) with
  accessFlags := 49
  interfaces := #[]
  cf := some (fileOf pool1 7 #[] #[{ accessFlags := 2, nameIndex := 5, descriptorIndex := 6, attributes := #[] }, { accessFlags := 9, nameIndex := 31, descriptorIndex := 24, attributes := #[] }] 49 2 #[] #[{ accessFlags := 26, nameIndex := 25, descriptorIndex := 26, attributes := #[] }, { accessFlags := 26, nameIndex := 28, descriptorIndex := 26, attributes := #[] }])
  fields := #[{ name := "FIRST_MS", type := .long, accessFlags := 26, slot := 0, constantValue := 0 }, { name := "LAST_MS", type := .long, accessFlags := 26, slot := 1, constantValue := 0 }]
  methods := #[k1m0, k1m1]
  instanceTypes := #[]
  staticTypes := #[.long, .long]
  resolved := Array.replicate 35 none
  statics := none }

def pool2 : Array CpInfo := pool [(2, .class_ 4), (1, u "java/lang/Object"), (0, u "<init>"), (0, u "()V"), (1, .class_ 10), (1, u "org/everroll/Instants"), (0, u "FIRST"), (0, u "Ljava/time/Instant;"), (8, u "LAST"), (41, u "olderThan"), (0, u "(JJJ)Z")] 3

def k2m0 : Method := { name := "<init>", desc := "()V", sig := { parameters := [], returnType := none }, accessFlags := 2, code := none }
def k2c1 : Code := { maxStack := 4, maxLocals := 6, code := prog_20_method_5_code, exceptionTable := #[], attributes := #[] }
def k2m1 : Method := { name := "olderThan", desc := "(JJJ)Z", sig := { parameters := [.long, .long, .long], returnType := some .boolean }, accessFlags := 8, code := some k2c1 }
/-- org/everroll/Instants -/
def k2 : Class := { plain "org/everroll/Instants" (some 0) with
  accessFlags := 48
  interfaces := #[]
  cf := some (fileOf pool2 8 #[] #[{ accessFlags := 2, nameIndex := 5, descriptorIndex := 6, attributes := #[] }, { accessFlags := 8, nameIndex := 63, descriptorIndex := 64, attributes := #[] }] 48 2 #[] #[{ accessFlags := 24, nameIndex := 11, descriptorIndex := 12, attributes := #[] }, { accessFlags := 24, nameIndex := 21, descriptorIndex := 12, attributes := #[] }])
  fields := #[{ name := "FIRST", type := (.object "java/time/Instant"), accessFlags := 24, slot := 0, constantValue := 0 }, { name := "LAST", type := (.object "java/time/Instant"), accessFlags := 24, slot := 1, constantValue := 0 }]
  methods := #[k2m0, k2m1]
  instanceTypes := #[]
  staticTypes := #[(.object "java/time/Instant"), (.object "java/time/Instant")]
  resolved := Array.replicate 68 none
  statics := none }

def pool3 : Array CpInfo := pool [(1, u "java/lang/Cloneable"), (0, .class_ 1), (0, u "java/lang/Object"), (0, .class_ 3)] 3

/-- java/lang/Cloneable -/
def k3 : Class := { plain "java/lang/Cloneable" (some 0) with
  accessFlags := 1537
  interfaces := #[]
  cf := some (fileOf pool3 2 #[] #[] 1537 4 #[] #[])
  fields := #[]
  methods := #[]
  instanceTypes := #[]
  staticTypes := #[]
  resolved := Array.replicate 8 none
  statics := none }

def pool4 : Array CpInfo := pool [(1, u "java/io/Serializable"), (0, .class_ 1), (0, u "java/lang/Object"), (0, .class_ 3)] 3

/-- java/io/Serializable -/
def k4 : Class := { plain "java/io/Serializable" (some 0) with
  accessFlags := 1537
  interfaces := #[]
  cf := some (fileOf pool4 2 #[] #[] 1537 4 #[] #[])
  fields := #[]
  methods := #[]
  instanceTypes := #[]
  staticTypes := #[]
  resolved := Array.replicate 8 none
  statics := none }

/-- the primitive byte -/
def k5 : Class := { plain "byte" none with kind := .primitive 'B', accessFlags := 0x411 }
/-- [B -/
def k6 : Class := { plain "[B" (some 0) with kind := .array 5 .byte, interfaces := #[3, 4], accessFlags := 1041 }

/-- the primitive int -/
def k7 : Class := { plain "int" none with kind := .primitive 'I', accessFlags := 0x411 }
/-- [I -/
def k8 : Class := { plain "[I" (some 0) with kind := .array 7 .int, interfaces := #[3, 4], accessFlags := 1041 }

def heap : Heap := #[]
def classes : Array Class := #[k0, k1, k2, k3, k4, k5, k6, k7, k8]
def interned : List (Array UInt16 × Addr) := []
def slotsUsed : Nat := 0
def theMethod : MethodId := ⟨1, 1⟩
def args0 : Array Value := #[.long 5, .long 300, .long 7]
def aboutOver (below : List Frame) : State where
  vm := { classes := classes, interned := interned.toArray }
  heap := heap
  slotsUsed := slotsUsed
  threads := #[{ frames := .invoking theMethod args0 :: below }]
def below0 : List Frame := [.native { method := ⟨0, 0⟩, args := #[] }]
def about1 : State := aboutOver below0
def p0 : Program := .bare "" "" ""
def e0 : Env := launch0.env 0 0 0
theorem w_frames : about1.frames = Frame.invoking theMethod args0 :: below0 := rfl
set_option maxRecDepth 65536 in
theorem w_args : argsFit about1.vm theMethod args0 = true := by decide +kernel
set_option maxRecDepth 65536 in
theorem w_heap : heapFits about1 = true := by decide +kernel
set_option maxRecDepth 65536 in
theorem w_runnable : about1.curStatus? = some .runnable := by decide +kernel
set_option maxRecDepth 65536 in
theorem w_alone : about1.alone = true := by decide +kernel
set_option maxRecDepth 65536 in
theorem w_named : about1.methodNamed? x = some theMethod := by decide +kernel
set_option maxRecDepth 65536 in
theorem w_hears : about1.hears theMethod below0 = true := by decide +kernel
set_option maxRecDepth 65536 in
theorem w_ripe : about1.ripe theMethod args0 below0 = true := by decide +kernel
theorem w_running : about1.status = .running := rfl
set_option maxRecDepth 65536 in
theorem w_room : about1.hasRoom e0.platform room_1 = true :=
  launch0.hasRoom_least _ room_1 (by decide +kernel) (by decide +kernel) (by decide +kernel) (by decide +kernel) (by decide +kernel) (by decide +kernel)
theorem allAtoms_all (ts : List Jvm.Cond) (a : Array Jvm.Value) (st : Jvm.State) : (allAtoms ts).before a st = ts.all (fun c => c.before a st) := by
  induction ts with
  | nil => rfl
  | cons c t ih =>
    show (Jvm.Cond.and c (allAtoms t)).before a st = _
    rw [Jvm.Cond.before_and, ih, List.all_cons]
def words1 : List Jvm.Cond := Jvm.Cond.code x code maxLocals ret :: tables_1
/-- a 'code' word, met by the world's own term for the bytes: nothing is compared byte by byte -/
theorem code_word {y : MethodName} {bytes : ByteArray} {mx : Nat} {rt : Option FieldType} {a : Array Value} {s : State} {m : MethodId} {meth : Method} {c : Code} (h1 : s.methodNamed? y = some m) (h2 : s.vm.method? m = some meth) (h3 : meth.code = some c) (h4 : c.code = bytes)
    (h5 : (c.maxLocals == mx && c.exceptionTable.isEmpty && decide (c.maxStack ≤ mostOperands) && decide (meth.sig.returnType = rt) && !meth.locks && decide (parseMethodDescriptor y.desc = some meth.sig)) = true) : (Jvm.Cond.code y bytes mx rt).before a s = true := by
  simp only [Bool.and_eq_true, beq_iff_eq, Bool.not_eq_true', decide_eq_true_eq] at h5
  obtain ⟨⟨⟨⟨⟨g1, g2⟩, g3⟩, g4⟩, g5⟩, g6⟩ := h5
  simp [Cond.before, Cond.holds, Cond.value, h1, h2, h3, h4, g1, g2, g3, g4, g5, g6]
def isCode : Jvm.Cond → Bool
  | .code _ _ _ _ => true
  | _ => false
theorem all_split {L : List Jvm.Cond} {P : Jvm.Cond → Bool} (h1 : L.all (fun c => isCode c || P c) = true) (h2 : ∀ c ∈ L.filter isCode, P c = true) : L.all P = true := by
  refine List.all_eq_true.mpr fun c hc => ?_
  have h := List.all_eq_true.mp h1 c hc
  rcases Bool.eq_false_or_eq_true (isCode c) with hi | hi
  · exact h2 c (List.mem_filter.mpr ⟨hc, hi⟩)
  · simpa [hi] using h
set_option maxRecDepth 65536 in
theorem w_c0 : (Jvm.Cond.code x code maxLocals ret).before args0 about1 = true := code_word (m := ⟨1, 1⟩) (meth := k1m1) (c := k1c1) (by decide +kernel) rfl rfl rfl (by decide +kernel)
set_option maxRecDepth 65536 in
theorem w_c1 : (Jvm.Cond.code ({ cls := "org/everroll/Instants", name := "olderThan", desc := "(JJJ)Z" } : Jvm.MethodName) prog_20_method_5_code (6 : Nat) (Option.some Jvm.ClassFile.FieldType.boolean)).before args0 about1 = true := code_word (m := ⟨2, 1⟩) (meth := k2m1) (c := k2c1) (by decide +kernel) rfl rfl rfl (by decide +kernel)
def codes1 : List Jvm.Cond := [Jvm.Cond.code x code maxLocals ret, Jvm.Cond.code ({ cls := "org/everroll/Instants", name := "olderThan", desc := "(JJJ)Z" } : Jvm.MethodName) prog_20_method_5_code (6 : Nat) (Option.some Jvm.ClassFile.FieldType.boolean)]
set_option maxRecDepth 65536 in
theorem codes_eq : words1.filter isCode = codes1 := rfl
theorem w_codes : ∀ c ∈ words1.filter isCode, c.before args0 about1 = true := by
  rw [codes_eq]
  intro c hc
  simp only [codes1, List.mem_cons, List.not_mem_nil, or_false] at hc
  rcases hc with rfl | rfl
  · exact w_c0
  · exact w_c1
set_option maxRecDepth 65536 in
theorem w_t1 : words1.all (fun c => isCode c || c.before args0 about1) = true := by decide +kernel
theorem w_tables : (allAtoms (Jvm.Cond.code x code maxLocals ret :: tables_1)).before args0 about1 = true := by
  rw [allAtoms_all]
  show words1.all (fun c => c.before args0 about1) = true
  refine all_split ?_ w_codes
  rw [w_t1]
set_option maxRecDepth 65536 in
theorem w_case : (Jvm.Cond.and given_1 narrow_1).before args0 about1 = true := by decide +kernel
theorem w_applies : (headSpec (Jvm.Cond.code x code maxLocals ret :: tables_1) room_1).applies x e0.platform about1 = true :=
  (Spec.applies_iff w_frames).mpr ⟨w_running, w_runnable, w_alone, w_named, w_hears, w_ripe, w_room, w_tables⟩
theorem atStart : AtStart classFile x code maxLocals ret World_1 tables_1 room_1 Calls_1 rest_1 Pre_1 launch0 p0 e0 about1 theMethod args0 below0 :=
  ⟨lists_1, trivial, launch0.admits_env _ _ _, launch0.least_env, fairChoices_fair.cas, fairChoices_fair.clock, w_frames, w_args, w_heap, w_applies, trivial, trivial, w_case⟩
end start1
theorem witness_1 : WitnessClaimed_1 := ⟨start1.p0, start1.e0, start1.about1, start1.theMethod, start1.args0, start1.below0, start1.atStart⟩
end Jvm.Pilot.@@N@@
