import JvmDerived
import JvmDerived.Pilot.@@N@@Statement
import JvmDerived.Pilot.@@N@@Code
set_option linter.unusedVariables false
set_option linter.unusedSimpArgs false
namespace Jvm.RoadKit
open Sem ClassFile Op Lib Jvm.Stand Jvm.Free Jvm.LawKit
section New
variable {p : Program} {l : Launch} {e : Env} {R : Room} {s : State} {m : MethodId} {args : Array Value} {below : List Frame} {meth : Method} {c : Code} {T : State} {locs : List Loc} {cells slots : Nat}
theorem retI (X : Stand p l e R s m args below meth c T locs cells slots) (hx : p.tables.exec = Jvm.exec) {pc : Nat} {Ls : Array Slot} {z : Int32} {rest : List Value} (hret : meth.sig.returnType = some .int) (hd : decode c.code pc = .ok (.ireturn, 1)) {fs : List Frame}
    (hl : ∀ (f : JFrame) (acts : List Action), f.method = m → f.locked = none → f.entered = [] → (doReturn e (T.setTop f) acts (some (.int z))).1 = T.setFrames fs) : Steps p.tables e below (T.setTop (mkF m pc Ls (.int z :: rest))) (T.setFrames fs) := by
  have hm' : T.vm.method? m = some meth := X.method'
  have hn : narrow .int (.int z) = .int z := rfl
  show Steps p.tables e below (T.setTop { method := m, pc := pc, locals := Ls, stack := _ :: rest, locked := none }) _
  jvm_step X.here [X.here.top, hx, hd, hm', hret, hn]
  first | (intro acts; rw [hl _ acts rfl rfl rfl]) | rw [hl _ _ rfl rfl rfl]
  exact Steps.refl _
end New
end Jvm.RoadKit
namespace Jvm.Pilot.@@N@@
open Jvm Jvm.ClassFile Sem Op Lib Jvm.Free Jvm.Stand Jvm.LawKit Jvm.RoadKit Bundle Jvm.Pilot.@@N@@.Jvm.D
theorem own_lmod (x y : Int64) (hx : 0 ≤ x.toInt) : (x % y).toInt = x.toInt % y.toInt := by
  rw [Int64.toInt_mod]; exact Int.tmod_eq_emod_of_nonneg hx
theorem own_imod (x y : Int32) (hx : 0 ≤ x.toInt) : (x % y).toInt = x.toInt % y.toInt := by
  rw [Int32.toInt_mod]; exact Int.tmod_eq_emod_of_nonneg hx
theorem own_lmod_rng (x y : Int64) (hx : 0 ≤ x.toInt) (hy : 0 < y.toInt) : 0 ≤ (x % y).toInt ∧ (x % y).toInt < y.toInt := by
  rw [own_lmod x y hx]; exact ⟨Int.emod_nonneg _ (by omega), Int.emod_lt_of_pos _ hy⟩
theorem own_imod_rng (x y : Int32) (hx : 0 ≤ x.toInt) (hy : 0 < y.toInt) : 0 ≤ (x % y).toInt ∧ (x % y).toInt < y.toInt := by
  rw [own_imod x y hx]; exact ⟨Int.emod_nonneg _ (by omega), Int.emod_lt_of_pos _ hy⟩
theorem own_mI (x : Int32) : 0 ≤ (x &&& (2147483647 : Int32)).toInt ∧ (x &&& (2147483647 : Int32)).toInt ≤ 2147483647 := by
  have h := c_and x 2147483647 (by decide)
  have e : (2147483647 : Int32).toInt = 2147483647 := by decide
  omega
theorem own_mL (x : Int64) : 0 ≤ (x &&& (9223372036854775807 : Int64)).toInt ∧ (x &&& (9223372036854775807 : Int64)).toInt ≤ 9223372036854775807 := by
  have h := (c_andSL x 9223372036854775807).2.2 (by decide)
  have := rng64 (x &&& (9223372036854775807 : Int64))
  omega
theorem own_nz32 {x : Int32} (h : 0 < x.toInt) : ¬ (x = (0 : Int32)) := fun e => by subst e; revert h; decide
theorem own_nz64 {x : Int64} (h : 0 < x.toInt) : ¬ (x = (0 : Int64)) := fun e => by subst e; revert h; decide
theorem own_lt32 {x y : Int32} : x < y ↔ x.toInt < y.toInt := Int32.lt_iff_toInt_lt
theorem own_lt64 {x y : Int64} : x < y ↔ x.toInt < y.toInt := Int64.lt_iff_toInt_lt
theorem own_eq32 {x y : Int32} (h : x.toInt = y.toInt) : x = y := Int32.toInt_inj.mp h
theorem own_eq64 {x y : Int64} (h : x.toInt = y.toInt) : x = y := Int64.toInt_inj.mp h
theorem d1_0 : decode method_2_code 0 = .ok (.iload_n 2, 1) := by decide +kernel
theorem d1_1 : decode method_2_code 1 = .ok (.iconst 3, 1) := by decide +kernel
theorem d1_2 : decode method_2_code 2 = .ok (.iand, 1) := by decide +kernel
theorem d1_3 : decode method_2_code 3 = .ok (.istore_n 3, 1) := by decide +kernel
theorem d1_4 : decode method_2_code 4 = .ok (.iload_n 3, 1) := by decide +kernel
theorem d1_5 : decode method_2_code 5 = .ok (.ifCond .ne 11, 3) := by decide +kernel
theorem d1_8 : decode method_2_code 8 = .ok (.lload_n 0, 1) := by decide +kernel
theorem d1_9 : decode method_2_code 9 = .ok (.ldc2_w 7, 3) := by decide +kernel
theorem d1_12 : decode method_2_code 12 = .ok (.land, 1) := by decide +kernel
theorem d1_13 : decode method_2_code 13 = .ok (.lconst 1, 1) := by decide +kernel
theorem d1_14 : decode method_2_code 14 = .ok (.ladd, 1) := by decide +kernel
theorem d1_15 : decode method_2_code 15 = .ok (.lreturn, 1) := by decide +kernel
theorem d1_16 : decode method_2_code 16 = .ok (.iload_n 3, 1) := by decide +kernel
theorem d1_17 : decode method_2_code 17 = .ok (.iconst 1, 1) := by decide +kernel
theorem d1_18 : decode method_2_code 18 = .ok (.if_icmp .ne 11, 3) := by decide +kernel
theorem d1_21 : decode method_2_code 21 = .ok (.lload_n 0, 1) := by decide +kernel
theorem d1_22 : decode method_2_code 22 = .ok (.ldc2_w 9, 3) := by decide +kernel
theorem d1_25 : decode method_2_code 25 = .ok (.land, 1) := by decide +kernel
theorem d1_26 : decode method_2_code 26 = .ok (.lconst 1, 1) := by decide +kernel
theorem d1_27 : decode method_2_code 27 = .ok (.ladd, 1) := by decide +kernel
theorem d1_28 : decode method_2_code 28 = .ok (.lreturn, 1) := by decide +kernel
theorem d1_29 : decode method_2_code 29 = .ok (.iload_n 3, 1) := by decide +kernel
theorem d1_30 : decode method_2_code 30 = .ok (.iconst 2, 1) := by decide +kernel
theorem d1_31 : decode method_2_code 31 = .ok (.if_icmp .ne 24, 3) := by decide +kernel
theorem d1_34 : decode method_2_code 34 = .ok (.lload_n 0, 1) := by decide +kernel
theorem d1_35 : decode method_2_code 35 = .ok (.ldc2_w 13, 3) := by decide +kernel
theorem d1_38 : decode method_2_code 38 = .ok (.land, 1) := by decide +kernel
theorem d1_39 : decode method_2_code 39 = .ok (.lstore 4, 2) := by decide +kernel
theorem d1_41 : decode method_2_code 41 = .ok (.lload 4, 2) := by decide +kernel
theorem d1_43 : decode method_2_code 43 = .ok (.lconst 0, 1) := by decide +kernel
theorem d1_44 : decode method_2_code 44 = .ok (.lcmp, 1) := by decide +kernel
theorem d1_45 : decode method_2_code 45 = .ok (.ifCond .ne 7, 3) := by decide +kernel
theorem d1_52 : decode method_2_code 52 = .ok (.lload 4, 2) := by decide +kernel
theorem d1_54 : decode method_2_code 54 = .ok (.lreturn, 1) := by decide +kernel
theorem d1_48 : decode method_2_code 48 = .ok (.lconst 1, 1) := by decide +kernel
theorem d1_49 : decode method_2_code 49 = .ok (.goto 5, 3) := by decide +kernel
theorem d1_55 : decode method_2_code 55 = .ok (.ldc2_w 13, 3) := by decide +kernel
theorem d1_58 : decode method_2_code 58 = .ok (.lload_n 0, 1) := by decide +kernel
theorem d1_59 : decode method_2_code 59 = .ok (.ldc2_w 7, 3) := by decide +kernel
theorem d1_62 : decode method_2_code 62 = .ok (.land, 1) := by decide +kernel
theorem d1_63 : decode method_2_code 63 = .ok (.lsub, 1) := by decide +kernel
theorem d1_64 : decode method_2_code 64 = .ok (.lreturn, 1) := by decide +kernel
theorem pn_org_everroll_InstantsIntoStepPinLaw : plainName "org/everroll/InstantsIntoStepPinLaw" = true := by first | (simp [plainName, overriddenIn]; done) | decide +kernel
theorem ef_1_JI (m : MethodId) (x0 : Int64) (x1 : Int32) : entryFrame m #[(.long x0), (.int x1)] 6 = mkF m 0 #[.val (.long x0), .second, .val (.int x1), .unset, .unset, .unset] [] := by first | (simp [entryFrame, mkF, argsToLocals, Value.category]; done) | rfl
def f_pickStep (q1 : Int64) (p2 : Int32) : Int64 := (if (p2 &&& (3 : Int32)) = (0 : Int32) then ((q1 &&& (15 : Int64)) + (1 : Int64)) else (if (p2 &&& (3 : Int32)) = (1 : Int32) then ((q1 &&& (4294967295 : Int64)) + (1 : Int64)) else (if (p2 &&& (3 : Int32)) = (2 : Int32) then (if (q1 &&& (9223372036854775807 : Int64)) = (0 : Int64) then (1 : Int64) else (q1 &&& (9223372036854775807 : Int64))) else ((9223372036854775807 : Int64) - (q1 &&& (15 : Int64))))))
def Q_pickStep (Z : State) (q1 : Int64) (p2 : Int32) (h0 : Heap) (n0 : Nat) (v : Option Value) (h : Heap) (L : List Loc) : Prop := v = some (.long (f_pickStep q1 p2)) ∧ Fr n0 L ∧ h = h0
set_option maxRecDepth 65536 in
set_option maxHeartbeats 40000000 in
theorem rm_pickStep_f (l : Launch) (Z : State) (a0 : Array Value) (hw : ∀ d ∈ tables_1, d.before a0 Z = true) (ws : List Jvm.Cond) (q1 : Int64) (p2 : Int32) (h0 : Heap) (n0 : Nat) (Z0 : n0 ≤ h0.size) (hc0 : (p2 &&& (3 : Int32)) = (0 : Int32)) (hret : (f_pickStep q1 p2) = ((q1 &&& (15 : Int64)) + (1 : Int64))) :
    MetFree l (⟨"org/everroll/InstantsIntoStepPinLaw", "pickStep", "(JI)J"⟩ : MethodName) (head1 (Jvm.Cond.code (⟨"org/everroll/InstantsIntoStepPinLaw", "pickStep", "(JI)J"⟩ : MethodName) method_2_code 6 (some .long) :: ws) ({ frames := 0, cells := 0, slots := 0, locals := 0 } : Room)) (fun a U => a = #[(.long q1), (.int p2)] ∧ Z.Warmed39 U.vm ∧ U.heap = h0) (fun _ _ _ _ _ => True) (fun _ U o U' => ∃ v L, o = .returned v ∧ Q_pickStep Z q1 p2 h0 n0 v U'.heap L ∧ FrameEnd U o U' L ({ frames := 0, cells := 0, slots := 0, locals := 0 } : Room).cells ({ frames := 0, cells := 0, slots := 0, locals := 0 } : Room).slots) := by
  refine MetFree.of_bodySF (plainFor_of_name pn_org_everroll_InstantsIntoStepPinLaw) hisR ?_
  intro p e s m args below meth c s₁ Bd hml0 hP hK
  obtain ⟨rfl, hZ, hh⟩ := hP
  have hx := Bd.exec
  have hby := Bd.bytes
  have hml : c.maxLocals = 6 := hml0
  have hown : s.vm.findClass "org/everroll/InstantsIntoStepPinLaw" = some m.cls := findClass_of_methodNamed Bd.named
  have hnm := (name_of_methodNamed Bd.named Bd.method).1
  have X0 : Stand p l e ({ frames := 0, cells := 0, slots := 0, locals := 0 } : Room) s m #[(.long q1), (.int p2)] below meth c s₁ [] 0 0 := Stand.of_body Bd
  have e0 : s₁.heap = h0 := by rw [← hh, Bd.state]; rfl
  have N0 := Fr.nil n0
  have pre0 : ∀ t, Steps p.tables e below (s₁.setTop (mkF m 0 #[.val (.long q1), .second, .val (.int p2), .unset, .unset, .unset] [])) t → Steps p.tables e below (s₁.setTop (entryFrame m #[(.long q1), (.int p2)] 6)) t := fun t k => castTop (ef_1_JI m q1 p2) k
  obtain ⟨fs, hr, hrun, hended, hW, hsame⟩ := X0.leave (v := some (.long ((q1 &&& (15 : Int64)) + (1 : Int64)))) (fun h => by rw [Bd.returns] at h; cases h) Bd.notSynchronized
  refine ⟨_, _, pre0 _ ?_, hrun, hended, _, _, rfl, ?_, ⟨_, rfl⟩, hW, hsame.mono (by decide) (by decide)⟩
  · show Steps p.tables e below (s₁.setTop (mkF m 0 #[.val (.long q1), .second, .val (.int p2), .unset, .unset, .unset] [])) _
    refine XS.iloadN X0.here hx rfl (hb hby d1_0) rfl ?_
    show Steps p.tables e below (s₁.setTop (mkF m 1 #[.val (.long q1), .second, .val (.int p2), .unset, .unset, .unset] [(.int p2)])) _
    refine XS.iconst X0.here hx rfl (hb hby d1_1) ?_
    show Steps p.tables e below (s₁.setTop (mkF m 2 #[.val (.long q1), .second, .val (.int p2), .unset, .unset, .unset] [(.int (3 : Int32)), (.int p2)])) _
    refine XS.iand X0.here hx rfl (hb hby d1_2) rfl ?_
    show Steps p.tables e below (s₁.setTop (mkF m 3 #[.val (.long q1), .second, .val (.int p2), .unset, .unset, .unset] [(.int (p2 &&& (3 : Int32)))])) _
    refine XS.istoreN X0.here hx rfl (hb hby d1_3) rfl (l' := #[.val (.long q1), .second, .val (.int p2), .val (.int (p2 &&& (3 : Int32))), .unset, .unset]) rfl ?_
    show Steps p.tables e below (s₁.setTop (mkF m 4 #[.val (.long q1), .second, .val (.int p2), .val (.int (p2 &&& (3 : Int32))), .unset, .unset] [])) _
    refine XS.iloadN X0.here hx rfl (hb hby d1_4) rfl ?_
    show Steps p.tables e below (s₁.setTop (mkF m 5 #[.val (.long q1), .second, .val (.int p2), .val (.int (p2 &&& (3 : Int32))), .unset, .unset] [(.int (p2 &&& (3 : Int32)))])) _
    refine XS.ifNo X0.here hx rfl (hb hby d1_5) rfl ((if0 _ _).trans (teq hc0).2) ?_
    show Steps p.tables e below (s₁.setTop (mkF m 8 #[.val (.long q1), .second, .val (.int p2), .val (.int (p2 &&& (3 : Int32))), .unset, .unset] [])) _
    refine XS.lloadN X0.here hx rfl (hb hby d1_8) rfl ?_
    show Steps p.tables e below (s₁.setTop (mkF m 9 #[.val (.long q1), .second, .val (.int p2), .val (.int (p2 &&& (3 : Int32))), .unset, .unset] [(.long q1)])) _
    refine X0.ldc2Long hx hown (mvT hZ (hw _ (List.mem_of_getElem? (i := 16) rfl))) (g := (mkF m 9 #[.val (.long q1), .second, .val (.int p2), .val (.int (p2 &&& (3 : Int32))), .unset, .unset] [(.long q1)])) rfl (hb hby d1_9) _ ?_
    show Steps p.tables e below (s₁.setTop (mkF m 12 #[.val (.long q1), .second, .val (.int p2), .val (.int (p2 &&& (3 : Int32))), .unset, .unset] [(.long (15 : Int64)), (.long q1)])) _
    refine XS.land X0.here hx rfl (hb hby d1_12) rfl ?_
    show Steps p.tables e below (s₁.setTop (mkF m 13 #[.val (.long q1), .second, .val (.int p2), .val (.int (p2 &&& (3 : Int32))), .unset, .unset] [(.long (q1 &&& (15 : Int64)))])) _
    refine XS.lconst X0.here hx rfl (hb hby d1_13) ?_
    show Steps p.tables e below (s₁.setTop (mkF m 14 #[.val (.long q1), .second, .val (.int p2), .val (.int (p2 &&& (3 : Int32))), .unset, .unset] [(.long (1 : Int64)), (.long (q1 &&& (15 : Int64)))])) _
    refine XS.ladd X0.here hx rfl (hb hby d1_14) rfl ?_
    show Steps p.tables e below (s₁.setTop (mkF m 15 #[.val (.long q1), .second, .val (.int p2), .val (.int (p2 &&& (3 : Int32))), .unset, .unset] [(.long ((q1 &&& (15 : Int64)) + (1 : Int64)))])) _
    exact retOut X0 hx (t := .long) (i := .lreturn) Bd.returns rfl (Or.inr (Or.inl ⟨rfl, rfl, _, rfl⟩)) (hb hby d1_15) hr
  · show Q_pickStep Z q1 p2 h0 n0 _ s₁.heap _
    rw [e0]
    exact ⟨by rw [hret], N0, rfl⟩
set_option maxRecDepth 65536 in
set_option maxHeartbeats 40000000 in
theorem rm_pickStep_tf (l : Launch) (Z : State) (a0 : Array Value) (hw : ∀ d ∈ tables_1, d.before a0 Z = true) (ws : List Jvm.Cond) (q1 : Int64) (p2 : Int32) (h0 : Heap) (n0 : Nat) (Z0 : n0 ≤ h0.size) (hc0 : ¬ ((p2 &&& (3 : Int32)) = (0 : Int32))) (hc1 : (p2 &&& (3 : Int32)) = (1 : Int32)) (hret : (f_pickStep q1 p2) = ((q1 &&& (4294967295 : Int64)) + (1 : Int64))) :
    MetFree l (⟨"org/everroll/InstantsIntoStepPinLaw", "pickStep", "(JI)J"⟩ : MethodName) (head1 (Jvm.Cond.code (⟨"org/everroll/InstantsIntoStepPinLaw", "pickStep", "(JI)J"⟩ : MethodName) method_2_code 6 (some .long) :: ws) ({ frames := 0, cells := 0, slots := 0, locals := 0 } : Room)) (fun a U => a = #[(.long q1), (.int p2)] ∧ Z.Warmed39 U.vm ∧ U.heap = h0) (fun _ _ _ _ _ => True) (fun _ U o U' => ∃ v L, o = .returned v ∧ Q_pickStep Z q1 p2 h0 n0 v U'.heap L ∧ FrameEnd U o U' L ({ frames := 0, cells := 0, slots := 0, locals := 0 } : Room).cells ({ frames := 0, cells := 0, slots := 0, locals := 0 } : Room).slots) := by
  refine MetFree.of_bodySF (plainFor_of_name pn_org_everroll_InstantsIntoStepPinLaw) hisR ?_
  intro p e s m args below meth c s₁ Bd hml0 hP hK
  obtain ⟨rfl, hZ, hh⟩ := hP
  have hx := Bd.exec
  have hby := Bd.bytes
  have hml : c.maxLocals = 6 := hml0
  have hown : s.vm.findClass "org/everroll/InstantsIntoStepPinLaw" = some m.cls := findClass_of_methodNamed Bd.named
  have hnm := (name_of_methodNamed Bd.named Bd.method).1
  have X0 : Stand p l e ({ frames := 0, cells := 0, slots := 0, locals := 0 } : Room) s m #[(.long q1), (.int p2)] below meth c s₁ [] 0 0 := Stand.of_body Bd
  have e0 : s₁.heap = h0 := by rw [← hh, Bd.state]; rfl
  have N0 := Fr.nil n0
  have pre0 : ∀ t, Steps p.tables e below (s₁.setTop (mkF m 0 #[.val (.long q1), .second, .val (.int p2), .unset, .unset, .unset] [])) t → Steps p.tables e below (s₁.setTop (entryFrame m #[(.long q1), (.int p2)] 6)) t := fun t k => castTop (ef_1_JI m q1 p2) k
  obtain ⟨fs, hr, hrun, hended, hW, hsame⟩ := X0.leave (v := some (.long ((q1 &&& (4294967295 : Int64)) + (1 : Int64)))) (fun h => by rw [Bd.returns] at h; cases h) Bd.notSynchronized
  refine ⟨_, _, pre0 _ ?_, hrun, hended, _, _, rfl, ?_, ⟨_, rfl⟩, hW, hsame.mono (by decide) (by decide)⟩
  · show Steps p.tables e below (s₁.setTop (mkF m 0 #[.val (.long q1), .second, .val (.int p2), .unset, .unset, .unset] [])) _
    refine XS.iloadN X0.here hx rfl (hb hby d1_0) rfl ?_
    show Steps p.tables e below (s₁.setTop (mkF m 1 #[.val (.long q1), .second, .val (.int p2), .unset, .unset, .unset] [(.int p2)])) _
    refine XS.iconst X0.here hx rfl (hb hby d1_1) ?_
    show Steps p.tables e below (s₁.setTop (mkF m 2 #[.val (.long q1), .second, .val (.int p2), .unset, .unset, .unset] [(.int (3 : Int32)), (.int p2)])) _
    refine XS.iand X0.here hx rfl (hb hby d1_2) rfl ?_
    show Steps p.tables e below (s₁.setTop (mkF m 3 #[.val (.long q1), .second, .val (.int p2), .unset, .unset, .unset] [(.int (p2 &&& (3 : Int32)))])) _
    refine XS.istoreN X0.here hx rfl (hb hby d1_3) rfl (l' := #[.val (.long q1), .second, .val (.int p2), .val (.int (p2 &&& (3 : Int32))), .unset, .unset]) rfl ?_
    show Steps p.tables e below (s₁.setTop (mkF m 4 #[.val (.long q1), .second, .val (.int p2), .val (.int (p2 &&& (3 : Int32))), .unset, .unset] [])) _
    refine XS.iloadN X0.here hx rfl (hb hby d1_4) rfl ?_
    show Steps p.tables e below (s₁.setTop (mkF m 5 #[.val (.long q1), .second, .val (.int p2), .val (.int (p2 &&& (3 : Int32))), .unset, .unset] [(.int (p2 &&& (3 : Int32)))])) _
    refine XS.ifYes X0.here hx rfl (pc0 := 5) (pc' := 16) rfl (hb hby d1_5) rfl ((if0 _ _).trans (feq hc0).2) (by decide) (by decide) ?_
    show Steps p.tables e below (s₁.setTop (mkF m 16 #[.val (.long q1), .second, .val (.int p2), .val (.int (p2 &&& (3 : Int32))), .unset, .unset] [])) _
    refine XS.iloadN X0.here hx rfl (hb hby d1_16) rfl ?_
    show Steps p.tables e below (s₁.setTop (mkF m 17 #[.val (.long q1), .second, .val (.int p2), .val (.int (p2 &&& (3 : Int32))), .unset, .unset] [(.int (p2 &&& (3 : Int32)))])) _
    refine XS.iconst X0.here hx rfl (hb hby d1_17) ?_
    show Steps p.tables e below (s₁.setTop (mkF m 18 #[.val (.long q1), .second, .val (.int p2), .val (.int (p2 &&& (3 : Int32))), .unset, .unset] [(.int (1 : Int32)), (.int (p2 &&& (3 : Int32)))])) _
    refine XS.icmpNo X0.here hx rfl (hb hby d1_18) rfl (teq hc1).2 ?_
    show Steps p.tables e below (s₁.setTop (mkF m 21 #[.val (.long q1), .second, .val (.int p2), .val (.int (p2 &&& (3 : Int32))), .unset, .unset] [])) _
    refine XS.lloadN X0.here hx rfl (hb hby d1_21) rfl ?_
    show Steps p.tables e below (s₁.setTop (mkF m 22 #[.val (.long q1), .second, .val (.int p2), .val (.int (p2 &&& (3 : Int32))), .unset, .unset] [(.long q1)])) _
    refine X0.ldc2Long hx hown (mvT hZ (hw _ (List.mem_of_getElem? (i := 17) rfl))) (g := (mkF m 22 #[.val (.long q1), .second, .val (.int p2), .val (.int (p2 &&& (3 : Int32))), .unset, .unset] [(.long q1)])) rfl (hb hby d1_22) _ ?_
    show Steps p.tables e below (s₁.setTop (mkF m 25 #[.val (.long q1), .second, .val (.int p2), .val (.int (p2 &&& (3 : Int32))), .unset, .unset] [(.long (4294967295 : Int64)), (.long q1)])) _
    refine XS.land X0.here hx rfl (hb hby d1_25) rfl ?_
    show Steps p.tables e below (s₁.setTop (mkF m 26 #[.val (.long q1), .second, .val (.int p2), .val (.int (p2 &&& (3 : Int32))), .unset, .unset] [(.long (q1 &&& (4294967295 : Int64)))])) _
    refine XS.lconst X0.here hx rfl (hb hby d1_26) ?_
    show Steps p.tables e below (s₁.setTop (mkF m 27 #[.val (.long q1), .second, .val (.int p2), .val (.int (p2 &&& (3 : Int32))), .unset, .unset] [(.long (1 : Int64)), (.long (q1 &&& (4294967295 : Int64)))])) _
    refine XS.ladd X0.here hx rfl (hb hby d1_27) rfl ?_
    show Steps p.tables e below (s₁.setTop (mkF m 28 #[.val (.long q1), .second, .val (.int p2), .val (.int (p2 &&& (3 : Int32))), .unset, .unset] [(.long ((q1 &&& (4294967295 : Int64)) + (1 : Int64)))])) _
    exact retOut X0 hx (t := .long) (i := .lreturn) Bd.returns rfl (Or.inr (Or.inl ⟨rfl, rfl, _, rfl⟩)) (hb hby d1_28) hr
  · show Q_pickStep Z q1 p2 h0 n0 _ s₁.heap _
    rw [e0]
    exact ⟨by rw [hret], N0, rfl⟩
set_option maxRecDepth 65536 in
set_option maxHeartbeats 40000000 in
theorem rm_pickStep_ttft (l : Launch) (Z : State) (a0 : Array Value) (hw : ∀ d ∈ tables_1, d.before a0 Z = true) (ws : List Jvm.Cond) (q1 : Int64) (p2 : Int32) (h0 : Heap) (n0 : Nat) (Z0 : n0 ≤ h0.size) (hc0 : ¬ ((p2 &&& (3 : Int32)) = (0 : Int32))) (hc1 : ¬ ((p2 &&& (3 : Int32)) = (1 : Int32))) (hc2 : (p2 &&& (3 : Int32)) = (2 : Int32)) (hc3 : ¬ ((q1 &&& (9223372036854775807 : Int64)) = (0 : Int64))) (hret : (f_pickStep q1 p2) = (q1 &&& (9223372036854775807 : Int64))) :
    MetFree l (⟨"org/everroll/InstantsIntoStepPinLaw", "pickStep", "(JI)J"⟩ : MethodName) (head1 (Jvm.Cond.code (⟨"org/everroll/InstantsIntoStepPinLaw", "pickStep", "(JI)J"⟩ : MethodName) method_2_code 6 (some .long) :: ws) ({ frames := 0, cells := 0, slots := 0, locals := 0 } : Room)) (fun a U => a = #[(.long q1), (.int p2)] ∧ Z.Warmed39 U.vm ∧ U.heap = h0) (fun _ _ _ _ _ => True) (fun _ U o U' => ∃ v L, o = .returned v ∧ Q_pickStep Z q1 p2 h0 n0 v U'.heap L ∧ FrameEnd U o U' L ({ frames := 0, cells := 0, slots := 0, locals := 0 } : Room).cells ({ frames := 0, cells := 0, slots := 0, locals := 0 } : Room).slots) := by
  refine MetFree.of_bodySF (plainFor_of_name pn_org_everroll_InstantsIntoStepPinLaw) hisR ?_
  intro p e s m args below meth c s₁ Bd hml0 hP hK
  obtain ⟨rfl, hZ, hh⟩ := hP
  have hx := Bd.exec
  have hby := Bd.bytes
  have hml : c.maxLocals = 6 := hml0
  have hown : s.vm.findClass "org/everroll/InstantsIntoStepPinLaw" = some m.cls := findClass_of_methodNamed Bd.named
  have hnm := (name_of_methodNamed Bd.named Bd.method).1
  have X0 : Stand p l e ({ frames := 0, cells := 0, slots := 0, locals := 0 } : Room) s m #[(.long q1), (.int p2)] below meth c s₁ [] 0 0 := Stand.of_body Bd
  have e0 : s₁.heap = h0 := by rw [← hh, Bd.state]; rfl
  have N0 := Fr.nil n0
  have pre0 : ∀ t, Steps p.tables e below (s₁.setTop (mkF m 0 #[.val (.long q1), .second, .val (.int p2), .unset, .unset, .unset] [])) t → Steps p.tables e below (s₁.setTop (entryFrame m #[(.long q1), (.int p2)] 6)) t := fun t k => castTop (ef_1_JI m q1 p2) k
  obtain ⟨fs, hr, hrun, hended, hW, hsame⟩ := X0.leave (v := some (.long (q1 &&& (9223372036854775807 : Int64)))) (fun h => by rw [Bd.returns] at h; cases h) Bd.notSynchronized
  refine ⟨_, _, pre0 _ ?_, hrun, hended, _, _, rfl, ?_, ⟨_, rfl⟩, hW, hsame.mono (by decide) (by decide)⟩
  · show Steps p.tables e below (s₁.setTop (mkF m 0 #[.val (.long q1), .second, .val (.int p2), .unset, .unset, .unset] [])) _
    refine XS.iloadN X0.here hx rfl (hb hby d1_0) rfl ?_
    show Steps p.tables e below (s₁.setTop (mkF m 1 #[.val (.long q1), .second, .val (.int p2), .unset, .unset, .unset] [(.int p2)])) _
    refine XS.iconst X0.here hx rfl (hb hby d1_1) ?_
    show Steps p.tables e below (s₁.setTop (mkF m 2 #[.val (.long q1), .second, .val (.int p2), .unset, .unset, .unset] [(.int (3 : Int32)), (.int p2)])) _
    refine XS.iand X0.here hx rfl (hb hby d1_2) rfl ?_
    show Steps p.tables e below (s₁.setTop (mkF m 3 #[.val (.long q1), .second, .val (.int p2), .unset, .unset, .unset] [(.int (p2 &&& (3 : Int32)))])) _
    refine XS.istoreN X0.here hx rfl (hb hby d1_3) rfl (l' := #[.val (.long q1), .second, .val (.int p2), .val (.int (p2 &&& (3 : Int32))), .unset, .unset]) rfl ?_
    show Steps p.tables e below (s₁.setTop (mkF m 4 #[.val (.long q1), .second, .val (.int p2), .val (.int (p2 &&& (3 : Int32))), .unset, .unset] [])) _
    refine XS.iloadN X0.here hx rfl (hb hby d1_4) rfl ?_
    show Steps p.tables e below (s₁.setTop (mkF m 5 #[.val (.long q1), .second, .val (.int p2), .val (.int (p2 &&& (3 : Int32))), .unset, .unset] [(.int (p2 &&& (3 : Int32)))])) _
    refine XS.ifYes X0.here hx rfl (pc0 := 5) (pc' := 16) rfl (hb hby d1_5) rfl ((if0 _ _).trans (feq hc0).2) (by decide) (by decide) ?_
    show Steps p.tables e below (s₁.setTop (mkF m 16 #[.val (.long q1), .second, .val (.int p2), .val (.int (p2 &&& (3 : Int32))), .unset, .unset] [])) _
    refine XS.iloadN X0.here hx rfl (hb hby d1_16) rfl ?_
    show Steps p.tables e below (s₁.setTop (mkF m 17 #[.val (.long q1), .second, .val (.int p2), .val (.int (p2 &&& (3 : Int32))), .unset, .unset] [(.int (p2 &&& (3 : Int32)))])) _
    refine XS.iconst X0.here hx rfl (hb hby d1_17) ?_
    show Steps p.tables e below (s₁.setTop (mkF m 18 #[.val (.long q1), .second, .val (.int p2), .val (.int (p2 &&& (3 : Int32))), .unset, .unset] [(.int (1 : Int32)), (.int (p2 &&& (3 : Int32)))])) _
    refine XS.icmpYes X0.here hx rfl (pc0 := 18) (pc' := 29) rfl (hb hby d1_18) rfl (feq hc1).2 (by decide) (by decide) ?_
    show Steps p.tables e below (s₁.setTop (mkF m 29 #[.val (.long q1), .second, .val (.int p2), .val (.int (p2 &&& (3 : Int32))), .unset, .unset] [])) _
    refine XS.iloadN X0.here hx rfl (hb hby d1_29) rfl ?_
    show Steps p.tables e below (s₁.setTop (mkF m 30 #[.val (.long q1), .second, .val (.int p2), .val (.int (p2 &&& (3 : Int32))), .unset, .unset] [(.int (p2 &&& (3 : Int32)))])) _
    refine XS.iconst X0.here hx rfl (hb hby d1_30) ?_
    show Steps p.tables e below (s₁.setTop (mkF m 31 #[.val (.long q1), .second, .val (.int p2), .val (.int (p2 &&& (3 : Int32))), .unset, .unset] [(.int (2 : Int32)), (.int (p2 &&& (3 : Int32)))])) _
    refine XS.icmpNo X0.here hx rfl (hb hby d1_31) rfl (teq hc2).2 ?_
    show Steps p.tables e below (s₁.setTop (mkF m 34 #[.val (.long q1), .second, .val (.int p2), .val (.int (p2 &&& (3 : Int32))), .unset, .unset] [])) _
    refine XS.lloadN X0.here hx rfl (hb hby d1_34) rfl ?_
    show Steps p.tables e below (s₁.setTop (mkF m 35 #[.val (.long q1), .second, .val (.int p2), .val (.int (p2 &&& (3 : Int32))), .unset, .unset] [(.long q1)])) _
    refine X0.ldc2Long hx hown (mvT hZ (hw _ (List.mem_of_getElem? (i := 4) rfl))) (g := (mkF m 35 #[.val (.long q1), .second, .val (.int p2), .val (.int (p2 &&& (3 : Int32))), .unset, .unset] [(.long q1)])) rfl (hb hby d1_35) _ ?_
    show Steps p.tables e below (s₁.setTop (mkF m 38 #[.val (.long q1), .second, .val (.int p2), .val (.int (p2 &&& (3 : Int32))), .unset, .unset] [(.long (9223372036854775807 : Int64)), (.long q1)])) _
    refine XS.land X0.here hx rfl (hb hby d1_38) rfl ?_
    show Steps p.tables e below (s₁.setTop (mkF m 39 #[.val (.long q1), .second, .val (.int p2), .val (.int (p2 &&& (3 : Int32))), .unset, .unset] [(.long (q1 &&& (9223372036854775807 : Int64)))])) _
    refine XS.lstore X0.here hx rfl (hb hby d1_39) rfl (l' := #[.val (.long q1), .second, .val (.int p2), .val (.int (p2 &&& (3 : Int32))), .val (.long (q1 &&& (9223372036854775807 : Int64))), .second]) rfl ?_
    show Steps p.tables e below (s₁.setTop (mkF m 41 #[.val (.long q1), .second, .val (.int p2), .val (.int (p2 &&& (3 : Int32))), .val (.long (q1 &&& (9223372036854775807 : Int64))), .second] [])) _
    refine XS.lload X0.here hx rfl (hb hby d1_41) rfl ?_
    show Steps p.tables e below (s₁.setTop (mkF m 43 #[.val (.long q1), .second, .val (.int p2), .val (.int (p2 &&& (3 : Int32))), .val (.long (q1 &&& (9223372036854775807 : Int64))), .second] [(.long (q1 &&& (9223372036854775807 : Int64)))])) _
    refine XS.lconst X0.here hx rfl (hb hby d1_43) ?_
    show Steps p.tables e below (s₁.setTop (mkF m 44 #[.val (.long q1), .second, .val (.int p2), .val (.int (p2 &&& (3 : Int32))), .val (.long (q1 &&& (9223372036854775807 : Int64))), .second] [(.long (0 : Int64)), (.long (q1 &&& (9223372036854775807 : Int64)))])) _
    refine XS.lcmp X0.here hx rfl (hb hby d1_44) rfl ?_
    show Steps p.tables e below (s₁.setTop (mkF m 45 #[.val (.long q1), .second, .val (.int p2), .val (.int (p2 &&& (3 : Int32))), .val (.long (q1 &&& (9223372036854775807 : Int64))), .second] [(.int (lcmpW (q1 &&& (9223372036854775807 : Int64)) (0 : Int64)))])) _
    refine XS.ifYes X0.here hx rfl (pc0 := 45) (pc' := 52) rfl (hb hby d1_45) rfl ((if0 _ _).trans (feq (fun q => (hc3 : ¬ ((q1 &&& (9223372036854775807 : Int64)) = (0 : Int64))) ((lw_eq _ _).mp q))).2) (by decide) (by decide) ?_
    show Steps p.tables e below (s₁.setTop (mkF m 52 #[.val (.long q1), .second, .val (.int p2), .val (.int (p2 &&& (3 : Int32))), .val (.long (q1 &&& (9223372036854775807 : Int64))), .second] [])) _
    refine XS.lload X0.here hx rfl (hb hby d1_52) rfl ?_
    show Steps p.tables e below (s₁.setTop (mkF m 54 #[.val (.long q1), .second, .val (.int p2), .val (.int (p2 &&& (3 : Int32))), .val (.long (q1 &&& (9223372036854775807 : Int64))), .second] [(.long (q1 &&& (9223372036854775807 : Int64)))])) _
    exact retOut X0 hx (t := .long) (i := .lreturn) Bd.returns rfl (Or.inr (Or.inl ⟨rfl, rfl, _, rfl⟩)) (hb hby d1_54) hr
  · show Q_pickStep Z q1 p2 h0 n0 _ s₁.heap _
    rw [e0]
    exact ⟨by rw [hret], N0, rfl⟩
set_option maxRecDepth 65536 in
set_option maxHeartbeats 40000000 in
theorem rm_pickStep_ttff (l : Launch) (Z : State) (a0 : Array Value) (hw : ∀ d ∈ tables_1, d.before a0 Z = true) (ws : List Jvm.Cond) (q1 : Int64) (p2 : Int32) (h0 : Heap) (n0 : Nat) (Z0 : n0 ≤ h0.size) (hc0 : ¬ ((p2 &&& (3 : Int32)) = (0 : Int32))) (hc1 : ¬ ((p2 &&& (3 : Int32)) = (1 : Int32))) (hc2 : (p2 &&& (3 : Int32)) = (2 : Int32)) (hc3 : (q1 &&& (9223372036854775807 : Int64)) = (0 : Int64)) (hret : (f_pickStep q1 p2) = (1 : Int64)) :
    MetFree l (⟨"org/everroll/InstantsIntoStepPinLaw", "pickStep", "(JI)J"⟩ : MethodName) (head1 (Jvm.Cond.code (⟨"org/everroll/InstantsIntoStepPinLaw", "pickStep", "(JI)J"⟩ : MethodName) method_2_code 6 (some .long) :: ws) ({ frames := 0, cells := 0, slots := 0, locals := 0 } : Room)) (fun a U => a = #[(.long q1), (.int p2)] ∧ Z.Warmed39 U.vm ∧ U.heap = h0) (fun _ _ _ _ _ => True) (fun _ U o U' => ∃ v L, o = .returned v ∧ Q_pickStep Z q1 p2 h0 n0 v U'.heap L ∧ FrameEnd U o U' L ({ frames := 0, cells := 0, slots := 0, locals := 0 } : Room).cells ({ frames := 0, cells := 0, slots := 0, locals := 0 } : Room).slots) := by
  refine MetFree.of_bodySF (plainFor_of_name pn_org_everroll_InstantsIntoStepPinLaw) hisR ?_
  intro p e s m args below meth c s₁ Bd hml0 hP hK
  obtain ⟨rfl, hZ, hh⟩ := hP
  have hx := Bd.exec
  have hby := Bd.bytes
  have hml : c.maxLocals = 6 := hml0
  have hown : s.vm.findClass "org/everroll/InstantsIntoStepPinLaw" = some m.cls := findClass_of_methodNamed Bd.named
  have hnm := (name_of_methodNamed Bd.named Bd.method).1
  have X0 : Stand p l e ({ frames := 0, cells := 0, slots := 0, locals := 0 } : Room) s m #[(.long q1), (.int p2)] below meth c s₁ [] 0 0 := Stand.of_body Bd
  have e0 : s₁.heap = h0 := by rw [← hh, Bd.state]; rfl
  have N0 := Fr.nil n0
  have pre0 : ∀ t, Steps p.tables e below (s₁.setTop (mkF m 0 #[.val (.long q1), .second, .val (.int p2), .unset, .unset, .unset] [])) t → Steps p.tables e below (s₁.setTop (entryFrame m #[(.long q1), (.int p2)] 6)) t := fun t k => castTop (ef_1_JI m q1 p2) k
  obtain ⟨fs, hr, hrun, hended, hW, hsame⟩ := X0.leave (v := some (.long (1 : Int64))) (fun h => by rw [Bd.returns] at h; cases h) Bd.notSynchronized
  refine ⟨_, _, pre0 _ ?_, hrun, hended, _, _, rfl, ?_, ⟨_, rfl⟩, hW, hsame.mono (by decide) (by decide)⟩
  · show Steps p.tables e below (s₁.setTop (mkF m 0 #[.val (.long q1), .second, .val (.int p2), .unset, .unset, .unset] [])) _
    refine XS.iloadN X0.here hx rfl (hb hby d1_0) rfl ?_
    show Steps p.tables e below (s₁.setTop (mkF m 1 #[.val (.long q1), .second, .val (.int p2), .unset, .unset, .unset] [(.int p2)])) _
    refine XS.iconst X0.here hx rfl (hb hby d1_1) ?_
    show Steps p.tables e below (s₁.setTop (mkF m 2 #[.val (.long q1), .second, .val (.int p2), .unset, .unset, .unset] [(.int (3 : Int32)), (.int p2)])) _
    refine XS.iand X0.here hx rfl (hb hby d1_2) rfl ?_
    show Steps p.tables e below (s₁.setTop (mkF m 3 #[.val (.long q1), .second, .val (.int p2), .unset, .unset, .unset] [(.int (p2 &&& (3 : Int32)))])) _
    refine XS.istoreN X0.here hx rfl (hb hby d1_3) rfl (l' := #[.val (.long q1), .second, .val (.int p2), .val (.int (p2 &&& (3 : Int32))), .unset, .unset]) rfl ?_
    show Steps p.tables e below (s₁.setTop (mkF m 4 #[.val (.long q1), .second, .val (.int p2), .val (.int (p2 &&& (3 : Int32))), .unset, .unset] [])) _
    refine XS.iloadN X0.here hx rfl (hb hby d1_4) rfl ?_
    show Steps p.tables e below (s₁.setTop (mkF m 5 #[.val (.long q1), .second, .val (.int p2), .val (.int (p2 &&& (3 : Int32))), .unset, .unset] [(.int (p2 &&& (3 : Int32)))])) _
    refine XS.ifYes X0.here hx rfl (pc0 := 5) (pc' := 16) rfl (hb hby d1_5) rfl ((if0 _ _).trans (feq hc0).2) (by decide) (by decide) ?_
    show Steps p.tables e below (s₁.setTop (mkF m 16 #[.val (.long q1), .second, .val (.int p2), .val (.int (p2 &&& (3 : Int32))), .unset, .unset] [])) _
    refine XS.iloadN X0.here hx rfl (hb hby d1_16) rfl ?_
    show Steps p.tables e below (s₁.setTop (mkF m 17 #[.val (.long q1), .second, .val (.int p2), .val (.int (p2 &&& (3 : Int32))), .unset, .unset] [(.int (p2 &&& (3 : Int32)))])) _
    refine XS.iconst X0.here hx rfl (hb hby d1_17) ?_
    show Steps p.tables e below (s₁.setTop (mkF m 18 #[.val (.long q1), .second, .val (.int p2), .val (.int (p2 &&& (3 : Int32))), .unset, .unset] [(.int (1 : Int32)), (.int (p2 &&& (3 : Int32)))])) _
    refine XS.icmpYes X0.here hx rfl (pc0 := 18) (pc' := 29) rfl (hb hby d1_18) rfl (feq hc1).2 (by decide) (by decide) ?_
    show Steps p.tables e below (s₁.setTop (mkF m 29 #[.val (.long q1), .second, .val (.int p2), .val (.int (p2 &&& (3 : Int32))), .unset, .unset] [])) _
    refine XS.iloadN X0.here hx rfl (hb hby d1_29) rfl ?_
    show Steps p.tables e below (s₁.setTop (mkF m 30 #[.val (.long q1), .second, .val (.int p2), .val (.int (p2 &&& (3 : Int32))), .unset, .unset] [(.int (p2 &&& (3 : Int32)))])) _
    refine XS.iconst X0.here hx rfl (hb hby d1_30) ?_
    show Steps p.tables e below (s₁.setTop (mkF m 31 #[.val (.long q1), .second, .val (.int p2), .val (.int (p2 &&& (3 : Int32))), .unset, .unset] [(.int (2 : Int32)), (.int (p2 &&& (3 : Int32)))])) _
    refine XS.icmpNo X0.here hx rfl (hb hby d1_31) rfl (teq hc2).2 ?_
    show Steps p.tables e below (s₁.setTop (mkF m 34 #[.val (.long q1), .second, .val (.int p2), .val (.int (p2 &&& (3 : Int32))), .unset, .unset] [])) _
    refine XS.lloadN X0.here hx rfl (hb hby d1_34) rfl ?_
    show Steps p.tables e below (s₁.setTop (mkF m 35 #[.val (.long q1), .second, .val (.int p2), .val (.int (p2 &&& (3 : Int32))), .unset, .unset] [(.long q1)])) _
    refine X0.ldc2Long hx hown (mvT hZ (hw _ (List.mem_of_getElem? (i := 4) rfl))) (g := (mkF m 35 #[.val (.long q1), .second, .val (.int p2), .val (.int (p2 &&& (3 : Int32))), .unset, .unset] [(.long q1)])) rfl (hb hby d1_35) _ ?_
    show Steps p.tables e below (s₁.setTop (mkF m 38 #[.val (.long q1), .second, .val (.int p2), .val (.int (p2 &&& (3 : Int32))), .unset, .unset] [(.long (9223372036854775807 : Int64)), (.long q1)])) _
    refine XS.land X0.here hx rfl (hb hby d1_38) rfl ?_
    show Steps p.tables e below (s₁.setTop (mkF m 39 #[.val (.long q1), .second, .val (.int p2), .val (.int (p2 &&& (3 : Int32))), .unset, .unset] [(.long (q1 &&& (9223372036854775807 : Int64)))])) _
    refine XS.lstore X0.here hx rfl (hb hby d1_39) rfl (l' := #[.val (.long q1), .second, .val (.int p2), .val (.int (p2 &&& (3 : Int32))), .val (.long (q1 &&& (9223372036854775807 : Int64))), .second]) rfl ?_
    show Steps p.tables e below (s₁.setTop (mkF m 41 #[.val (.long q1), .second, .val (.int p2), .val (.int (p2 &&& (3 : Int32))), .val (.long (q1 &&& (9223372036854775807 : Int64))), .second] [])) _
    refine XS.lload X0.here hx rfl (hb hby d1_41) rfl ?_
    show Steps p.tables e below (s₁.setTop (mkF m 43 #[.val (.long q1), .second, .val (.int p2), .val (.int (p2 &&& (3 : Int32))), .val (.long (q1 &&& (9223372036854775807 : Int64))), .second] [(.long (q1 &&& (9223372036854775807 : Int64)))])) _
    refine XS.lconst X0.here hx rfl (hb hby d1_43) ?_
    show Steps p.tables e below (s₁.setTop (mkF m 44 #[.val (.long q1), .second, .val (.int p2), .val (.int (p2 &&& (3 : Int32))), .val (.long (q1 &&& (9223372036854775807 : Int64))), .second] [(.long (0 : Int64)), (.long (q1 &&& (9223372036854775807 : Int64)))])) _
    refine XS.lcmp X0.here hx rfl (hb hby d1_44) rfl ?_
    show Steps p.tables e below (s₁.setTop (mkF m 45 #[.val (.long q1), .second, .val (.int p2), .val (.int (p2 &&& (3 : Int32))), .val (.long (q1 &&& (9223372036854775807 : Int64))), .second] [(.int (lcmpW (q1 &&& (9223372036854775807 : Int64)) (0 : Int64)))])) _
    refine XS.ifNo X0.here hx rfl (hb hby d1_45) rfl ((if0 _ _).trans (teq ((lw_eq _ _).mpr (hc3 : (q1 &&& (9223372036854775807 : Int64)) = (0 : Int64)))).2) ?_
    show Steps p.tables e below (s₁.setTop (mkF m 48 #[.val (.long q1), .second, .val (.int p2), .val (.int (p2 &&& (3 : Int32))), .val (.long (q1 &&& (9223372036854775807 : Int64))), .second] [])) _
    refine XS.lconst X0.here hx rfl (hb hby d1_48) ?_
    show Steps p.tables e below (s₁.setTop (mkF m 49 #[.val (.long q1), .second, .val (.int p2), .val (.int (p2 &&& (3 : Int32))), .val (.long (q1 &&& (9223372036854775807 : Int64))), .second] [(.long (1 : Int64))])) _
    refine XS.goto X0.here hx rfl (pc0 := 49) (pc' := 54) rfl (hb hby d1_49) (by decide) (by decide) ?_
    show Steps p.tables e below (s₁.setTop (mkF m 54 #[.val (.long q1), .second, .val (.int p2), .val (.int (p2 &&& (3 : Int32))), .val (.long (q1 &&& (9223372036854775807 : Int64))), .second] [(.long (1 : Int64))])) _
    exact retOut X0 hx (t := .long) (i := .lreturn) Bd.returns rfl (Or.inr (Or.inl ⟨rfl, rfl, _, rfl⟩)) (hb hby d1_54) hr
  · show Q_pickStep Z q1 p2 h0 n0 _ s₁.heap _
    rw [e0]
    exact ⟨by rw [hret], N0, rfl⟩
set_option maxRecDepth 65536 in
set_option maxHeartbeats 40000000 in
theorem rm_pickStep_ttt (l : Launch) (Z : State) (a0 : Array Value) (hw : ∀ d ∈ tables_1, d.before a0 Z = true) (ws : List Jvm.Cond) (q1 : Int64) (p2 : Int32) (h0 : Heap) (n0 : Nat) (Z0 : n0 ≤ h0.size) (hc0 : ¬ ((p2 &&& (3 : Int32)) = (0 : Int32))) (hc1 : ¬ ((p2 &&& (3 : Int32)) = (1 : Int32))) (hc2 : ¬ ((p2 &&& (3 : Int32)) = (2 : Int32))) (hret : (f_pickStep q1 p2) = ((9223372036854775807 : Int64) - (q1 &&& (15 : Int64)))) :
    MetFree l (⟨"org/everroll/InstantsIntoStepPinLaw", "pickStep", "(JI)J"⟩ : MethodName) (head1 (Jvm.Cond.code (⟨"org/everroll/InstantsIntoStepPinLaw", "pickStep", "(JI)J"⟩ : MethodName) method_2_code 6 (some .long) :: ws) ({ frames := 0, cells := 0, slots := 0, locals := 0 } : Room)) (fun a U => a = #[(.long q1), (.int p2)] ∧ Z.Warmed39 U.vm ∧ U.heap = h0) (fun _ _ _ _ _ => True) (fun _ U o U' => ∃ v L, o = .returned v ∧ Q_pickStep Z q1 p2 h0 n0 v U'.heap L ∧ FrameEnd U o U' L ({ frames := 0, cells := 0, slots := 0, locals := 0 } : Room).cells ({ frames := 0, cells := 0, slots := 0, locals := 0 } : Room).slots) := by
  refine MetFree.of_bodySF (plainFor_of_name pn_org_everroll_InstantsIntoStepPinLaw) hisR ?_
  intro p e s m args below meth c s₁ Bd hml0 hP hK
  obtain ⟨rfl, hZ, hh⟩ := hP
  have hx := Bd.exec
  have hby := Bd.bytes
  have hml : c.maxLocals = 6 := hml0
  have hown : s.vm.findClass "org/everroll/InstantsIntoStepPinLaw" = some m.cls := findClass_of_methodNamed Bd.named
  have hnm := (name_of_methodNamed Bd.named Bd.method).1
  have X0 : Stand p l e ({ frames := 0, cells := 0, slots := 0, locals := 0 } : Room) s m #[(.long q1), (.int p2)] below meth c s₁ [] 0 0 := Stand.of_body Bd
  have e0 : s₁.heap = h0 := by rw [← hh, Bd.state]; rfl
  have N0 := Fr.nil n0
  have pre0 : ∀ t, Steps p.tables e below (s₁.setTop (mkF m 0 #[.val (.long q1), .second, .val (.int p2), .unset, .unset, .unset] [])) t → Steps p.tables e below (s₁.setTop (entryFrame m #[(.long q1), (.int p2)] 6)) t := fun t k => castTop (ef_1_JI m q1 p2) k
  obtain ⟨fs, hr, hrun, hended, hW, hsame⟩ := X0.leave (v := some (.long ((9223372036854775807 : Int64) - (q1 &&& (15 : Int64))))) (fun h => by rw [Bd.returns] at h; cases h) Bd.notSynchronized
  refine ⟨_, _, pre0 _ ?_, hrun, hended, _, _, rfl, ?_, ⟨_, rfl⟩, hW, hsame.mono (by decide) (by decide)⟩
  · show Steps p.tables e below (s₁.setTop (mkF m 0 #[.val (.long q1), .second, .val (.int p2), .unset, .unset, .unset] [])) _
    refine XS.iloadN X0.here hx rfl (hb hby d1_0) rfl ?_
    show Steps p.tables e below (s₁.setTop (mkF m 1 #[.val (.long q1), .second, .val (.int p2), .unset, .unset, .unset] [(.int p2)])) _
    refine XS.iconst X0.here hx rfl (hb hby d1_1) ?_
    show Steps p.tables e below (s₁.setTop (mkF m 2 #[.val (.long q1), .second, .val (.int p2), .unset, .unset, .unset] [(.int (3 : Int32)), (.int p2)])) _
    refine XS.iand X0.here hx rfl (hb hby d1_2) rfl ?_
    show Steps p.tables e below (s₁.setTop (mkF m 3 #[.val (.long q1), .second, .val (.int p2), .unset, .unset, .unset] [(.int (p2 &&& (3 : Int32)))])) _
    refine XS.istoreN X0.here hx rfl (hb hby d1_3) rfl (l' := #[.val (.long q1), .second, .val (.int p2), .val (.int (p2 &&& (3 : Int32))), .unset, .unset]) rfl ?_
    show Steps p.tables e below (s₁.setTop (mkF m 4 #[.val (.long q1), .second, .val (.int p2), .val (.int (p2 &&& (3 : Int32))), .unset, .unset] [])) _
    refine XS.iloadN X0.here hx rfl (hb hby d1_4) rfl ?_
    show Steps p.tables e below (s₁.setTop (mkF m 5 #[.val (.long q1), .second, .val (.int p2), .val (.int (p2 &&& (3 : Int32))), .unset, .unset] [(.int (p2 &&& (3 : Int32)))])) _
    refine XS.ifYes X0.here hx rfl (pc0 := 5) (pc' := 16) rfl (hb hby d1_5) rfl ((if0 _ _).trans (feq hc0).2) (by decide) (by decide) ?_
    show Steps p.tables e below (s₁.setTop (mkF m 16 #[.val (.long q1), .second, .val (.int p2), .val (.int (p2 &&& (3 : Int32))), .unset, .unset] [])) _
    refine XS.iloadN X0.here hx rfl (hb hby d1_16) rfl ?_
    show Steps p.tables e below (s₁.setTop (mkF m 17 #[.val (.long q1), .second, .val (.int p2), .val (.int (p2 &&& (3 : Int32))), .unset, .unset] [(.int (p2 &&& (3 : Int32)))])) _
    refine XS.iconst X0.here hx rfl (hb hby d1_17) ?_
    show Steps p.tables e below (s₁.setTop (mkF m 18 #[.val (.long q1), .second, .val (.int p2), .val (.int (p2 &&& (3 : Int32))), .unset, .unset] [(.int (1 : Int32)), (.int (p2 &&& (3 : Int32)))])) _
    refine XS.icmpYes X0.here hx rfl (pc0 := 18) (pc' := 29) rfl (hb hby d1_18) rfl (feq hc1).2 (by decide) (by decide) ?_
    show Steps p.tables e below (s₁.setTop (mkF m 29 #[.val (.long q1), .second, .val (.int p2), .val (.int (p2 &&& (3 : Int32))), .unset, .unset] [])) _
    refine XS.iloadN X0.here hx rfl (hb hby d1_29) rfl ?_
    show Steps p.tables e below (s₁.setTop (mkF m 30 #[.val (.long q1), .second, .val (.int p2), .val (.int (p2 &&& (3 : Int32))), .unset, .unset] [(.int (p2 &&& (3 : Int32)))])) _
    refine XS.iconst X0.here hx rfl (hb hby d1_30) ?_
    show Steps p.tables e below (s₁.setTop (mkF m 31 #[.val (.long q1), .second, .val (.int p2), .val (.int (p2 &&& (3 : Int32))), .unset, .unset] [(.int (2 : Int32)), (.int (p2 &&& (3 : Int32)))])) _
    refine XS.icmpYes X0.here hx rfl (pc0 := 31) (pc' := 55) rfl (hb hby d1_31) rfl (feq hc2).2 (by decide) (by decide) ?_
    show Steps p.tables e below (s₁.setTop (mkF m 55 #[.val (.long q1), .second, .val (.int p2), .val (.int (p2 &&& (3 : Int32))), .unset, .unset] [])) _
    refine X0.ldc2Long hx hown (mvT hZ (hw _ (List.mem_of_getElem? (i := 4) rfl))) (g := (mkF m 55 #[.val (.long q1), .second, .val (.int p2), .val (.int (p2 &&& (3 : Int32))), .unset, .unset] [])) rfl (hb hby d1_55) _ ?_
    show Steps p.tables e below (s₁.setTop (mkF m 58 #[.val (.long q1), .second, .val (.int p2), .val (.int (p2 &&& (3 : Int32))), .unset, .unset] [(.long (9223372036854775807 : Int64))])) _
    refine XS.lloadN X0.here hx rfl (hb hby d1_58) rfl ?_
    show Steps p.tables e below (s₁.setTop (mkF m 59 #[.val (.long q1), .second, .val (.int p2), .val (.int (p2 &&& (3 : Int32))), .unset, .unset] [(.long q1), (.long (9223372036854775807 : Int64))])) _
    refine X0.ldc2Long hx hown (mvT hZ (hw _ (List.mem_of_getElem? (i := 16) rfl))) (g := (mkF m 59 #[.val (.long q1), .second, .val (.int p2), .val (.int (p2 &&& (3 : Int32))), .unset, .unset] [(.long q1), (.long (9223372036854775807 : Int64))])) rfl (hb hby d1_59) _ ?_
    show Steps p.tables e below (s₁.setTop (mkF m 62 #[.val (.long q1), .second, .val (.int p2), .val (.int (p2 &&& (3 : Int32))), .unset, .unset] [(.long (15 : Int64)), (.long q1), (.long (9223372036854775807 : Int64))])) _
    refine XS.land X0.here hx rfl (hb hby d1_62) rfl ?_
    show Steps p.tables e below (s₁.setTop (mkF m 63 #[.val (.long q1), .second, .val (.int p2), .val (.int (p2 &&& (3 : Int32))), .unset, .unset] [(.long (q1 &&& (15 : Int64))), (.long (9223372036854775807 : Int64))])) _
    refine XS.lsub X0.here hx rfl (hb hby d1_63) rfl ?_
    show Steps p.tables e below (s₁.setTop (mkF m 64 #[.val (.long q1), .second, .val (.int p2), .val (.int (p2 &&& (3 : Int32))), .unset, .unset] [(.long ((9223372036854775807 : Int64) - (q1 &&& (15 : Int64))))])) _
    exact retOut X0 hx (t := .long) (i := .lreturn) Bd.returns rfl (Or.inr (Or.inl ⟨rfl, rfl, _, rfl⟩)) (hb hby d1_64) hr
  · show Q_pickStep Z q1 p2 h0 n0 _ s₁.heap _
    rw [e0]
    exact ⟨by rw [hret], N0, rfl⟩
set_option maxRecDepth 65536 in
set_option maxHeartbeats 40000000 in
theorem rm_pickStep (l : Launch) (Z : State) (a0 : Array Value) (hw : ∀ d ∈ tables_1, d.before a0 Z = true) (ws : List Jvm.Cond) (q1 : Int64) (p2 : Int32) (h0 : Heap) (n0 : Nat) (Z0 : n0 ≤ h0.size) :
    MetFree l (⟨"org/everroll/InstantsIntoStepPinLaw", "pickStep", "(JI)J"⟩ : MethodName) (head1 (Jvm.Cond.code (⟨"org/everroll/InstantsIntoStepPinLaw", "pickStep", "(JI)J"⟩ : MethodName) method_2_code 6 (some .long) :: ws) ({ frames := 0, cells := 0, slots := 0, locals := 0 } : Room)) (fun a U => a = #[(.long q1), (.int p2)] ∧ Z.Warmed39 U.vm ∧ U.heap = h0) (fun _ _ _ _ _ => True) (fun _ U o U' => ∃ v L, o = .returned v ∧ Q_pickStep Z q1 p2 h0 n0 v U'.heap L ∧ FrameEnd U o U' L ({ frames := 0, cells := 0, slots := 0, locals := 0 } : Room).cells ({ frames := 0, cells := 0, slots := 0, locals := 0 } : Room).slots) := by
  by_cases c0 : (p2 &&& (3 : Int32)) = (0 : Int32)
  · skip
    exact rm_pickStep_f l Z a0 hw ws q1 p2 h0 n0 Z0  c0 (by unfold f_pickStep; rw [if_pos c0])
  · skip
    by_cases c1 : (p2 &&& (3 : Int32)) = (1 : Int32)
    · skip
      exact rm_pickStep_tf l Z a0 hw ws q1 p2 h0 n0 Z0  c0 c1 (by unfold f_pickStep; rw [if_neg c0]; rw [if_pos c1])
    · skip
      by_cases c2 : (p2 &&& (3 : Int32)) = (2 : Int32)
      · skip
        by_cases c3 : (q1 &&& (9223372036854775807 : Int64)) = (0 : Int64)
        · skip
          exact rm_pickStep_ttff l Z a0 hw ws q1 p2 h0 n0 Z0  c0 c1 c2 c3 (by unfold f_pickStep; rw [if_neg c0]; rw [if_neg c1]; rw [if_pos c2]; rw [if_pos c3])
        · skip
          exact rm_pickStep_ttft l Z a0 hw ws q1 p2 h0 n0 Z0  c0 c1 c2 c3 (by unfold f_pickStep; rw [if_neg c0]; rw [if_neg c1]; rw [if_pos c2]; rw [if_neg c3])
      · skip
        exact rm_pickStep_ttt l Z a0 hw ws q1 p2 h0 n0 Z0  c0 c1 c2 (by unfold f_pickStep; rw [if_neg c0]; rw [if_neg c1]; rw [if_neg c2])
theorem d2_0 : decode method_3_code 0 = .ok (.iload_n 2, 1) := by decide +kernel
theorem d2_1 : decode method_3_code 1 = .ok (.iconst 2, 1) := by decide +kernel
theorem d2_2 : decode method_3_code 2 = .ok (.ishr, 1) := by decide +kernel
theorem d2_3 : decode method_3_code 3 = .ok (.iconst 3, 1) := by decide +kernel
theorem d2_4 : decode method_3_code 4 = .ok (.iand, 1) := by decide +kernel
theorem d2_5 : decode method_3_code 5 = .ok (.istore_n 3, 1) := by decide +kernel
theorem d2_6 : decode method_3_code 6 = .ok (.iload_n 3, 1) := by decide +kernel
theorem d2_7 : decode method_3_code 7 = .ok (.iconst 2, 1) := by decide +kernel
theorem d2_8 : decode method_3_code 8 = .ok (.if_icmp .ne 13, 3) := by decide +kernel
theorem d2_11 : decode method_3_code 11 = .ok (.ldc2_w 15, 3) := by decide +kernel
theorem d2_14 : decode method_3_code 14 = .ok (.lload_n 0, 1) := by decide +kernel
theorem d2_15 : decode method_3_code 15 = .ok (.ldc2_w 7, 3) := by decide +kernel
theorem d2_18 : decode method_3_code 18 = .ok (.land, 1) := by decide +kernel
theorem d2_19 : decode method_3_code 19 = .ok (.ladd, 1) := by decide +kernel
theorem d2_20 : decode method_3_code 20 = .ok (.lreturn, 1) := by decide +kernel
theorem d2_21 : decode method_3_code 21 = .ok (.iload_n 3, 1) := by decide +kernel
theorem d2_22 : decode method_3_code 22 = .ok (.iconst 3, 1) := by decide +kernel
theorem d2_23 : decode method_3_code 23 = .ok (.if_icmp .ne 13, 3) := by decide +kernel
theorem d2_26 : decode method_3_code 26 = .ok (.ldc2_w 13, 3) := by decide +kernel
theorem d2_29 : decode method_3_code 29 = .ok (.lload_n 0, 1) := by decide +kernel
theorem d2_30 : decode method_3_code 30 = .ok (.ldc2_w 7, 3) := by decide +kernel
theorem d2_33 : decode method_3_code 33 = .ok (.land, 1) := by decide +kernel
theorem d2_34 : decode method_3_code 34 = .ok (.lsub, 1) := by decide +kernel
theorem d2_35 : decode method_3_code 35 = .ok (.lreturn, 1) := by decide +kernel
theorem d2_36 : decode method_3_code 36 = .ok (.lload_n 0, 1) := by decide +kernel
theorem d2_37 : decode method_3_code 37 = .ok (.lreturn, 1) := by decide +kernel
theorem ef_2_JI (m : MethodId) (x0 : Int64) (x1 : Int32) : entryFrame m #[(.long x0), (.int x1)] 4 = mkF m 0 #[.val (.long x0), .second, .val (.int x1), .unset] [] := by first | (simp [entryFrame, mkF, argsToLocals, Value.category]; done) | rfl
def f_pickTime (q1 : Int64) (p2 : Int32) : Int64 := (if ((p2 >>> ((2 : Int32) &&& 31)) &&& (3 : Int32)) = (2 : Int32) then ((-9223372036854775808 : Int64) + (q1 &&& (15 : Int64))) else (if ((p2 >>> ((2 : Int32) &&& 31)) &&& (3 : Int32)) = (3 : Int32) then ((9223372036854775807 : Int64) - (q1 &&& (15 : Int64))) else q1))
def Q_pickTime (Z : State) (q1 : Int64) (p2 : Int32) (h0 : Heap) (n0 : Nat) (v : Option Value) (h : Heap) (L : List Loc) : Prop := v = some (.long (f_pickTime q1 p2)) ∧ Fr n0 L ∧ h = h0
set_option maxRecDepth 65536 in
set_option maxHeartbeats 40000000 in
theorem rm_pickTime_f (l : Launch) (Z : State) (a0 : Array Value) (hw : ∀ d ∈ tables_1, d.before a0 Z = true) (ws : List Jvm.Cond) (q1 : Int64) (p2 : Int32) (h0 : Heap) (n0 : Nat) (Z0 : n0 ≤ h0.size) (hc0 : ((p2 >>> ((2 : Int32) &&& 31)) &&& (3 : Int32)) = (2 : Int32)) (hret : (f_pickTime q1 p2) = ((-9223372036854775808 : Int64) + (q1 &&& (15 : Int64)))) :
    MetFree l (⟨"org/everroll/InstantsIntoStepPinLaw", "pickTime", "(JI)J"⟩ : MethodName) (head1 (Jvm.Cond.code (⟨"org/everroll/InstantsIntoStepPinLaw", "pickTime", "(JI)J"⟩ : MethodName) method_3_code 4 (some .long) :: ws) ({ frames := 0, cells := 0, slots := 0, locals := 0 } : Room)) (fun a U => a = #[(.long q1), (.int p2)] ∧ Z.Warmed39 U.vm ∧ U.heap = h0) (fun _ _ _ _ _ => True) (fun _ U o U' => ∃ v L, o = .returned v ∧ Q_pickTime Z q1 p2 h0 n0 v U'.heap L ∧ FrameEnd U o U' L ({ frames := 0, cells := 0, slots := 0, locals := 0 } : Room).cells ({ frames := 0, cells := 0, slots := 0, locals := 0 } : Room).slots) := by
  refine MetFree.of_bodySF (plainFor_of_name pn_org_everroll_InstantsIntoStepPinLaw) hisR ?_
  intro p e s m args below meth c s₁ Bd hml0 hP hK
  obtain ⟨rfl, hZ, hh⟩ := hP
  have hx := Bd.exec
  have hby := Bd.bytes
  have hml : c.maxLocals = 4 := hml0
  have hown : s.vm.findClass "org/everroll/InstantsIntoStepPinLaw" = some m.cls := findClass_of_methodNamed Bd.named
  have hnm := (name_of_methodNamed Bd.named Bd.method).1
  have X0 : Stand p l e ({ frames := 0, cells := 0, slots := 0, locals := 0 } : Room) s m #[(.long q1), (.int p2)] below meth c s₁ [] 0 0 := Stand.of_body Bd
  have e0 : s₁.heap = h0 := by rw [← hh, Bd.state]; rfl
  have N0 := Fr.nil n0
  have pre0 : ∀ t, Steps p.tables e below (s₁.setTop (mkF m 0 #[.val (.long q1), .second, .val (.int p2), .unset] [])) t → Steps p.tables e below (s₁.setTop (entryFrame m #[(.long q1), (.int p2)] 4)) t := fun t k => castTop (ef_2_JI m q1 p2) k
  obtain ⟨fs, hr, hrun, hended, hW, hsame⟩ := X0.leave (v := some (.long ((-9223372036854775808 : Int64) + (q1 &&& (15 : Int64))))) (fun h => by rw [Bd.returns] at h; cases h) Bd.notSynchronized
  refine ⟨_, _, pre0 _ ?_, hrun, hended, _, _, rfl, ?_, ⟨_, rfl⟩, hW, hsame.mono (by decide) (by decide)⟩
  · show Steps p.tables e below (s₁.setTop (mkF m 0 #[.val (.long q1), .second, .val (.int p2), .unset] [])) _
    refine XS.iloadN X0.here hx rfl (hb hby d2_0) rfl ?_
    show Steps p.tables e below (s₁.setTop (mkF m 1 #[.val (.long q1), .second, .val (.int p2), .unset] [(.int p2)])) _
    refine XS.iconst X0.here hx rfl (hb hby d2_1) ?_
    show Steps p.tables e below (s₁.setTop (mkF m 2 #[.val (.long q1), .second, .val (.int p2), .unset] [(.int (2 : Int32)), (.int p2)])) _
    refine XS.ishr X0.here hx rfl (hb hby d2_2) rfl ?_
    show Steps p.tables e below (s₁.setTop (mkF m 3 #[.val (.long q1), .second, .val (.int p2), .unset] [(.int (p2 >>> ((2 : Int32) &&& 31)))])) _
    refine XS.iconst X0.here hx rfl (hb hby d2_3) ?_
    show Steps p.tables e below (s₁.setTop (mkF m 4 #[.val (.long q1), .second, .val (.int p2), .unset] [(.int (3 : Int32)), (.int (p2 >>> ((2 : Int32) &&& 31)))])) _
    refine XS.iand X0.here hx rfl (hb hby d2_4) rfl ?_
    show Steps p.tables e below (s₁.setTop (mkF m 5 #[.val (.long q1), .second, .val (.int p2), .unset] [(.int ((p2 >>> ((2 : Int32) &&& 31)) &&& (3 : Int32)))])) _
    refine XS.istoreN X0.here hx rfl (hb hby d2_5) rfl (l' := #[.val (.long q1), .second, .val (.int p2), .val (.int ((p2 >>> ((2 : Int32) &&& 31)) &&& (3 : Int32)))]) rfl ?_
    show Steps p.tables e below (s₁.setTop (mkF m 6 #[.val (.long q1), .second, .val (.int p2), .val (.int ((p2 >>> ((2 : Int32) &&& 31)) &&& (3 : Int32)))] [])) _
    refine XS.iloadN X0.here hx rfl (hb hby d2_6) rfl ?_
    show Steps p.tables e below (s₁.setTop (mkF m 7 #[.val (.long q1), .second, .val (.int p2), .val (.int ((p2 >>> ((2 : Int32) &&& 31)) &&& (3 : Int32)))] [(.int ((p2 >>> ((2 : Int32) &&& 31)) &&& (3 : Int32)))])) _
    refine XS.iconst X0.here hx rfl (hb hby d2_7) ?_
    show Steps p.tables e below (s₁.setTop (mkF m 8 #[.val (.long q1), .second, .val (.int p2), .val (.int ((p2 >>> ((2 : Int32) &&& 31)) &&& (3 : Int32)))] [(.int (2 : Int32)), (.int ((p2 >>> ((2 : Int32) &&& 31)) &&& (3 : Int32)))])) _
    refine XS.icmpNo X0.here hx rfl (hb hby d2_8) rfl (teq hc0).2 ?_
    show Steps p.tables e below (s₁.setTop (mkF m 11 #[.val (.long q1), .second, .val (.int p2), .val (.int ((p2 >>> ((2 : Int32) &&& 31)) &&& (3 : Int32)))] [])) _
    refine X0.ldc2Long hx hown (mvT hZ (hw _ (List.mem_of_getElem? (i := 18) rfl))) (g := (mkF m 11 #[.val (.long q1), .second, .val (.int p2), .val (.int ((p2 >>> ((2 : Int32) &&& 31)) &&& (3 : Int32)))] [])) rfl (hb hby d2_11) _ ?_
    show Steps p.tables e below (s₁.setTop (mkF m 14 #[.val (.long q1), .second, .val (.int p2), .val (.int ((p2 >>> ((2 : Int32) &&& 31)) &&& (3 : Int32)))] [(.long (-9223372036854775808 : Int64))])) _
    refine XS.lloadN X0.here hx rfl (hb hby d2_14) rfl ?_
    show Steps p.tables e below (s₁.setTop (mkF m 15 #[.val (.long q1), .second, .val (.int p2), .val (.int ((p2 >>> ((2 : Int32) &&& 31)) &&& (3 : Int32)))] [(.long q1), (.long (-9223372036854775808 : Int64))])) _
    refine X0.ldc2Long hx hown (mvT hZ (hw _ (List.mem_of_getElem? (i := 16) rfl))) (g := (mkF m 15 #[.val (.long q1), .second, .val (.int p2), .val (.int ((p2 >>> ((2 : Int32) &&& 31)) &&& (3 : Int32)))] [(.long q1), (.long (-9223372036854775808 : Int64))])) rfl (hb hby d2_15) _ ?_
    show Steps p.tables e below (s₁.setTop (mkF m 18 #[.val (.long q1), .second, .val (.int p2), .val (.int ((p2 >>> ((2 : Int32) &&& 31)) &&& (3 : Int32)))] [(.long (15 : Int64)), (.long q1), (.long (-9223372036854775808 : Int64))])) _
    refine XS.land X0.here hx rfl (hb hby d2_18) rfl ?_
    show Steps p.tables e below (s₁.setTop (mkF m 19 #[.val (.long q1), .second, .val (.int p2), .val (.int ((p2 >>> ((2 : Int32) &&& 31)) &&& (3 : Int32)))] [(.long (q1 &&& (15 : Int64))), (.long (-9223372036854775808 : Int64))])) _
    refine XS.ladd X0.here hx rfl (hb hby d2_19) rfl ?_
    show Steps p.tables e below (s₁.setTop (mkF m 20 #[.val (.long q1), .second, .val (.int p2), .val (.int ((p2 >>> ((2 : Int32) &&& 31)) &&& (3 : Int32)))] [(.long ((-9223372036854775808 : Int64) + (q1 &&& (15 : Int64))))])) _
    exact retOut X0 hx (t := .long) (i := .lreturn) Bd.returns rfl (Or.inr (Or.inl ⟨rfl, rfl, _, rfl⟩)) (hb hby d2_20) hr
  · show Q_pickTime Z q1 p2 h0 n0 _ s₁.heap _
    rw [e0]
    exact ⟨by rw [hret], N0, rfl⟩
set_option maxRecDepth 65536 in
set_option maxHeartbeats 40000000 in
theorem rm_pickTime_tf (l : Launch) (Z : State) (a0 : Array Value) (hw : ∀ d ∈ tables_1, d.before a0 Z = true) (ws : List Jvm.Cond) (q1 : Int64) (p2 : Int32) (h0 : Heap) (n0 : Nat) (Z0 : n0 ≤ h0.size) (hc0 : ¬ (((p2 >>> ((2 : Int32) &&& 31)) &&& (3 : Int32)) = (2 : Int32))) (hc1 : ((p2 >>> ((2 : Int32) &&& 31)) &&& (3 : Int32)) = (3 : Int32)) (hret : (f_pickTime q1 p2) = ((9223372036854775807 : Int64) - (q1 &&& (15 : Int64)))) :
    MetFree l (⟨"org/everroll/InstantsIntoStepPinLaw", "pickTime", "(JI)J"⟩ : MethodName) (head1 (Jvm.Cond.code (⟨"org/everroll/InstantsIntoStepPinLaw", "pickTime", "(JI)J"⟩ : MethodName) method_3_code 4 (some .long) :: ws) ({ frames := 0, cells := 0, slots := 0, locals := 0 } : Room)) (fun a U => a = #[(.long q1), (.int p2)] ∧ Z.Warmed39 U.vm ∧ U.heap = h0) (fun _ _ _ _ _ => True) (fun _ U o U' => ∃ v L, o = .returned v ∧ Q_pickTime Z q1 p2 h0 n0 v U'.heap L ∧ FrameEnd U o U' L ({ frames := 0, cells := 0, slots := 0, locals := 0 } : Room).cells ({ frames := 0, cells := 0, slots := 0, locals := 0 } : Room).slots) := by
  refine MetFree.of_bodySF (plainFor_of_name pn_org_everroll_InstantsIntoStepPinLaw) hisR ?_
  intro p e s m args below meth c s₁ Bd hml0 hP hK
  obtain ⟨rfl, hZ, hh⟩ := hP
  have hx := Bd.exec
  have hby := Bd.bytes
  have hml : c.maxLocals = 4 := hml0
  have hown : s.vm.findClass "org/everroll/InstantsIntoStepPinLaw" = some m.cls := findClass_of_methodNamed Bd.named
  have hnm := (name_of_methodNamed Bd.named Bd.method).1
  have X0 : Stand p l e ({ frames := 0, cells := 0, slots := 0, locals := 0 } : Room) s m #[(.long q1), (.int p2)] below meth c s₁ [] 0 0 := Stand.of_body Bd
  have e0 : s₁.heap = h0 := by rw [← hh, Bd.state]; rfl
  have N0 := Fr.nil n0
  have pre0 : ∀ t, Steps p.tables e below (s₁.setTop (mkF m 0 #[.val (.long q1), .second, .val (.int p2), .unset] [])) t → Steps p.tables e below (s₁.setTop (entryFrame m #[(.long q1), (.int p2)] 4)) t := fun t k => castTop (ef_2_JI m q1 p2) k
  obtain ⟨fs, hr, hrun, hended, hW, hsame⟩ := X0.leave (v := some (.long ((9223372036854775807 : Int64) - (q1 &&& (15 : Int64))))) (fun h => by rw [Bd.returns] at h; cases h) Bd.notSynchronized
  refine ⟨_, _, pre0 _ ?_, hrun, hended, _, _, rfl, ?_, ⟨_, rfl⟩, hW, hsame.mono (by decide) (by decide)⟩
  · show Steps p.tables e below (s₁.setTop (mkF m 0 #[.val (.long q1), .second, .val (.int p2), .unset] [])) _
    refine XS.iloadN X0.here hx rfl (hb hby d2_0) rfl ?_
    show Steps p.tables e below (s₁.setTop (mkF m 1 #[.val (.long q1), .second, .val (.int p2), .unset] [(.int p2)])) _
    refine XS.iconst X0.here hx rfl (hb hby d2_1) ?_
    show Steps p.tables e below (s₁.setTop (mkF m 2 #[.val (.long q1), .second, .val (.int p2), .unset] [(.int (2 : Int32)), (.int p2)])) _
    refine XS.ishr X0.here hx rfl (hb hby d2_2) rfl ?_
    show Steps p.tables e below (s₁.setTop (mkF m 3 #[.val (.long q1), .second, .val (.int p2), .unset] [(.int (p2 >>> ((2 : Int32) &&& 31)))])) _
    refine XS.iconst X0.here hx rfl (hb hby d2_3) ?_
    show Steps p.tables e below (s₁.setTop (mkF m 4 #[.val (.long q1), .second, .val (.int p2), .unset] [(.int (3 : Int32)), (.int (p2 >>> ((2 : Int32) &&& 31)))])) _
    refine XS.iand X0.here hx rfl (hb hby d2_4) rfl ?_
    show Steps p.tables e below (s₁.setTop (mkF m 5 #[.val (.long q1), .second, .val (.int p2), .unset] [(.int ((p2 >>> ((2 : Int32) &&& 31)) &&& (3 : Int32)))])) _
    refine XS.istoreN X0.here hx rfl (hb hby d2_5) rfl (l' := #[.val (.long q1), .second, .val (.int p2), .val (.int ((p2 >>> ((2 : Int32) &&& 31)) &&& (3 : Int32)))]) rfl ?_
    show Steps p.tables e below (s₁.setTop (mkF m 6 #[.val (.long q1), .second, .val (.int p2), .val (.int ((p2 >>> ((2 : Int32) &&& 31)) &&& (3 : Int32)))] [])) _
    refine XS.iloadN X0.here hx rfl (hb hby d2_6) rfl ?_
    show Steps p.tables e below (s₁.setTop (mkF m 7 #[.val (.long q1), .second, .val (.int p2), .val (.int ((p2 >>> ((2 : Int32) &&& 31)) &&& (3 : Int32)))] [(.int ((p2 >>> ((2 : Int32) &&& 31)) &&& (3 : Int32)))])) _
    refine XS.iconst X0.here hx rfl (hb hby d2_7) ?_
    show Steps p.tables e below (s₁.setTop (mkF m 8 #[.val (.long q1), .second, .val (.int p2), .val (.int ((p2 >>> ((2 : Int32) &&& 31)) &&& (3 : Int32)))] [(.int (2 : Int32)), (.int ((p2 >>> ((2 : Int32) &&& 31)) &&& (3 : Int32)))])) _
    refine XS.icmpYes X0.here hx rfl (pc0 := 8) (pc' := 21) rfl (hb hby d2_8) rfl (feq hc0).2 (by decide) (by decide) ?_
    show Steps p.tables e below (s₁.setTop (mkF m 21 #[.val (.long q1), .second, .val (.int p2), .val (.int ((p2 >>> ((2 : Int32) &&& 31)) &&& (3 : Int32)))] [])) _
    refine XS.iloadN X0.here hx rfl (hb hby d2_21) rfl ?_
    show Steps p.tables e below (s₁.setTop (mkF m 22 #[.val (.long q1), .second, .val (.int p2), .val (.int ((p2 >>> ((2 : Int32) &&& 31)) &&& (3 : Int32)))] [(.int ((p2 >>> ((2 : Int32) &&& 31)) &&& (3 : Int32)))])) _
    refine XS.iconst X0.here hx rfl (hb hby d2_22) ?_
    show Steps p.tables e below (s₁.setTop (mkF m 23 #[.val (.long q1), .second, .val (.int p2), .val (.int ((p2 >>> ((2 : Int32) &&& 31)) &&& (3 : Int32)))] [(.int (3 : Int32)), (.int ((p2 >>> ((2 : Int32) &&& 31)) &&& (3 : Int32)))])) _
    refine XS.icmpNo X0.here hx rfl (hb hby d2_23) rfl (teq hc1).2 ?_
    show Steps p.tables e below (s₁.setTop (mkF m 26 #[.val (.long q1), .second, .val (.int p2), .val (.int ((p2 >>> ((2 : Int32) &&& 31)) &&& (3 : Int32)))] [])) _
    refine X0.ldc2Long hx hown (mvT hZ (hw _ (List.mem_of_getElem? (i := 4) rfl))) (g := (mkF m 26 #[.val (.long q1), .second, .val (.int p2), .val (.int ((p2 >>> ((2 : Int32) &&& 31)) &&& (3 : Int32)))] [])) rfl (hb hby d2_26) _ ?_
    show Steps p.tables e below (s₁.setTop (mkF m 29 #[.val (.long q1), .second, .val (.int p2), .val (.int ((p2 >>> ((2 : Int32) &&& 31)) &&& (3 : Int32)))] [(.long (9223372036854775807 : Int64))])) _
    refine XS.lloadN X0.here hx rfl (hb hby d2_29) rfl ?_
    show Steps p.tables e below (s₁.setTop (mkF m 30 #[.val (.long q1), .second, .val (.int p2), .val (.int ((p2 >>> ((2 : Int32) &&& 31)) &&& (3 : Int32)))] [(.long q1), (.long (9223372036854775807 : Int64))])) _
    refine X0.ldc2Long hx hown (mvT hZ (hw _ (List.mem_of_getElem? (i := 16) rfl))) (g := (mkF m 30 #[.val (.long q1), .second, .val (.int p2), .val (.int ((p2 >>> ((2 : Int32) &&& 31)) &&& (3 : Int32)))] [(.long q1), (.long (9223372036854775807 : Int64))])) rfl (hb hby d2_30) _ ?_
    show Steps p.tables e below (s₁.setTop (mkF m 33 #[.val (.long q1), .second, .val (.int p2), .val (.int ((p2 >>> ((2 : Int32) &&& 31)) &&& (3 : Int32)))] [(.long (15 : Int64)), (.long q1), (.long (9223372036854775807 : Int64))])) _
    refine XS.land X0.here hx rfl (hb hby d2_33) rfl ?_
    show Steps p.tables e below (s₁.setTop (mkF m 34 #[.val (.long q1), .second, .val (.int p2), .val (.int ((p2 >>> ((2 : Int32) &&& 31)) &&& (3 : Int32)))] [(.long (q1 &&& (15 : Int64))), (.long (9223372036854775807 : Int64))])) _
    refine XS.lsub X0.here hx rfl (hb hby d2_34) rfl ?_
    show Steps p.tables e below (s₁.setTop (mkF m 35 #[.val (.long q1), .second, .val (.int p2), .val (.int ((p2 >>> ((2 : Int32) &&& 31)) &&& (3 : Int32)))] [(.long ((9223372036854775807 : Int64) - (q1 &&& (15 : Int64))))])) _
    exact retOut X0 hx (t := .long) (i := .lreturn) Bd.returns rfl (Or.inr (Or.inl ⟨rfl, rfl, _, rfl⟩)) (hb hby d2_35) hr
  · show Q_pickTime Z q1 p2 h0 n0 _ s₁.heap _
    rw [e0]
    exact ⟨by rw [hret], N0, rfl⟩
set_option maxRecDepth 65536 in
set_option maxHeartbeats 40000000 in
theorem rm_pickTime_tt (l : Launch) (Z : State) (a0 : Array Value) (hw : ∀ d ∈ tables_1, d.before a0 Z = true) (ws : List Jvm.Cond) (q1 : Int64) (p2 : Int32) (h0 : Heap) (n0 : Nat) (Z0 : n0 ≤ h0.size) (hc0 : ¬ (((p2 >>> ((2 : Int32) &&& 31)) &&& (3 : Int32)) = (2 : Int32))) (hc1 : ¬ (((p2 >>> ((2 : Int32) &&& 31)) &&& (3 : Int32)) = (3 : Int32))) (hret : (f_pickTime q1 p2) = q1) :
    MetFree l (⟨"org/everroll/InstantsIntoStepPinLaw", "pickTime", "(JI)J"⟩ : MethodName) (head1 (Jvm.Cond.code (⟨"org/everroll/InstantsIntoStepPinLaw", "pickTime", "(JI)J"⟩ : MethodName) method_3_code 4 (some .long) :: ws) ({ frames := 0, cells := 0, slots := 0, locals := 0 } : Room)) (fun a U => a = #[(.long q1), (.int p2)] ∧ Z.Warmed39 U.vm ∧ U.heap = h0) (fun _ _ _ _ _ => True) (fun _ U o U' => ∃ v L, o = .returned v ∧ Q_pickTime Z q1 p2 h0 n0 v U'.heap L ∧ FrameEnd U o U' L ({ frames := 0, cells := 0, slots := 0, locals := 0 } : Room).cells ({ frames := 0, cells := 0, slots := 0, locals := 0 } : Room).slots) := by
  refine MetFree.of_bodySF (plainFor_of_name pn_org_everroll_InstantsIntoStepPinLaw) hisR ?_
  intro p e s m args below meth c s₁ Bd hml0 hP hK
  obtain ⟨rfl, hZ, hh⟩ := hP
  have hx := Bd.exec
  have hby := Bd.bytes
  have hml : c.maxLocals = 4 := hml0
  have hown : s.vm.findClass "org/everroll/InstantsIntoStepPinLaw" = some m.cls := findClass_of_methodNamed Bd.named
  have hnm := (name_of_methodNamed Bd.named Bd.method).1
  have X0 : Stand p l e ({ frames := 0, cells := 0, slots := 0, locals := 0 } : Room) s m #[(.long q1), (.int p2)] below meth c s₁ [] 0 0 := Stand.of_body Bd
  have e0 : s₁.heap = h0 := by rw [← hh, Bd.state]; rfl
  have N0 := Fr.nil n0
  have pre0 : ∀ t, Steps p.tables e below (s₁.setTop (mkF m 0 #[.val (.long q1), .second, .val (.int p2), .unset] [])) t → Steps p.tables e below (s₁.setTop (entryFrame m #[(.long q1), (.int p2)] 4)) t := fun t k => castTop (ef_2_JI m q1 p2) k
  obtain ⟨fs, hr, hrun, hended, hW, hsame⟩ := X0.leave (v := some (.long q1)) (fun h => by rw [Bd.returns] at h; cases h) Bd.notSynchronized
  refine ⟨_, _, pre0 _ ?_, hrun, hended, _, _, rfl, ?_, ⟨_, rfl⟩, hW, hsame.mono (by decide) (by decide)⟩
  · show Steps p.tables e below (s₁.setTop (mkF m 0 #[.val (.long q1), .second, .val (.int p2), .unset] [])) _
    refine XS.iloadN X0.here hx rfl (hb hby d2_0) rfl ?_
    show Steps p.tables e below (s₁.setTop (mkF m 1 #[.val (.long q1), .second, .val (.int p2), .unset] [(.int p2)])) _
    refine XS.iconst X0.here hx rfl (hb hby d2_1) ?_
    show Steps p.tables e below (s₁.setTop (mkF m 2 #[.val (.long q1), .second, .val (.int p2), .unset] [(.int (2 : Int32)), (.int p2)])) _
    refine XS.ishr X0.here hx rfl (hb hby d2_2) rfl ?_
    show Steps p.tables e below (s₁.setTop (mkF m 3 #[.val (.long q1), .second, .val (.int p2), .unset] [(.int (p2 >>> ((2 : Int32) &&& 31)))])) _
    refine XS.iconst X0.here hx rfl (hb hby d2_3) ?_
    show Steps p.tables e below (s₁.setTop (mkF m 4 #[.val (.long q1), .second, .val (.int p2), .unset] [(.int (3 : Int32)), (.int (p2 >>> ((2 : Int32) &&& 31)))])) _
    refine XS.iand X0.here hx rfl (hb hby d2_4) rfl ?_
    show Steps p.tables e below (s₁.setTop (mkF m 5 #[.val (.long q1), .second, .val (.int p2), .unset] [(.int ((p2 >>> ((2 : Int32) &&& 31)) &&& (3 : Int32)))])) _
    refine XS.istoreN X0.here hx rfl (hb hby d2_5) rfl (l' := #[.val (.long q1), .second, .val (.int p2), .val (.int ((p2 >>> ((2 : Int32) &&& 31)) &&& (3 : Int32)))]) rfl ?_
    show Steps p.tables e below (s₁.setTop (mkF m 6 #[.val (.long q1), .second, .val (.int p2), .val (.int ((p2 >>> ((2 : Int32) &&& 31)) &&& (3 : Int32)))] [])) _
    refine XS.iloadN X0.here hx rfl (hb hby d2_6) rfl ?_
    show Steps p.tables e below (s₁.setTop (mkF m 7 #[.val (.long q1), .second, .val (.int p2), .val (.int ((p2 >>> ((2 : Int32) &&& 31)) &&& (3 : Int32)))] [(.int ((p2 >>> ((2 : Int32) &&& 31)) &&& (3 : Int32)))])) _
    refine XS.iconst X0.here hx rfl (hb hby d2_7) ?_
    show Steps p.tables e below (s₁.setTop (mkF m 8 #[.val (.long q1), .second, .val (.int p2), .val (.int ((p2 >>> ((2 : Int32) &&& 31)) &&& (3 : Int32)))] [(.int (2 : Int32)), (.int ((p2 >>> ((2 : Int32) &&& 31)) &&& (3 : Int32)))])) _
    refine XS.icmpYes X0.here hx rfl (pc0 := 8) (pc' := 21) rfl (hb hby d2_8) rfl (feq hc0).2 (by decide) (by decide) ?_
    show Steps p.tables e below (s₁.setTop (mkF m 21 #[.val (.long q1), .second, .val (.int p2), .val (.int ((p2 >>> ((2 : Int32) &&& 31)) &&& (3 : Int32)))] [])) _
    refine XS.iloadN X0.here hx rfl (hb hby d2_21) rfl ?_
    show Steps p.tables e below (s₁.setTop (mkF m 22 #[.val (.long q1), .second, .val (.int p2), .val (.int ((p2 >>> ((2 : Int32) &&& 31)) &&& (3 : Int32)))] [(.int ((p2 >>> ((2 : Int32) &&& 31)) &&& (3 : Int32)))])) _
    refine XS.iconst X0.here hx rfl (hb hby d2_22) ?_
    show Steps p.tables e below (s₁.setTop (mkF m 23 #[.val (.long q1), .second, .val (.int p2), .val (.int ((p2 >>> ((2 : Int32) &&& 31)) &&& (3 : Int32)))] [(.int (3 : Int32)), (.int ((p2 >>> ((2 : Int32) &&& 31)) &&& (3 : Int32)))])) _
    refine XS.icmpYes X0.here hx rfl (pc0 := 23) (pc' := 36) rfl (hb hby d2_23) rfl (feq hc1).2 (by decide) (by decide) ?_
    show Steps p.tables e below (s₁.setTop (mkF m 36 #[.val (.long q1), .second, .val (.int p2), .val (.int ((p2 >>> ((2 : Int32) &&& 31)) &&& (3 : Int32)))] [])) _
    refine XS.lloadN X0.here hx rfl (hb hby d2_36) rfl ?_
    show Steps p.tables e below (s₁.setTop (mkF m 37 #[.val (.long q1), .second, .val (.int p2), .val (.int ((p2 >>> ((2 : Int32) &&& 31)) &&& (3 : Int32)))] [(.long q1)])) _
    exact retOut X0 hx (t := .long) (i := .lreturn) Bd.returns rfl (Or.inr (Or.inl ⟨rfl, rfl, _, rfl⟩)) (hb hby d2_37) hr
  · show Q_pickTime Z q1 p2 h0 n0 _ s₁.heap _
    rw [e0]
    exact ⟨by rw [hret], N0, rfl⟩
set_option maxRecDepth 65536 in
set_option maxHeartbeats 40000000 in
theorem rm_pickTime (l : Launch) (Z : State) (a0 : Array Value) (hw : ∀ d ∈ tables_1, d.before a0 Z = true) (ws : List Jvm.Cond) (q1 : Int64) (p2 : Int32) (h0 : Heap) (n0 : Nat) (Z0 : n0 ≤ h0.size) :
    MetFree l (⟨"org/everroll/InstantsIntoStepPinLaw", "pickTime", "(JI)J"⟩ : MethodName) (head1 (Jvm.Cond.code (⟨"org/everroll/InstantsIntoStepPinLaw", "pickTime", "(JI)J"⟩ : MethodName) method_3_code 4 (some .long) :: ws) ({ frames := 0, cells := 0, slots := 0, locals := 0 } : Room)) (fun a U => a = #[(.long q1), (.int p2)] ∧ Z.Warmed39 U.vm ∧ U.heap = h0) (fun _ _ _ _ _ => True) (fun _ U o U' => ∃ v L, o = .returned v ∧ Q_pickTime Z q1 p2 h0 n0 v U'.heap L ∧ FrameEnd U o U' L ({ frames := 0, cells := 0, slots := 0, locals := 0 } : Room).cells ({ frames := 0, cells := 0, slots := 0, locals := 0 } : Room).slots) := by
  by_cases c0 : ((p2 >>> ((2 : Int32) &&& 31)) &&& (3 : Int32)) = (2 : Int32)
  · skip
    exact rm_pickTime_f l Z a0 hw ws q1 p2 h0 n0 Z0  c0 (by unfold f_pickTime; rw [if_pos c0])
  · skip
    by_cases c1 : ((p2 >>> ((2 : Int32) &&& 31)) &&& (3 : Int32)) = (3 : Int32)
    · skip
      exact rm_pickTime_tf l Z a0 hw ws q1 p2 h0 n0 Z0  c0 c1 (by unfold f_pickTime; rw [if_neg c0]; rw [if_pos c1])
    · skip
      exact rm_pickTime_tt l Z a0 hw ws q1 p2 h0 n0 Z0  c0 c1 (by unfold f_pickTime; rw [if_neg c0]; rw [if_neg c1])
theorem d4_0 : decode jdk_29_method_52_code 0 = .ok (.lload_n 0, 1) := by decide +kernel
theorem d4_1 : decode jdk_29_method_52_code 1 = .ok (.lload_n 2, 1) := by decide +kernel
theorem d4_2 : decode jdk_29_method_52_code 2 = .ok (.lrem, 1) := by decide +kernel
theorem d4_3 : decode jdk_29_method_52_code 3 = .ok (.lstore 4, 2) := by decide +kernel
theorem d4_5 : decode jdk_29_method_52_code 5 = .ok (.lload_n 0, 1) := by decide +kernel
theorem d4_6 : decode jdk_29_method_52_code 6 = .ok (.lload_n 2, 1) := by decide +kernel
theorem d4_7 : decode jdk_29_method_52_code 7 = .ok (.lxor, 1) := by decide +kernel
theorem d4_8 : decode jdk_29_method_52_code 8 = .ok (.lconst 0, 1) := by decide +kernel
theorem d4_9 : decode jdk_29_method_52_code 9 = .ok (.lcmp, 1) := by decide +kernel
theorem d4_10 : decode jdk_29_method_52_code 10 = .ok (.ifCond .ge 15, 3) := by decide +kernel
theorem d4_25 : decode jdk_29_method_52_code 25 = .ok (.lload 4, 2) := by decide +kernel
theorem d4_27 : decode jdk_29_method_52_code 27 = .ok (.lreturn, 1) := by decide +kernel
theorem d4_13 : decode jdk_29_method_52_code 13 = .ok (.lload 4, 2) := by decide +kernel
theorem d4_15 : decode jdk_29_method_52_code 15 = .ok (.lconst 0, 1) := by decide +kernel
theorem d4_16 : decode jdk_29_method_52_code 16 = .ok (.lcmp, 1) := by decide +kernel
theorem d4_17 : decode jdk_29_method_52_code 17 = .ok (.ifCond .eq 8, 3) := by decide +kernel
theorem d4_20 : decode jdk_29_method_52_code 20 = .ok (.lload 4, 2) := by decide +kernel
theorem d4_22 : decode jdk_29_method_52_code 22 = .ok (.lload_n 2, 1) := by decide +kernel
theorem d4_23 : decode jdk_29_method_52_code 23 = .ok (.ladd, 1) := by decide +kernel
theorem d4_24 : decode jdk_29_method_52_code 24 = .ok (.lreturn, 1) := by decide +kernel
theorem ef_4_JJ (m : MethodId) (x0 : Int64) (x1 : Int64) : entryFrame m #[(.long x0), (.long x1)] 6 = mkF m 0 #[.val (.long x0), .second, .val (.long x1), .second, .unset, .unset] [] := by first | (simp [entryFrame, mkF, argsToLocals, Value.category]; done) | rfl
def f_fmod (q1 : Int64) (q2 : Int64) : Int64 := (if (q1 ^^^ q2) < (0 : Int64) then (if (q1 % q2) = (0 : Int64) then (q1 % q2) else ((q1 % q2) + q2)) else (q1 % q2))
def Q_fmod (Z : State) (q1 : Int64) (q2 : Int64) (h0 : Heap) (n0 : Nat) (v : Option Value) (h : Heap) (L : List Loc) : Prop := v = some (.long (f_fmod q1 q2)) ∧ Fr n0 L ∧ h = h0
set_option maxRecDepth 65536 in
set_option maxHeartbeats 40000000 in
theorem rm_fmod_t (l : Launch) (Z : State) (a0 : Array Value) (hw : ∀ d ∈ tables_1, d.before a0 Z = true) (ws : List Jvm.Cond) (q1 : Int64) (q2 : Int64) (h0 : Heap) (n0 : Nat) (Z0 : n0 ≤ h0.size) (hnz0 : ¬ (q2 = (0 : Int64))) (hc0 : ¬ ((q1 ^^^ q2) < (0 : Int64))) (hret : (f_fmod q1 q2) = (q1 % q2)) :
    MetFree l (⟨"java/lang/Math", "floorMod", "(JJ)J"⟩ : MethodName) (head1 (Jvm.Cond.code (⟨"java/lang/Math", "floorMod", "(JJ)J"⟩ : MethodName) jdk_29_method_52_code 6 (some .long) :: ws) ({ frames := 0, cells := 0, slots := 0, locals := 0 } : Room)) (fun a U => a = #[(.long q1), (.long q2)] ∧ Z.Warmed39 U.vm ∧ U.heap = h0) (fun _ _ _ _ _ => True) (fun _ U o U' => ∃ v L, o = .returned v ∧ Q_fmod Z q1 q2 h0 n0 v U'.heap L ∧ FrameEnd U o U' L ({ frames := 0, cells := 0, slots := 0, locals := 0 } : Room).cells ({ frames := 0, cells := 0, slots := 0, locals := 0 } : Room).slots) := by
  refine MetFree.of_bodySF (Jvm.Free.JP.mathPlain rfl (by decide +kernel)) hisR ?_
  intro p e s m args below meth c s₁ Bd hml0 hP hK
  obtain ⟨rfl, hZ, hh⟩ := hP
  have hx := Bd.exec
  have hby := Bd.bytes
  have hml : c.maxLocals = 6 := hml0
  have hown : s.vm.findClass "java/lang/Math" = some m.cls := findClass_of_methodNamed Bd.named
  have hnm := (name_of_methodNamed Bd.named Bd.method).1
  have X0 : Stand p l e ({ frames := 0, cells := 0, slots := 0, locals := 0 } : Room) s m #[(.long q1), (.long q2)] below meth c s₁ [] 0 0 := Stand.of_body Bd
  have e0 : s₁.heap = h0 := by rw [← hh, Bd.state]; rfl
  have N0 := Fr.nil n0
  have pre0 : ∀ t, Steps p.tables e below (s₁.setTop (mkF m 0 #[.val (.long q1), .second, .val (.long q2), .second, .unset, .unset] [])) t → Steps p.tables e below (s₁.setTop (entryFrame m #[(.long q1), (.long q2)] 6)) t := fun t k => castTop (ef_4_JJ m q1 q2) k
  obtain ⟨fs, hr, hrun, hended, hW, hsame⟩ := X0.leave (v := some (.long (q1 % q2))) (fun h => by rw [Bd.returns] at h; cases h) Bd.notSynchronized
  refine ⟨_, _, pre0 _ ?_, hrun, hended, _, _, rfl, ?_, ⟨_, rfl⟩, hW, hsame.mono (by decide) (by decide)⟩
  · show Steps p.tables e below (s₁.setTop (mkF m 0 #[.val (.long q1), .second, .val (.long q2), .second, .unset, .unset] [])) _
    refine XS.lloadN X0.here hx rfl (hb hby d4_0) rfl ?_
    show Steps p.tables e below (s₁.setTop (mkF m 1 #[.val (.long q1), .second, .val (.long q2), .second, .unset, .unset] [(.long q1)])) _
    refine XS.lloadN X0.here hx rfl (hb hby d4_1) rfl ?_
    show Steps p.tables e below (s₁.setTop (mkF m 2 #[.val (.long q1), .second, .val (.long q2), .second, .unset, .unset] [(.long q2), (.long q1)])) _
    refine XS.lrem X0.here hx rfl (hb hby d4_2) rfl hnz0 ?_
    rw [lrem_mod]
    show Steps p.tables e below (s₁.setTop (mkF m 3 #[.val (.long q1), .second, .val (.long q2), .second, .unset, .unset] [(.long (q1 % q2))])) _
    refine XS.lstore X0.here hx rfl (hb hby d4_3) rfl (l' := #[.val (.long q1), .second, .val (.long q2), .second, .val (.long (q1 % q2)), .second]) rfl ?_
    show Steps p.tables e below (s₁.setTop (mkF m 5 #[.val (.long q1), .second, .val (.long q2), .second, .val (.long (q1 % q2)), .second] [])) _
    refine XS.lloadN X0.here hx rfl (hb hby d4_5) rfl ?_
    show Steps p.tables e below (s₁.setTop (mkF m 6 #[.val (.long q1), .second, .val (.long q2), .second, .val (.long (q1 % q2)), .second] [(.long q1)])) _
    refine XS.lloadN X0.here hx rfl (hb hby d4_6) rfl ?_
    show Steps p.tables e below (s₁.setTop (mkF m 7 #[.val (.long q1), .second, .val (.long q2), .second, .val (.long (q1 % q2)), .second] [(.long q2), (.long q1)])) _
    refine XS.lxor X0.here hx rfl (hb hby d4_7) rfl ?_
    show Steps p.tables e below (s₁.setTop (mkF m 8 #[.val (.long q1), .second, .val (.long q2), .second, .val (.long (q1 % q2)), .second] [(.long (q1 ^^^ q2))])) _
    refine XS.lconst X0.here hx rfl (hb hby d4_8) ?_
    show Steps p.tables e below (s₁.setTop (mkF m 9 #[.val (.long q1), .second, .val (.long q2), .second, .val (.long (q1 % q2)), .second] [(.long (0 : Int64)), (.long (q1 ^^^ q2))])) _
    refine XS.lcmp X0.here hx rfl (hb hby d4_9) rfl ?_
    show Steps p.tables e below (s₁.setTop (mkF m 10 #[.val (.long q1), .second, .val (.long q2), .second, .val (.long (q1 % q2)), .second] [(.int (lcmpW (q1 ^^^ q2) (0 : Int64)))])) _
    refine XS.ifYes X0.here hx rfl (pc0 := 10) (pc' := 25) rfl (hb hby d4_10) rfl ((if0 _ _).trans (flt (fun q => (hc0 : ¬ ((q1 ^^^ q2) < (0 : Int64))) ((lw_lt _ _).mp q))).2.1) (by decide) (by decide) ?_
    show Steps p.tables e below (s₁.setTop (mkF m 25 #[.val (.long q1), .second, .val (.long q2), .second, .val (.long (q1 % q2)), .second] [])) _
    refine XS.lload X0.here hx rfl (hb hby d4_25) rfl ?_
    show Steps p.tables e below (s₁.setTop (mkF m 27 #[.val (.long q1), .second, .val (.long q2), .second, .val (.long (q1 % q2)), .second] [(.long (q1 % q2))])) _
    exact retOut X0 hx (t := .long) (i := .lreturn) Bd.returns rfl (Or.inr (Or.inl ⟨rfl, rfl, _, rfl⟩)) (hb hby d4_27) hr
  · show Q_fmod Z q1 q2 h0 n0 _ s₁.heap _
    rw [e0]
    exact ⟨by rw [hret], N0, rfl⟩
set_option maxRecDepth 65536 in
set_option maxHeartbeats 40000000 in
theorem rm_fmod_ft (l : Launch) (Z : State) (a0 : Array Value) (hw : ∀ d ∈ tables_1, d.before a0 Z = true) (ws : List Jvm.Cond) (q1 : Int64) (q2 : Int64) (h0 : Heap) (n0 : Nat) (Z0 : n0 ≤ h0.size) (hnz0 : ¬ (q2 = (0 : Int64))) (hc0 : (q1 ^^^ q2) < (0 : Int64)) (hc1 : (q1 % q2) = (0 : Int64)) (hret : (f_fmod q1 q2) = (q1 % q2)) :
    MetFree l (⟨"java/lang/Math", "floorMod", "(JJ)J"⟩ : MethodName) (head1 (Jvm.Cond.code (⟨"java/lang/Math", "floorMod", "(JJ)J"⟩ : MethodName) jdk_29_method_52_code 6 (some .long) :: ws) ({ frames := 0, cells := 0, slots := 0, locals := 0 } : Room)) (fun a U => a = #[(.long q1), (.long q2)] ∧ Z.Warmed39 U.vm ∧ U.heap = h0) (fun _ _ _ _ _ => True) (fun _ U o U' => ∃ v L, o = .returned v ∧ Q_fmod Z q1 q2 h0 n0 v U'.heap L ∧ FrameEnd U o U' L ({ frames := 0, cells := 0, slots := 0, locals := 0 } : Room).cells ({ frames := 0, cells := 0, slots := 0, locals := 0 } : Room).slots) := by
  refine MetFree.of_bodySF (Jvm.Free.JP.mathPlain rfl (by decide +kernel)) hisR ?_
  intro p e s m args below meth c s₁ Bd hml0 hP hK
  obtain ⟨rfl, hZ, hh⟩ := hP
  have hx := Bd.exec
  have hby := Bd.bytes
  have hml : c.maxLocals = 6 := hml0
  have hown : s.vm.findClass "java/lang/Math" = some m.cls := findClass_of_methodNamed Bd.named
  have hnm := (name_of_methodNamed Bd.named Bd.method).1
  have X0 : Stand p l e ({ frames := 0, cells := 0, slots := 0, locals := 0 } : Room) s m #[(.long q1), (.long q2)] below meth c s₁ [] 0 0 := Stand.of_body Bd
  have e0 : s₁.heap = h0 := by rw [← hh, Bd.state]; rfl
  have N0 := Fr.nil n0
  have pre0 : ∀ t, Steps p.tables e below (s₁.setTop (mkF m 0 #[.val (.long q1), .second, .val (.long q2), .second, .unset, .unset] [])) t → Steps p.tables e below (s₁.setTop (entryFrame m #[(.long q1), (.long q2)] 6)) t := fun t k => castTop (ef_4_JJ m q1 q2) k
  obtain ⟨fs, hr, hrun, hended, hW, hsame⟩ := X0.leave (v := some (.long (q1 % q2))) (fun h => by rw [Bd.returns] at h; cases h) Bd.notSynchronized
  refine ⟨_, _, pre0 _ ?_, hrun, hended, _, _, rfl, ?_, ⟨_, rfl⟩, hW, hsame.mono (by decide) (by decide)⟩
  · show Steps p.tables e below (s₁.setTop (mkF m 0 #[.val (.long q1), .second, .val (.long q2), .second, .unset, .unset] [])) _
    refine XS.lloadN X0.here hx rfl (hb hby d4_0) rfl ?_
    show Steps p.tables e below (s₁.setTop (mkF m 1 #[.val (.long q1), .second, .val (.long q2), .second, .unset, .unset] [(.long q1)])) _
    refine XS.lloadN X0.here hx rfl (hb hby d4_1) rfl ?_
    show Steps p.tables e below (s₁.setTop (mkF m 2 #[.val (.long q1), .second, .val (.long q2), .second, .unset, .unset] [(.long q2), (.long q1)])) _
    refine XS.lrem X0.here hx rfl (hb hby d4_2) rfl hnz0 ?_
    rw [lrem_mod]
    show Steps p.tables e below (s₁.setTop (mkF m 3 #[.val (.long q1), .second, .val (.long q2), .second, .unset, .unset] [(.long (q1 % q2))])) _
    refine XS.lstore X0.here hx rfl (hb hby d4_3) rfl (l' := #[.val (.long q1), .second, .val (.long q2), .second, .val (.long (q1 % q2)), .second]) rfl ?_
    show Steps p.tables e below (s₁.setTop (mkF m 5 #[.val (.long q1), .second, .val (.long q2), .second, .val (.long (q1 % q2)), .second] [])) _
    refine XS.lloadN X0.here hx rfl (hb hby d4_5) rfl ?_
    show Steps p.tables e below (s₁.setTop (mkF m 6 #[.val (.long q1), .second, .val (.long q2), .second, .val (.long (q1 % q2)), .second] [(.long q1)])) _
    refine XS.lloadN X0.here hx rfl (hb hby d4_6) rfl ?_
    show Steps p.tables e below (s₁.setTop (mkF m 7 #[.val (.long q1), .second, .val (.long q2), .second, .val (.long (q1 % q2)), .second] [(.long q2), (.long q1)])) _
    refine XS.lxor X0.here hx rfl (hb hby d4_7) rfl ?_
    show Steps p.tables e below (s₁.setTop (mkF m 8 #[.val (.long q1), .second, .val (.long q2), .second, .val (.long (q1 % q2)), .second] [(.long (q1 ^^^ q2))])) _
    refine XS.lconst X0.here hx rfl (hb hby d4_8) ?_
    show Steps p.tables e below (s₁.setTop (mkF m 9 #[.val (.long q1), .second, .val (.long q2), .second, .val (.long (q1 % q2)), .second] [(.long (0 : Int64)), (.long (q1 ^^^ q2))])) _
    refine XS.lcmp X0.here hx rfl (hb hby d4_9) rfl ?_
    show Steps p.tables e below (s₁.setTop (mkF m 10 #[.val (.long q1), .second, .val (.long q2), .second, .val (.long (q1 % q2)), .second] [(.int (lcmpW (q1 ^^^ q2) (0 : Int64)))])) _
    refine XS.ifNo X0.here hx rfl (hb hby d4_10) rfl ((if0 _ _).trans (tlt ((lw_lt _ _).mpr (hc0 : (q1 ^^^ q2) < (0 : Int64)))).2.1) ?_
    show Steps p.tables e below (s₁.setTop (mkF m 13 #[.val (.long q1), .second, .val (.long q2), .second, .val (.long (q1 % q2)), .second] [])) _
    refine XS.lload X0.here hx rfl (hb hby d4_13) rfl ?_
    show Steps p.tables e below (s₁.setTop (mkF m 15 #[.val (.long q1), .second, .val (.long q2), .second, .val (.long (q1 % q2)), .second] [(.long (q1 % q2))])) _
    refine XS.lconst X0.here hx rfl (hb hby d4_15) ?_
    show Steps p.tables e below (s₁.setTop (mkF m 16 #[.val (.long q1), .second, .val (.long q2), .second, .val (.long (q1 % q2)), .second] [(.long (0 : Int64)), (.long (q1 % q2))])) _
    refine XS.lcmp X0.here hx rfl (hb hby d4_16) rfl ?_
    show Steps p.tables e below (s₁.setTop (mkF m 17 #[.val (.long q1), .second, .val (.long q2), .second, .val (.long (q1 % q2)), .second] [(.int (lcmpW (q1 % q2) (0 : Int64)))])) _
    refine XS.ifYes X0.here hx rfl (pc0 := 17) (pc' := 25) rfl (hb hby d4_17) rfl ((if0 _ _).trans (teq ((lw_eq _ _).mpr (hc1 : (q1 % q2) = (0 : Int64)))).1) (by decide) (by decide) ?_
    show Steps p.tables e below (s₁.setTop (mkF m 25 #[.val (.long q1), .second, .val (.long q2), .second, .val (.long (q1 % q2)), .second] [])) _
    refine XS.lload X0.here hx rfl (hb hby d4_25) rfl ?_
    show Steps p.tables e below (s₁.setTop (mkF m 27 #[.val (.long q1), .second, .val (.long q2), .second, .val (.long (q1 % q2)), .second] [(.long (q1 % q2))])) _
    exact retOut X0 hx (t := .long) (i := .lreturn) Bd.returns rfl (Or.inr (Or.inl ⟨rfl, rfl, _, rfl⟩)) (hb hby d4_27) hr
  · show Q_fmod Z q1 q2 h0 n0 _ s₁.heap _
    rw [e0]
    exact ⟨by rw [hret], N0, rfl⟩
set_option maxRecDepth 65536 in
set_option maxHeartbeats 40000000 in
theorem rm_fmod_ff (l : Launch) (Z : State) (a0 : Array Value) (hw : ∀ d ∈ tables_1, d.before a0 Z = true) (ws : List Jvm.Cond) (q1 : Int64) (q2 : Int64) (h0 : Heap) (n0 : Nat) (Z0 : n0 ≤ h0.size) (hnz0 : ¬ (q2 = (0 : Int64))) (hc0 : (q1 ^^^ q2) < (0 : Int64)) (hc1 : ¬ ((q1 % q2) = (0 : Int64))) (hret : (f_fmod q1 q2) = ((q1 % q2) + q2)) :
    MetFree l (⟨"java/lang/Math", "floorMod", "(JJ)J"⟩ : MethodName) (head1 (Jvm.Cond.code (⟨"java/lang/Math", "floorMod", "(JJ)J"⟩ : MethodName) jdk_29_method_52_code 6 (some .long) :: ws) ({ frames := 0, cells := 0, slots := 0, locals := 0 } : Room)) (fun a U => a = #[(.long q1), (.long q2)] ∧ Z.Warmed39 U.vm ∧ U.heap = h0) (fun _ _ _ _ _ => True) (fun _ U o U' => ∃ v L, o = .returned v ∧ Q_fmod Z q1 q2 h0 n0 v U'.heap L ∧ FrameEnd U o U' L ({ frames := 0, cells := 0, slots := 0, locals := 0 } : Room).cells ({ frames := 0, cells := 0, slots := 0, locals := 0 } : Room).slots) := by
  refine MetFree.of_bodySF (Jvm.Free.JP.mathPlain rfl (by decide +kernel)) hisR ?_
  intro p e s m args below meth c s₁ Bd hml0 hP hK
  obtain ⟨rfl, hZ, hh⟩ := hP
  have hx := Bd.exec
  have hby := Bd.bytes
  have hml : c.maxLocals = 6 := hml0
  have hown : s.vm.findClass "java/lang/Math" = some m.cls := findClass_of_methodNamed Bd.named
  have hnm := (name_of_methodNamed Bd.named Bd.method).1
  have X0 : Stand p l e ({ frames := 0, cells := 0, slots := 0, locals := 0 } : Room) s m #[(.long q1), (.long q2)] below meth c s₁ [] 0 0 := Stand.of_body Bd
  have e0 : s₁.heap = h0 := by rw [← hh, Bd.state]; rfl
  have N0 := Fr.nil n0
  have pre0 : ∀ t, Steps p.tables e below (s₁.setTop (mkF m 0 #[.val (.long q1), .second, .val (.long q2), .second, .unset, .unset] [])) t → Steps p.tables e below (s₁.setTop (entryFrame m #[(.long q1), (.long q2)] 6)) t := fun t k => castTop (ef_4_JJ m q1 q2) k
  obtain ⟨fs, hr, hrun, hended, hW, hsame⟩ := X0.leave (v := some (.long ((q1 % q2) + q2))) (fun h => by rw [Bd.returns] at h; cases h) Bd.notSynchronized
  refine ⟨_, _, pre0 _ ?_, hrun, hended, _, _, rfl, ?_, ⟨_, rfl⟩, hW, hsame.mono (by decide) (by decide)⟩
  · show Steps p.tables e below (s₁.setTop (mkF m 0 #[.val (.long q1), .second, .val (.long q2), .second, .unset, .unset] [])) _
    refine XS.lloadN X0.here hx rfl (hb hby d4_0) rfl ?_
    show Steps p.tables e below (s₁.setTop (mkF m 1 #[.val (.long q1), .second, .val (.long q2), .second, .unset, .unset] [(.long q1)])) _
    refine XS.lloadN X0.here hx rfl (hb hby d4_1) rfl ?_
    show Steps p.tables e below (s₁.setTop (mkF m 2 #[.val (.long q1), .second, .val (.long q2), .second, .unset, .unset] [(.long q2), (.long q1)])) _
    refine XS.lrem X0.here hx rfl (hb hby d4_2) rfl hnz0 ?_
    rw [lrem_mod]
    show Steps p.tables e below (s₁.setTop (mkF m 3 #[.val (.long q1), .second, .val (.long q2), .second, .unset, .unset] [(.long (q1 % q2))])) _
    refine XS.lstore X0.here hx rfl (hb hby d4_3) rfl (l' := #[.val (.long q1), .second, .val (.long q2), .second, .val (.long (q1 % q2)), .second]) rfl ?_
    show Steps p.tables e below (s₁.setTop (mkF m 5 #[.val (.long q1), .second, .val (.long q2), .second, .val (.long (q1 % q2)), .second] [])) _
    refine XS.lloadN X0.here hx rfl (hb hby d4_5) rfl ?_
    show Steps p.tables e below (s₁.setTop (mkF m 6 #[.val (.long q1), .second, .val (.long q2), .second, .val (.long (q1 % q2)), .second] [(.long q1)])) _
    refine XS.lloadN X0.here hx rfl (hb hby d4_6) rfl ?_
    show Steps p.tables e below (s₁.setTop (mkF m 7 #[.val (.long q1), .second, .val (.long q2), .second, .val (.long (q1 % q2)), .second] [(.long q2), (.long q1)])) _
    refine XS.lxor X0.here hx rfl (hb hby d4_7) rfl ?_
    show Steps p.tables e below (s₁.setTop (mkF m 8 #[.val (.long q1), .second, .val (.long q2), .second, .val (.long (q1 % q2)), .second] [(.long (q1 ^^^ q2))])) _
    refine XS.lconst X0.here hx rfl (hb hby d4_8) ?_
    show Steps p.tables e below (s₁.setTop (mkF m 9 #[.val (.long q1), .second, .val (.long q2), .second, .val (.long (q1 % q2)), .second] [(.long (0 : Int64)), (.long (q1 ^^^ q2))])) _
    refine XS.lcmp X0.here hx rfl (hb hby d4_9) rfl ?_
    show Steps p.tables e below (s₁.setTop (mkF m 10 #[.val (.long q1), .second, .val (.long q2), .second, .val (.long (q1 % q2)), .second] [(.int (lcmpW (q1 ^^^ q2) (0 : Int64)))])) _
    refine XS.ifNo X0.here hx rfl (hb hby d4_10) rfl ((if0 _ _).trans (tlt ((lw_lt _ _).mpr (hc0 : (q1 ^^^ q2) < (0 : Int64)))).2.1) ?_
    show Steps p.tables e below (s₁.setTop (mkF m 13 #[.val (.long q1), .second, .val (.long q2), .second, .val (.long (q1 % q2)), .second] [])) _
    refine XS.lload X0.here hx rfl (hb hby d4_13) rfl ?_
    show Steps p.tables e below (s₁.setTop (mkF m 15 #[.val (.long q1), .second, .val (.long q2), .second, .val (.long (q1 % q2)), .second] [(.long (q1 % q2))])) _
    refine XS.lconst X0.here hx rfl (hb hby d4_15) ?_
    show Steps p.tables e below (s₁.setTop (mkF m 16 #[.val (.long q1), .second, .val (.long q2), .second, .val (.long (q1 % q2)), .second] [(.long (0 : Int64)), (.long (q1 % q2))])) _
    refine XS.lcmp X0.here hx rfl (hb hby d4_16) rfl ?_
    show Steps p.tables e below (s₁.setTop (mkF m 17 #[.val (.long q1), .second, .val (.long q2), .second, .val (.long (q1 % q2)), .second] [(.int (lcmpW (q1 % q2) (0 : Int64)))])) _
    refine XS.ifNo X0.here hx rfl (hb hby d4_17) rfl ((if0 _ _).trans (feq (fun q => (hc1 : ¬ ((q1 % q2) = (0 : Int64))) ((lw_eq _ _).mp q))).1) ?_
    show Steps p.tables e below (s₁.setTop (mkF m 20 #[.val (.long q1), .second, .val (.long q2), .second, .val (.long (q1 % q2)), .second] [])) _
    refine XS.lload X0.here hx rfl (hb hby d4_20) rfl ?_
    show Steps p.tables e below (s₁.setTop (mkF m 22 #[.val (.long q1), .second, .val (.long q2), .second, .val (.long (q1 % q2)), .second] [(.long (q1 % q2))])) _
    refine XS.lloadN X0.here hx rfl (hb hby d4_22) rfl ?_
    show Steps p.tables e below (s₁.setTop (mkF m 23 #[.val (.long q1), .second, .val (.long q2), .second, .val (.long (q1 % q2)), .second] [(.long q2), (.long (q1 % q2))])) _
    refine XS.ladd X0.here hx rfl (hb hby d4_23) rfl ?_
    show Steps p.tables e below (s₁.setTop (mkF m 24 #[.val (.long q1), .second, .val (.long q2), .second, .val (.long (q1 % q2)), .second] [(.long ((q1 % q2) + q2))])) _
    exact retOut X0 hx (t := .long) (i := .lreturn) Bd.returns rfl (Or.inr (Or.inl ⟨rfl, rfl, _, rfl⟩)) (hb hby d4_24) hr
  · show Q_fmod Z q1 q2 h0 n0 _ s₁.heap _
    rw [e0]
    exact ⟨by rw [hret], N0, rfl⟩
set_option maxRecDepth 65536 in
set_option maxHeartbeats 40000000 in
theorem rm_fmod (l : Launch) (Z : State) (a0 : Array Value) (hw : ∀ d ∈ tables_1, d.before a0 Z = true) (ws : List Jvm.Cond) (q1 : Int64) (q2 : Int64) (h0 : Heap) (n0 : Nat) (Z0 : n0 ≤ h0.size) (hnz0 : ¬ (q2 = (0 : Int64))) :
    MetFree l (⟨"java/lang/Math", "floorMod", "(JJ)J"⟩ : MethodName) (head1 (Jvm.Cond.code (⟨"java/lang/Math", "floorMod", "(JJ)J"⟩ : MethodName) jdk_29_method_52_code 6 (some .long) :: ws) ({ frames := 0, cells := 0, slots := 0, locals := 0 } : Room)) (fun a U => a = #[(.long q1), (.long q2)] ∧ Z.Warmed39 U.vm ∧ U.heap = h0) (fun _ _ _ _ _ => True) (fun _ U o U' => ∃ v L, o = .returned v ∧ Q_fmod Z q1 q2 h0 n0 v U'.heap L ∧ FrameEnd U o U' L ({ frames := 0, cells := 0, slots := 0, locals := 0 } : Room).cells ({ frames := 0, cells := 0, slots := 0, locals := 0 } : Room).slots) := by
  by_cases c0 : (q1 ^^^ q2) < (0 : Int64)
  · skip
    by_cases c1 : (q1 % q2) = (0 : Int64)
    · skip
      exact rm_fmod_ft l Z a0 hw ws q1 q2 h0 n0 Z0 hnz0 c0 c1 (by unfold f_fmod; rw [if_pos c0]; rw [if_pos c1])
    · skip
      exact rm_fmod_ff l Z a0 hw ws q1 q2 h0 n0 Z0 hnz0 c0 c1 (by unfold f_fmod; rw [if_pos c0]; rw [if_neg c1])
  · skip
    exact rm_fmod_t l Z a0 hw ws q1 q2 h0 n0 Z0 hnz0 c0 (by unfold f_fmod; rw [if_neg c0])
theorem pd_0 : parseMethodDescriptor "(JJ)J" = some ⟨[.long, .long], some .long⟩ := by decide +kernel
theorem d3_0 : decode prog_20_method_3_code 0 = .ok (.lload_n 0, 1) := by decide +kernel
theorem d3_1 : decode prog_20_method_3_code 1 = .ok (.lload_n 2, 1) := by decide +kernel
theorem d3_2 : decode prog_20_method_3_code 2 = .ok (.invokestatic 25, 3) := by decide +kernel
theorem d3_5 : decode prog_20_method_3_code 5 = .ok (.lload 4, 2) := by decide +kernel
theorem d3_7 : decode prog_20_method_3_code 7 = .ok (.lsub, 1) := by decide +kernel
theorem d3_8 : decode prog_20_method_3_code 8 = .ok (.lload_n 2, 1) := by decide +kernel
theorem d3_9 : decode prog_20_method_3_code 9 = .ok (.invokestatic 25, 3) := by decide +kernel
theorem d3_12 : decode prog_20_method_3_code 12 = .ok (.lreturn, 1) := by decide +kernel
theorem pn_org_everroll_Instants : plainName "org/everroll/Instants" = true := by first | (simp [plainName, overriddenIn]; done) | decide +kernel
theorem ef_3_JJJ (m : MethodId) (x0 : Int64) (x1 : Int64) (x2 : Int64) : entryFrame m #[(.long x0), (.long x1), (.long x2)] 6 = mkF m 0 #[.val (.long x0), .second, .val (.long x1), .second, .val (.long x2), .second] [] := by first | (simp [entryFrame, mkF, argsToLocals, Value.category]; done) | rfl
def Q_into (Z : State) (q1 : Int64) (q2 : Int64) (q3 : Int64) (h0 : Heap) (n0 : Nat) (v : Option Value) (h : Heap) (L : List Loc) : Prop := v = some (.long (f_fmod ((f_fmod q1 q2) - q3) q2)) ∧ Fr n0 L ∧ h = h0
set_option maxRecDepth 65536 in
set_option maxHeartbeats 40000000 in
theorem rm_into (l : Launch) (Z : State) (a0 : Array Value) (hw : ∀ d ∈ tables_1, d.before a0 Z = true) (ws : List Jvm.Cond) (q1 : Int64) (q2 : Int64) (q3 : Int64) (h0 : Heap) (n0 : Nat) (Z0 : n0 ≤ h0.size) (hp0 : ¬ (q2 = (0 : Int64))) :
    MetFree l (⟨"org/everroll/Instants", "intoStep", "(JJJ)J"⟩ : MethodName) (head1 (Jvm.Cond.code (⟨"org/everroll/Instants", "intoStep", "(JJJ)J"⟩ : MethodName) prog_20_method_3_code 6 (some .long) :: ws) ({ frames := 1, cells := 0, slots := 0, locals := 17 } : Room)) (fun a U => a = #[(.long q1), (.long q2), (.long q3)] ∧ Z.Warmed39 U.vm ∧ U.heap = h0) (fun _ _ _ _ _ => True) (fun _ U o U' => ∃ v L, o = .returned v ∧ Q_into Z q1 q2 q3 h0 n0 v U'.heap L ∧ FrameEnd U o U' L ({ frames := 1, cells := 0, slots := 0, locals := 17 } : Room).cells ({ frames := 1, cells := 0, slots := 0, locals := 17 } : Room).slots) := by
  refine MetFree.of_bodySF (plainFor_of_name pn_org_everroll_Instants) hisR ?_
  intro p e s m args below meth c s₁ Bd hml0 hP hK
  obtain ⟨rfl, hZ, hh⟩ := hP
  have hx := Bd.exec
  have hby := Bd.bytes
  have hml : c.maxLocals = 6 := hml0
  have hown : s.vm.findClass "org/everroll/Instants" = some m.cls := findClass_of_methodNamed Bd.named
  have hnm := (name_of_methodNamed Bd.named Bd.method).1
  have X0 : Stand p l e ({ frames := 1, cells := 0, slots := 0, locals := 17 } : Room) s m #[(.long q1), (.long q2), (.long q3)] below meth c s₁ [] 0 0 := Stand.of_body Bd
  have e0 : s₁.heap = h0 := by rw [← hh, Bd.state]; rfl
  have N0 := Fr.nil n0
  have pre0 : ∀ t, Steps p.tables e below (s₁.setTop (mkF m 0 #[.val (.long q1), .second, .val (.long q2), .second, .val (.long q3), .second] [])) t → Steps p.tables e below (s₁.setTop (entryFrame m #[(.long q1), (.long q2), (.long q3)] 6)) t := fun t k => castTop (ef_3_JJJ m q1 q2 q3) k
  obtain ⟨_, _, ⟨T1, L1, k1, n1⟩, -, X1, ⟨Lc1, hQ1, l1, y1, z1⟩, st1⟩ := Jvm.LawKit.callS X0 hx (y := (⟨"java/lang/Math", "floorMod", "(JJ)J"⟩ : MethodName)) hown (mvT hZ (hw _ (List.mem_of_getElem? (i := 12) rfl))) (mvT hZ (hw _ (List.mem_of_getElem? (i := 13) rfl))) (mvT hZ (hw _ (List.mem_of_getElem? (i := 14) rfl))) (mvT hZ (hw _ (List.mem_of_getElem? (i := 15) rfl))) (by decide) (backOf (W := 0) (rm_fmod l Z a0 hw [] q1 q2 h0 n0 Z0 hp0) hZ (hw _ (List.mem_of_getElem? (i := 15) rfl)) (hw _ (List.mem_of_getElem? (i := 14) rfl)) (by decide) (by decide)) (g := (mkF m 2 #[.val (.long q1), .second, .val (.long q2), .second, .val (.long q3), .second] [(.long q2), (.long q1)])) rfl (by rw [hml]; rfl) (argsL := [(.long q1), (.long q2)]) (rest := []) (lenOf pd_0 rfl) rfl (by show 2 * 0 + _ ≤ _; exact Nat.le_of_eq rfl) (hb hby d3_2) (fun _ _ => ⟨rfl, e0, (by decide : 0 + 0 ≤ _), (by decide : 0 + 0 ≤ _)⟩)
  dsimp only [Pt.U, Pt.locs, Pt.cells, Pt.slots] at X1 l1 y1 z1 st1 hQ1
  subst l1 y1 z1
  obtain ⟨rfl, Nq1, e1⟩ := hQ1
  have N2 := Fr.app N0 Nq1
  obtain ⟨_, _, ⟨T3, L3, k3, n3⟩, -, X3, ⟨Lc3, hQ3, l3, y3, z3⟩, st3⟩ := Jvm.LawKit.callS X1 hx (y := (⟨"java/lang/Math", "floorMod", "(JJ)J"⟩ : MethodName)) hown (mvT hZ (hw _ (List.mem_of_getElem? (i := 12) rfl))) (mvT hZ (hw _ (List.mem_of_getElem? (i := 13) rfl))) (mvT hZ (hw _ (List.mem_of_getElem? (i := 14) rfl))) (mvT hZ (hw _ (List.mem_of_getElem? (i := 15) rfl))) (by decide) (backOf (W := 0) (rm_fmod l Z a0 hw [] ((f_fmod q1 q2) - q3) q2 h0 n0 Z0 hp0) hZ (hw _ (List.mem_of_getElem? (i := 15) rfl)) (hw _ (List.mem_of_getElem? (i := 14) rfl)) (by decide) (by decide)) (g := (mkF m 9 #[.val (.long q1), .second, .val (.long q2), .second, .val (.long q3), .second] [(.long q2), (.long ((f_fmod q1 q2) - q3))])) rfl (by rw [hml]; rfl) (argsL := [(.long ((f_fmod q1 q2) - q3)), (.long q2)]) (rest := []) (lenOf pd_0 rfl) rfl (by show 2 * 0 + _ ≤ _; exact Nat.le_of_eq rfl) (hb hby d3_9) (fun _ _ => ⟨rfl, e1, (by decide : 0 + 0 ≤ _), (by decide : 0 + 0 ≤ _)⟩)
  dsimp only [Pt.U, Pt.locs, Pt.cells, Pt.slots] at X3 l3 y3 z3 st3 hQ3
  subst l3 y3 z3
  obtain ⟨rfl, Nq3, e3⟩ := hQ3
  have N4 := Fr.app N2 Nq3
  obtain ⟨fs, hr, hrun, hended, hW, hsame⟩ := X3.leave (v := some (.long (f_fmod ((f_fmod q1 q2) - q3) q2))) (fun h => by rw [Bd.returns] at h; cases h) Bd.notSynchronized
  refine ⟨_, _, pre0 _ ?_, hrun, hended, _, _, rfl, ?_, ⟨_, rfl⟩, hW, hsame.mono (by decide) (by decide)⟩
  · show Steps p.tables e below (s₁.setTop (mkF m 0 #[.val (.long q1), .second, .val (.long q2), .second, .val (.long q3), .second] [])) _
    refine XS.lloadN X0.here hx rfl (hb hby d3_0) rfl ?_
    show Steps p.tables e below (s₁.setTop (mkF m 1 #[.val (.long q1), .second, .val (.long q2), .second, .val (.long q3), .second] [(.long q1)])) _
    refine XS.lloadN X0.here hx rfl (hb hby d3_1) rfl ?_
    show Steps p.tables e below (s₁.setTop (mkF m 2 #[.val (.long q1), .second, .val (.long q2), .second, .val (.long q3), .second] [(.long q2), (.long q1)])) _
    refine st1 _ ?_
    show Steps p.tables e below (T1.setTop (mkF m 5 #[.val (.long q1), .second, .val (.long q2), .second, .val (.long q3), .second] [(.long (f_fmod q1 q2))])) _
    refine XS.lload X1.here hx rfl (hb hby d3_5) rfl ?_
    show Steps p.tables e below (T1.setTop (mkF m 7 #[.val (.long q1), .second, .val (.long q2), .second, .val (.long q3), .second] [(.long q3), (.long (f_fmod q1 q2))])) _
    refine XS.lsub X1.here hx rfl (hb hby d3_7) rfl ?_
    show Steps p.tables e below (T1.setTop (mkF m 8 #[.val (.long q1), .second, .val (.long q2), .second, .val (.long q3), .second] [(.long ((f_fmod q1 q2) - q3))])) _
    refine XS.lloadN X1.here hx rfl (hb hby d3_8) rfl ?_
    show Steps p.tables e below (T1.setTop (mkF m 9 #[.val (.long q1), .second, .val (.long q2), .second, .val (.long q3), .second] [(.long q2), (.long ((f_fmod q1 q2) - q3))])) _
    refine st3 _ ?_
    show Steps p.tables e below (T3.setTop (mkF m 12 #[.val (.long q1), .second, .val (.long q2), .second, .val (.long q3), .second] [(.long (f_fmod ((f_fmod q1 q2) - q3) q2))])) _
    exact retOut X3 hx (t := .long) (i := .lreturn) Bd.returns rfl (Or.inr (Or.inl ⟨rfl, rfl, _, rfl⟩)) (hb hby d3_12) hr
  · show Q_into Z q1 q2 q3 h0 n0 _ T3.heap _
    rw [e3]
    exact ⟨rfl, N4, rfl⟩
theorem pd_1 : parseMethodDescriptor "(JI)J" = some ⟨[.long, .int], some .long⟩ := by decide +kernel
def own_off (q2 : Int64) (q3 : Int64) (p4 : Int32) : Int64 := ((q3 &&& (9223372036854775807 : Int64)) % (f_pickStep q2 p4))
theorem pd_2 : parseMethodDescriptor "(JJJ)J" = some ⟨[.long, .long, .long], some .long⟩ := by decide +kernel
def own_r (q1 : Int64) (q2 : Int64) (q3 : Int64) (p4 : Int32) : Int64 := (f_fmod ((f_fmod (f_pickTime q1 p4) (f_pickStep q2 p4)) - (own_off q2 q3 p4)) (f_pickStep q2 p4))
def own_m (q1 : Int64) (q2 : Int64) (p4 : Int32) : Int64 := ((f_pickTime q1 p4) % (f_pickStep q2 p4))
theorem ef_0_JJJI (m : MethodId) (x0 : Int64) (x1 : Int64) (x2 : Int64) (x3 : Int32) : entryFrame m #[(.long x0), (.long x1), (.long x2), (.int x3)] maxLocals = mkF m 0 #[.val (.long x0), .second, .val (.long x1), .second, .val (.long x2), .second, .val (.int x3), .unset, .unset, .unset, .unset, .unset, .unset, .unset, .unset, .unset, .unset, .unset, .unset] [] := by first | (simp [entryFrame, mkF, argsToLocals, Value.category, maxLocals]; done) | rfl
def Q_law (Z : State) (q1 : Int64) (q2 : Int64) (q3 : Int64) (p4 : Int32) (h0 : Heap) (n0 : Nat) (v : Option Value) (h : Heap) (L : List Loc) : Prop := v = some (.int (1 : Int32)) ∧ Fr n0 L
def Road_fttf (q1 : Int64) (q2 : Int64) (q3 : Int64) (p4 : Int32) : Prop := (¬ ((f_pickStep q2 p4) = (0 : Int64))) ∧ (¬ ((own_r q1 q2 q3 p4) < (0 : Int64))) ∧ ((own_r q1 q2 q3 p4) < (f_pickStep q2 p4)) ∧ (¬ ((own_m q1 q2 p4) < (0 : Int64))) ∧ (((own_m q1 q2 p4) - (own_r q1 q2 q3 p4)) = (own_off q2 q3 p4))
set_option maxRecDepth 65536 in
set_option maxHeartbeats 40000000 in
theorem rm_law_fttf (l : Launch) (Z : State) (a0 : Array Value) (hw : ∀ d ∈ tables_1, d.before a0 Z = true) (ws : List Jvm.Cond) (q1 : Int64) (q2 : Int64) (q3 : Int64) (p4 : Int32) (h0 : Heap) (n0 : Nat) (Z0 : n0 ≤ h0.size) (hroad : Road_fttf q1 q2 q3 p4) :
    MetFree l x (head1 (Jvm.Cond.code x code maxLocals ret :: ws) room_1) (fun a U => a = #[(.long q1), (.long q2), (.long q3), (.int p4)] ∧ Z.Warmed39 U.vm ∧ U.heap = h0) (fun _ _ _ _ _ => True) (fun _ U o U' => ∃ v L, o = .returned v ∧ Q_law Z q1 q2 q3 p4 h0 n0 v U'.heap L ∧ FrameEnd U o U' L room_1.cells room_1.slots) := by
  obtain ⟨hnz0, hc0, hc1, hc2, hc3⟩ := hroad
  refine MetFree.of_bodySF (plainFor_of_name pn_org_everroll_InstantsIntoStepPinLaw) hisR ?_
  intro p e s m args below meth c s₁ Bd hml0 hP hK
  obtain ⟨rfl, hZ, hh⟩ := hP
  have hx := Bd.exec
  have hby := Bd.bytes
  have hml : c.maxLocals = 19 := hml0
  have hown : s.vm.findClass "org/everroll/InstantsIntoStepPinLaw" = some m.cls := findClass_of_methodNamed Bd.named
  have hnm := (name_of_methodNamed Bd.named Bd.method).1
  have X0 : Stand p l e room_1 s m #[(.long q1), (.long q2), (.long q3), (.int p4)] below meth c s₁ [] 0 0 := Stand.of_body Bd
  have e0 : s₁.heap = h0 := by rw [← hh, Bd.state]; rfl
  have N0 := Fr.nil n0
  have pre0 : ∀ t, Steps p.tables e below (s₁.setTop (mkF m 0 #[.val (.long q1), .second, .val (.long q2), .second, .val (.long q3), .second, .val (.int p4), .unset, .unset, .unset, .unset, .unset, .unset, .unset, .unset, .unset, .unset, .unset, .unset] [])) t → Steps p.tables e below (s₁.setTop (entryFrame m #[(.long q1), (.long q2), (.long q3), (.int p4)] maxLocals)) t := fun t k => castTop (ef_0_JJJI m q1 q2 q3 p4) k
  obtain ⟨_, _, ⟨T1, L1, k1, n1⟩, -, X1, ⟨Lc1, hQ1, l1, y1, z1⟩, st1⟩ := Jvm.LawKit.callS X0 hx (y := (⟨"org/everroll/InstantsIntoStepPinLaw", "pickStep", "(JI)J"⟩ : MethodName)) hown (mvT hZ (hw _ (List.mem_of_getElem? (i := 0) rfl))) (mvT hZ (hw _ (List.mem_of_getElem? (i := 1) rfl))) (mvT hZ (hw _ (List.mem_of_getElem? (i := 2) rfl))) (mvT hZ (hw _ (List.mem_of_getElem? (i := 3) rfl))) (by decide) (backOf (W := 0) (rm_pickStep l Z a0 hw [] q2 p4 h0 n0 Z0 ) hZ (hw _ (List.mem_of_getElem? (i := 3) rfl)) (hw _ (List.mem_of_getElem? (i := 2) rfl)) (by decide) (by decide)) (g := (mkF m 3 #[.val (.long q1), .second, .val (.long q2), .second, .val (.long q3), .second, .val (.int p4), .unset, .unset, .unset, .unset, .unset, .unset, .unset, .unset, .unset, .unset, .unset, .unset] [(.int p4), (.long q2)])) rfl (by rw [hml]; rfl) (argsL := [(.long q2), (.int p4)]) (rest := []) (lenOf pd_1 rfl) rfl (by show 2 * 0 + _ ≤ _; exact Nat.le_of_eq rfl) (hb hby at_3) (fun _ _ => ⟨rfl, e0, (by decide : 0 + 0 ≤ _), (by decide : 0 + 0 ≤ _)⟩)
  dsimp only [Pt.U, Pt.locs, Pt.cells, Pt.slots] at X1 l1 y1 z1 st1 hQ1
  subst l1 y1 z1
  obtain ⟨rfl, Nq1, e1⟩ := hQ1
  have N2 := Fr.app N0 Nq1
  obtain ⟨_, _, ⟨T3, L3, k3, n3⟩, -, X3, ⟨Lc3, hQ3, l3, y3, z3⟩, st3⟩ := Jvm.LawKit.callS X1 hx (y := (⟨"org/everroll/InstantsIntoStepPinLaw", "pickTime", "(JI)J"⟩ : MethodName)) hown (mvT hZ (hw _ (List.mem_of_getElem? (i := 5) rfl))) (mvT hZ (hw _ (List.mem_of_getElem? (i := 6) rfl))) (mvT hZ (hw _ (List.mem_of_getElem? (i := 2) rfl))) (mvT hZ (hw _ (List.mem_of_getElem? (i := 7) rfl))) (by decide) (backOf (W := 0) (rm_pickTime l Z a0 hw [] q1 p4 h0 n0 Z0 ) hZ (hw _ (List.mem_of_getElem? (i := 7) rfl)) (hw _ (List.mem_of_getElem? (i := 2) rfl)) (by decide) (by decide)) (g := (mkF m 11 #[.val (.long q1), .second, .val (.long q2), .second, .val (.long q3), .second, .val (.int p4), .val (.long (f_pickStep q2 p4)), .second, .unset, .unset, .unset, .unset, .unset, .unset, .unset, .unset, .unset, .unset] [(.int p4), (.long q1)])) rfl (by rw [hml]; rfl) (argsL := [(.long q1), (.int p4)]) (rest := []) (lenOf pd_1 rfl) rfl (by show 2 * 0 + _ ≤ _; exact Nat.le_of_eq rfl) (hb hby at_11) (fun _ _ => ⟨rfl, e1, (by decide : 0 + 0 ≤ _), (by decide : 0 + 0 ≤ _)⟩)
  dsimp only [Pt.U, Pt.locs, Pt.cells, Pt.slots] at X3 l3 y3 z3 st3 hQ3
  subst l3 y3 z3
  obtain ⟨rfl, Nq3, e3⟩ := hQ3
  have N4 := Fr.app N2 Nq3
  obtain ⟨_, _, ⟨T5, L5, k5, n5⟩, -, X5, ⟨Lc5, hQ5, l5, y5, z5⟩, st5⟩ := Jvm.LawKit.callS X3 hx (y := (⟨"org/everroll/Instants", "intoStep", "(JJJ)J"⟩ : MethodName)) hown (mvT hZ (hw _ (List.mem_of_getElem? (i := 8) rfl))) (mvT hZ (hw _ (List.mem_of_getElem? (i := 9) rfl))) (mvT hZ (hw _ (List.mem_of_getElem? (i := 10) rfl))) (mvT hZ (hw _ (List.mem_of_getElem? (i := 11) rfl))) (by decide) (backOf (W := 0) (rm_into l Z a0 hw [] (f_pickTime q1 p4) (f_pickStep q2 p4) (own_off q2 q3 p4) h0 n0 Z0 hnz0) hZ (hw _ (List.mem_of_getElem? (i := 11) rfl)) (hw _ (List.mem_of_getElem? (i := 10) rfl)) (by decide) (by decide)) (g := (mkF m 33 #[.val (.long q1), .second, .val (.long q2), .second, .val (.long q3), .second, .val (.int p4), .val (.long (f_pickStep q2 p4)), .second, .val (.long (f_pickTime q1 p4)), .second, .val (.long (own_off q2 q3 p4)), .second, .unset, .unset, .unset, .unset, .unset, .unset] [(.long (own_off q2 q3 p4)), (.long (f_pickStep q2 p4)), (.long (f_pickTime q1 p4))])) rfl (by rw [hml]; rfl) (argsL := [(.long (f_pickTime q1 p4)), (.long (f_pickStep q2 p4)), (.long (own_off q2 q3 p4))]) (rest := []) (lenOf pd_2 rfl) rfl (by show 2 * 0 + _ ≤ _; exact Nat.le_of_eq rfl) (hb hby at_33) (fun _ _ => ⟨rfl, e3, (by decide : 0 + 0 ≤ _), (by decide : 0 + 0 ≤ _)⟩)
  dsimp only [Pt.U, Pt.locs, Pt.cells, Pt.slots] at X5 l5 y5 z5 st5 hQ5
  subst l5 y5 z5
  obtain ⟨rfl, Nq5, e5⟩ := hQ5
  have N6 := Fr.app N4 Nq5
  obtain ⟨fs, hr, hrun, hended, hW, hsame⟩ := X5.leave (v := some (.int (1 : Int32))) (fun h => by rw [Bd.returns] at h; cases h) Bd.notSynchronized
  refine ⟨_, _, pre0 _ ?_, hrun, hended, _, _, rfl, ?_, ⟨_, rfl⟩, hW, hsame.mono (by decide) (by decide)⟩
  · show Steps p.tables e below (s₁.setTop (mkF m 0 #[.val (.long q1), .second, .val (.long q2), .second, .val (.long q3), .second, .val (.int p4), .unset, .unset, .unset, .unset, .unset, .unset, .unset, .unset, .unset, .unset, .unset, .unset] [])) _
    refine XS.lloadN X0.here hx rfl (hb hby at_0) rfl ?_
    show Steps p.tables e below (s₁.setTop (mkF m 1 #[.val (.long q1), .second, .val (.long q2), .second, .val (.long q3), .second, .val (.int p4), .unset, .unset, .unset, .unset, .unset, .unset, .unset, .unset, .unset, .unset, .unset, .unset] [(.long q2)])) _
    refine XS.iload X0.here hx rfl (hb hby at_1) rfl ?_
    show Steps p.tables e below (s₁.setTop (mkF m 3 #[.val (.long q1), .second, .val (.long q2), .second, .val (.long q3), .second, .val (.int p4), .unset, .unset, .unset, .unset, .unset, .unset, .unset, .unset, .unset, .unset, .unset, .unset] [(.int p4), (.long q2)])) _
    refine st1 _ ?_
    show Steps p.tables e below (T1.setTop (mkF m 6 #[.val (.long q1), .second, .val (.long q2), .second, .val (.long q3), .second, .val (.int p4), .unset, .unset, .unset, .unset, .unset, .unset, .unset, .unset, .unset, .unset, .unset, .unset] [(.long (f_pickStep q2 p4))])) _
    refine XS.lstore X1.here hx rfl (hb hby at_6) rfl (l' := #[.val (.long q1), .second, .val (.long q2), .second, .val (.long q3), .second, .val (.int p4), .val (.long (f_pickStep q2 p4)), .second, .unset, .unset, .unset, .unset, .unset, .unset, .unset, .unset, .unset, .unset]) rfl ?_
    show Steps p.tables e below (T1.setTop (mkF m 8 #[.val (.long q1), .second, .val (.long q2), .second, .val (.long q3), .second, .val (.int p4), .val (.long (f_pickStep q2 p4)), .second, .unset, .unset, .unset, .unset, .unset, .unset, .unset, .unset, .unset, .unset] [])) _
    refine XS.lloadN X1.here hx rfl (hb hby at_8) rfl ?_
    show Steps p.tables e below (T1.setTop (mkF m 9 #[.val (.long q1), .second, .val (.long q2), .second, .val (.long q3), .second, .val (.int p4), .val (.long (f_pickStep q2 p4)), .second, .unset, .unset, .unset, .unset, .unset, .unset, .unset, .unset, .unset, .unset] [(.long q1)])) _
    refine XS.iload X1.here hx rfl (hb hby at_9) rfl ?_
    show Steps p.tables e below (T1.setTop (mkF m 11 #[.val (.long q1), .second, .val (.long q2), .second, .val (.long q3), .second, .val (.int p4), .val (.long (f_pickStep q2 p4)), .second, .unset, .unset, .unset, .unset, .unset, .unset, .unset, .unset, .unset, .unset] [(.int p4), (.long q1)])) _
    refine st3 _ ?_
    show Steps p.tables e below (T3.setTop (mkF m 14 #[.val (.long q1), .second, .val (.long q2), .second, .val (.long q3), .second, .val (.int p4), .val (.long (f_pickStep q2 p4)), .second, .unset, .unset, .unset, .unset, .unset, .unset, .unset, .unset, .unset, .unset] [(.long (f_pickTime q1 p4))])) _
    refine XS.lstore X3.here hx rfl (hb hby at_14) rfl (l' := #[.val (.long q1), .second, .val (.long q2), .second, .val (.long q3), .second, .val (.int p4), .val (.long (f_pickStep q2 p4)), .second, .val (.long (f_pickTime q1 p4)), .second, .unset, .unset, .unset, .unset, .unset, .unset, .unset, .unset]) rfl ?_
    show Steps p.tables e below (T3.setTop (mkF m 16 #[.val (.long q1), .second, .val (.long q2), .second, .val (.long q3), .second, .val (.int p4), .val (.long (f_pickStep q2 p4)), .second, .val (.long (f_pickTime q1 p4)), .second, .unset, .unset, .unset, .unset, .unset, .unset, .unset, .unset] [])) _
    refine XS.lload X3.here hx rfl (hb hby at_16) rfl ?_
    show Steps p.tables e below (T3.setTop (mkF m 18 #[.val (.long q1), .second, .val (.long q2), .second, .val (.long q3), .second, .val (.int p4), .val (.long (f_pickStep q2 p4)), .second, .val (.long (f_pickTime q1 p4)), .second, .unset, .unset, .unset, .unset, .unset, .unset, .unset, .unset] [(.long q3)])) _
    refine X3.ldc2Long hx hown (mvT hZ (hw _ (List.mem_of_getElem? (i := 4) rfl))) (g := (mkF m 18 #[.val (.long q1), .second, .val (.long q2), .second, .val (.long q3), .second, .val (.int p4), .val (.long (f_pickStep q2 p4)), .second, .val (.long (f_pickTime q1 p4)), .second, .unset, .unset, .unset, .unset, .unset, .unset, .unset, .unset] [(.long q3)])) rfl (hb hby at_18) _ ?_
    show Steps p.tables e below (T3.setTop (mkF m 21 #[.val (.long q1), .second, .val (.long q2), .second, .val (.long q3), .second, .val (.int p4), .val (.long (f_pickStep q2 p4)), .second, .val (.long (f_pickTime q1 p4)), .second, .unset, .unset, .unset, .unset, .unset, .unset, .unset, .unset] [(.long (9223372036854775807 : Int64)), (.long q3)])) _
    refine XS.land X3.here hx rfl (hb hby at_21) rfl ?_
    show Steps p.tables e below (T3.setTop (mkF m 22 #[.val (.long q1), .second, .val (.long q2), .second, .val (.long q3), .second, .val (.int p4), .val (.long (f_pickStep q2 p4)), .second, .val (.long (f_pickTime q1 p4)), .second, .unset, .unset, .unset, .unset, .unset, .unset, .unset, .unset] [(.long (q3 &&& (9223372036854775807 : Int64)))])) _
    refine XS.lload X3.here hx rfl (hb hby at_22) rfl ?_
    show Steps p.tables e below (T3.setTop (mkF m 24 #[.val (.long q1), .second, .val (.long q2), .second, .val (.long q3), .second, .val (.int p4), .val (.long (f_pickStep q2 p4)), .second, .val (.long (f_pickTime q1 p4)), .second, .unset, .unset, .unset, .unset, .unset, .unset, .unset, .unset] [(.long (f_pickStep q2 p4)), (.long (q3 &&& (9223372036854775807 : Int64)))])) _
    refine XS.lrem X3.here hx rfl (hb hby at_24) rfl hnz0 ?_
    rw [lrem_mod]
    show Steps p.tables e below (T3.setTop (mkF m 25 #[.val (.long q1), .second, .val (.long q2), .second, .val (.long q3), .second, .val (.int p4), .val (.long (f_pickStep q2 p4)), .second, .val (.long (f_pickTime q1 p4)), .second, .unset, .unset, .unset, .unset, .unset, .unset, .unset, .unset] [(.long ((q3 &&& (9223372036854775807 : Int64)) % (f_pickStep q2 p4)))])) _
    refine XS.lstore X3.here hx rfl (hb hby at_25) rfl (l' := #[.val (.long q1), .second, .val (.long q2), .second, .val (.long q3), .second, .val (.int p4), .val (.long (f_pickStep q2 p4)), .second, .val (.long (f_pickTime q1 p4)), .second, .val (.long (own_off q2 q3 p4)), .second, .unset, .unset, .unset, .unset, .unset, .unset]) rfl ?_
    show Steps p.tables e below (T3.setTop (mkF m 27 #[.val (.long q1), .second, .val (.long q2), .second, .val (.long q3), .second, .val (.int p4), .val (.long (f_pickStep q2 p4)), .second, .val (.long (f_pickTime q1 p4)), .second, .val (.long (own_off q2 q3 p4)), .second, .unset, .unset, .unset, .unset, .unset, .unset] [])) _
    refine XS.lload X3.here hx rfl (hb hby at_27) rfl ?_
    show Steps p.tables e below (T3.setTop (mkF m 29 #[.val (.long q1), .second, .val (.long q2), .second, .val (.long q3), .second, .val (.int p4), .val (.long (f_pickStep q2 p4)), .second, .val (.long (f_pickTime q1 p4)), .second, .val (.long (own_off q2 q3 p4)), .second, .unset, .unset, .unset, .unset, .unset, .unset] [(.long (f_pickTime q1 p4))])) _
    refine XS.lload X3.here hx rfl (hb hby at_29) rfl ?_
    show Steps p.tables e below (T3.setTop (mkF m 31 #[.val (.long q1), .second, .val (.long q2), .second, .val (.long q3), .second, .val (.int p4), .val (.long (f_pickStep q2 p4)), .second, .val (.long (f_pickTime q1 p4)), .second, .val (.long (own_off q2 q3 p4)), .second, .unset, .unset, .unset, .unset, .unset, .unset] [(.long (f_pickStep q2 p4)), (.long (f_pickTime q1 p4))])) _
    refine XS.lload X3.here hx rfl (hb hby at_31) rfl ?_
    show Steps p.tables e below (T3.setTop (mkF m 33 #[.val (.long q1), .second, .val (.long q2), .second, .val (.long q3), .second, .val (.int p4), .val (.long (f_pickStep q2 p4)), .second, .val (.long (f_pickTime q1 p4)), .second, .val (.long (own_off q2 q3 p4)), .second, .unset, .unset, .unset, .unset, .unset, .unset] [(.long (own_off q2 q3 p4)), (.long (f_pickStep q2 p4)), (.long (f_pickTime q1 p4))])) _
    refine st5 _ ?_
    show Steps p.tables e below (T5.setTop (mkF m 36 #[.val (.long q1), .second, .val (.long q2), .second, .val (.long q3), .second, .val (.int p4), .val (.long (f_pickStep q2 p4)), .second, .val (.long (f_pickTime q1 p4)), .second, .val (.long (own_off q2 q3 p4)), .second, .unset, .unset, .unset, .unset, .unset, .unset] [(.long (f_fmod ((f_fmod (f_pickTime q1 p4) (f_pickStep q2 p4)) - (own_off q2 q3 p4)) (f_pickStep q2 p4)))])) _
    refine XS.lstore X5.here hx rfl (hb hby at_36) rfl (l' := #[.val (.long q1), .second, .val (.long q2), .second, .val (.long q3), .second, .val (.int p4), .val (.long (f_pickStep q2 p4)), .second, .val (.long (f_pickTime q1 p4)), .second, .val (.long (own_off q2 q3 p4)), .second, .val (.long (own_r q1 q2 q3 p4)), .second, .unset, .unset, .unset, .unset]) rfl ?_
    show Steps p.tables e below (T5.setTop (mkF m 38 #[.val (.long q1), .second, .val (.long q2), .second, .val (.long q3), .second, .val (.int p4), .val (.long (f_pickStep q2 p4)), .second, .val (.long (f_pickTime q1 p4)), .second, .val (.long (own_off q2 q3 p4)), .second, .val (.long (own_r q1 q2 q3 p4)), .second, .unset, .unset, .unset, .unset] [])) _
    refine XS.lload X5.here hx rfl (hb hby at_38) rfl ?_
    show Steps p.tables e below (T5.setTop (mkF m 40 #[.val (.long q1), .second, .val (.long q2), .second, .val (.long q3), .second, .val (.int p4), .val (.long (f_pickStep q2 p4)), .second, .val (.long (f_pickTime q1 p4)), .second, .val (.long (own_off q2 q3 p4)), .second, .val (.long (own_r q1 q2 q3 p4)), .second, .unset, .unset, .unset, .unset] [(.long (own_r q1 q2 q3 p4))])) _
    refine XS.lconst X5.here hx rfl (hb hby at_40) ?_
    show Steps p.tables e below (T5.setTop (mkF m 41 #[.val (.long q1), .second, .val (.long q2), .second, .val (.long q3), .second, .val (.int p4), .val (.long (f_pickStep q2 p4)), .second, .val (.long (f_pickTime q1 p4)), .second, .val (.long (own_off q2 q3 p4)), .second, .val (.long (own_r q1 q2 q3 p4)), .second, .unset, .unset, .unset, .unset] [(.long (0 : Int64)), (.long (own_r q1 q2 q3 p4))])) _
    refine XS.lcmp X5.here hx rfl (hb hby at_41) rfl ?_
    show Steps p.tables e below (T5.setTop (mkF m 42 #[.val (.long q1), .second, .val (.long q2), .second, .val (.long q3), .second, .val (.int p4), .val (.long (f_pickStep q2 p4)), .second, .val (.long (f_pickTime q1 p4)), .second, .val (.long (own_off q2 q3 p4)), .second, .val (.long (own_r q1 q2 q3 p4)), .second, .unset, .unset, .unset, .unset] [(.int (lcmpW (own_r q1 q2 q3 p4) (0 : Int64)))])) _
    refine XS.ifNo X5.here hx rfl (hb hby at_42) rfl ((if0 _ _).trans (flt (fun q => (hc0 : ¬ ((own_r q1 q2 q3 p4) < (0 : Int64))) ((lw_lt _ _).mp q))).1) ?_
    show Steps p.tables e below (T5.setTop (mkF m 45 #[.val (.long q1), .second, .val (.long q2), .second, .val (.long q3), .second, .val (.int p4), .val (.long (f_pickStep q2 p4)), .second, .val (.long (f_pickTime q1 p4)), .second, .val (.long (own_off q2 q3 p4)), .second, .val (.long (own_r q1 q2 q3 p4)), .second, .unset, .unset, .unset, .unset] [])) _
    refine XS.lload X5.here hx rfl (hb hby at_45) rfl ?_
    show Steps p.tables e below (T5.setTop (mkF m 47 #[.val (.long q1), .second, .val (.long q2), .second, .val (.long q3), .second, .val (.int p4), .val (.long (f_pickStep q2 p4)), .second, .val (.long (f_pickTime q1 p4)), .second, .val (.long (own_off q2 q3 p4)), .second, .val (.long (own_r q1 q2 q3 p4)), .second, .unset, .unset, .unset, .unset] [(.long (own_r q1 q2 q3 p4))])) _
    refine XS.lload X5.here hx rfl (hb hby at_47) rfl ?_
    show Steps p.tables e below (T5.setTop (mkF m 49 #[.val (.long q1), .second, .val (.long q2), .second, .val (.long q3), .second, .val (.int p4), .val (.long (f_pickStep q2 p4)), .second, .val (.long (f_pickTime q1 p4)), .second, .val (.long (own_off q2 q3 p4)), .second, .val (.long (own_r q1 q2 q3 p4)), .second, .unset, .unset, .unset, .unset] [(.long (f_pickStep q2 p4)), (.long (own_r q1 q2 q3 p4))])) _
    refine XS.lcmp X5.here hx rfl (hb hby at_49) rfl ?_
    show Steps p.tables e below (T5.setTop (mkF m 50 #[.val (.long q1), .second, .val (.long q2), .second, .val (.long q3), .second, .val (.int p4), .val (.long (f_pickStep q2 p4)), .second, .val (.long (f_pickTime q1 p4)), .second, .val (.long (own_off q2 q3 p4)), .second, .val (.long (own_r q1 q2 q3 p4)), .second, .unset, .unset, .unset, .unset] [(.int (lcmpW (own_r q1 q2 q3 p4) (f_pickStep q2 p4)))])) _
    refine XS.ifYes X5.here hx rfl (pc0 := 50) (pc' := 55) rfl (hb hby at_50) rfl ((if0 _ _).trans (tlt ((lw_lt _ _).mpr (hc1 : (own_r q1 q2 q3 p4) < (f_pickStep q2 p4)))).1) (by decide) (by decide) ?_
    show Steps p.tables e below (T5.setTop (mkF m 55 #[.val (.long q1), .second, .val (.long q2), .second, .val (.long q3), .second, .val (.int p4), .val (.long (f_pickStep q2 p4)), .second, .val (.long (f_pickTime q1 p4)), .second, .val (.long (own_off q2 q3 p4)), .second, .val (.long (own_r q1 q2 q3 p4)), .second, .unset, .unset, .unset, .unset] [])) _
    refine XS.lload X5.here hx rfl (hb hby at_55) rfl ?_
    show Steps p.tables e below (T5.setTop (mkF m 57 #[.val (.long q1), .second, .val (.long q2), .second, .val (.long q3), .second, .val (.int p4), .val (.long (f_pickStep q2 p4)), .second, .val (.long (f_pickTime q1 p4)), .second, .val (.long (own_off q2 q3 p4)), .second, .val (.long (own_r q1 q2 q3 p4)), .second, .unset, .unset, .unset, .unset] [(.long (f_pickTime q1 p4))])) _
    refine XS.lload X5.here hx rfl (hb hby at_57) rfl ?_
    show Steps p.tables e below (T5.setTop (mkF m 59 #[.val (.long q1), .second, .val (.long q2), .second, .val (.long q3), .second, .val (.int p4), .val (.long (f_pickStep q2 p4)), .second, .val (.long (f_pickTime q1 p4)), .second, .val (.long (own_off q2 q3 p4)), .second, .val (.long (own_r q1 q2 q3 p4)), .second, .unset, .unset, .unset, .unset] [(.long (f_pickStep q2 p4)), (.long (f_pickTime q1 p4))])) _
    refine XS.lrem X5.here hx rfl (hb hby at_59) rfl hnz0 ?_
    rw [lrem_mod]
    show Steps p.tables e below (T5.setTop (mkF m 60 #[.val (.long q1), .second, .val (.long q2), .second, .val (.long q3), .second, .val (.int p4), .val (.long (f_pickStep q2 p4)), .second, .val (.long (f_pickTime q1 p4)), .second, .val (.long (own_off q2 q3 p4)), .second, .val (.long (own_r q1 q2 q3 p4)), .second, .unset, .unset, .unset, .unset] [(.long ((f_pickTime q1 p4) % (f_pickStep q2 p4)))])) _
    refine XS.lstore X5.here hx rfl (hb hby at_60) rfl (l' := #[.val (.long q1), .second, .val (.long q2), .second, .val (.long q3), .second, .val (.int p4), .val (.long (f_pickStep q2 p4)), .second, .val (.long (f_pickTime q1 p4)), .second, .val (.long (own_off q2 q3 p4)), .second, .val (.long (own_r q1 q2 q3 p4)), .second, .val (.long (own_m q1 q2 p4)), .second, .unset, .unset]) rfl ?_
    show Steps p.tables e below (T5.setTop (mkF m 62 #[.val (.long q1), .second, .val (.long q2), .second, .val (.long q3), .second, .val (.int p4), .val (.long (f_pickStep q2 p4)), .second, .val (.long (f_pickTime q1 p4)), .second, .val (.long (own_off q2 q3 p4)), .second, .val (.long (own_r q1 q2 q3 p4)), .second, .val (.long (own_m q1 q2 p4)), .second, .unset, .unset] [])) _
    refine XS.lload X5.here hx rfl (hb hby at_62) rfl ?_
    show Steps p.tables e below (T5.setTop (mkF m 64 #[.val (.long q1), .second, .val (.long q2), .second, .val (.long q3), .second, .val (.int p4), .val (.long (f_pickStep q2 p4)), .second, .val (.long (f_pickTime q1 p4)), .second, .val (.long (own_off q2 q3 p4)), .second, .val (.long (own_r q1 q2 q3 p4)), .second, .val (.long (own_m q1 q2 p4)), .second, .unset, .unset] [(.long (own_m q1 q2 p4))])) _
    refine XS.lconst X5.here hx rfl (hb hby at_64) ?_
    show Steps p.tables e below (T5.setTop (mkF m 65 #[.val (.long q1), .second, .val (.long q2), .second, .val (.long q3), .second, .val (.int p4), .val (.long (f_pickStep q2 p4)), .second, .val (.long (f_pickTime q1 p4)), .second, .val (.long (own_off q2 q3 p4)), .second, .val (.long (own_r q1 q2 q3 p4)), .second, .val (.long (own_m q1 q2 p4)), .second, .unset, .unset] [(.long (0 : Int64)), (.long (own_m q1 q2 p4))])) _
    refine XS.lcmp X5.here hx rfl (hb hby at_65) rfl ?_
    show Steps p.tables e below (T5.setTop (mkF m 66 #[.val (.long q1), .second, .val (.long q2), .second, .val (.long q3), .second, .val (.int p4), .val (.long (f_pickStep q2 p4)), .second, .val (.long (f_pickTime q1 p4)), .second, .val (.long (own_off q2 q3 p4)), .second, .val (.long (own_r q1 q2 q3 p4)), .second, .val (.long (own_m q1 q2 p4)), .second, .unset, .unset] [(.int (lcmpW (own_m q1 q2 p4) (0 : Int64)))])) _
    refine XS.ifYes X5.here hx rfl (pc0 := 66) (pc' := 76) rfl (hb hby at_66) rfl ((if0 _ _).trans (flt (fun q => (hc2 : ¬ ((own_m q1 q2 p4) < (0 : Int64))) ((lw_lt _ _).mp q))).2.1) (by decide) (by decide) ?_
    show Steps p.tables e below (T5.setTop (mkF m 76 #[.val (.long q1), .second, .val (.long q2), .second, .val (.long q3), .second, .val (.int p4), .val (.long (f_pickStep q2 p4)), .second, .val (.long (f_pickTime q1 p4)), .second, .val (.long (own_off q2 q3 p4)), .second, .val (.long (own_r q1 q2 q3 p4)), .second, .val (.long (own_m q1 q2 p4)), .second, .unset, .unset] [])) _
    refine XS.lload X5.here hx rfl (hb hby at_76) rfl ?_
    show Steps p.tables e below (T5.setTop (mkF m 78 #[.val (.long q1), .second, .val (.long q2), .second, .val (.long q3), .second, .val (.int p4), .val (.long (f_pickStep q2 p4)), .second, .val (.long (f_pickTime q1 p4)), .second, .val (.long (own_off q2 q3 p4)), .second, .val (.long (own_r q1 q2 q3 p4)), .second, .val (.long (own_m q1 q2 p4)), .second, .unset, .unset] [(.long (own_m q1 q2 p4))])) _
    refine XS.lload X5.here hx rfl (hb hby at_78) rfl ?_
    show Steps p.tables e below (T5.setTop (mkF m 80 #[.val (.long q1), .second, .val (.long q2), .second, .val (.long q3), .second, .val (.int p4), .val (.long (f_pickStep q2 p4)), .second, .val (.long (f_pickTime q1 p4)), .second, .val (.long (own_off q2 q3 p4)), .second, .val (.long (own_r q1 q2 q3 p4)), .second, .val (.long (own_m q1 q2 p4)), .second, .unset, .unset] [(.long (own_r q1 q2 q3 p4)), (.long (own_m q1 q2 p4))])) _
    refine XS.lsub X5.here hx rfl (hb hby at_80) rfl ?_
    show Steps p.tables e below (T5.setTop (mkF m 81 #[.val (.long q1), .second, .val (.long q2), .second, .val (.long q3), .second, .val (.int p4), .val (.long (f_pickStep q2 p4)), .second, .val (.long (f_pickTime q1 p4)), .second, .val (.long (own_off q2 q3 p4)), .second, .val (.long (own_r q1 q2 q3 p4)), .second, .val (.long (own_m q1 q2 p4)), .second, .unset, .unset] [(.long ((own_m q1 q2 p4) - (own_r q1 q2 q3 p4)))])) _
    refine XS.lstore X5.here hx rfl (hb hby at_81) rfl (l' := #[.val (.long q1), .second, .val (.long q2), .second, .val (.long q3), .second, .val (.int p4), .val (.long (f_pickStep q2 p4)), .second, .val (.long (f_pickTime q1 p4)), .second, .val (.long (own_off q2 q3 p4)), .second, .val (.long (own_r q1 q2 q3 p4)), .second, .val (.long (own_m q1 q2 p4)), .second, .val (.long ((own_m q1 q2 p4) - (own_r q1 q2 q3 p4))), .second]) rfl ?_
    show Steps p.tables e below (T5.setTop (mkF m 83 #[.val (.long q1), .second, .val (.long q2), .second, .val (.long q3), .second, .val (.int p4), .val (.long (f_pickStep q2 p4)), .second, .val (.long (f_pickTime q1 p4)), .second, .val (.long (own_off q2 q3 p4)), .second, .val (.long (own_r q1 q2 q3 p4)), .second, .val (.long (own_m q1 q2 p4)), .second, .val (.long ((own_m q1 q2 p4) - (own_r q1 q2 q3 p4))), .second] [])) _
    refine XS.lload X5.here hx rfl (hb hby at_83) rfl ?_
    show Steps p.tables e below (T5.setTop (mkF m 85 #[.val (.long q1), .second, .val (.long q2), .second, .val (.long q3), .second, .val (.int p4), .val (.long (f_pickStep q2 p4)), .second, .val (.long (f_pickTime q1 p4)), .second, .val (.long (own_off q2 q3 p4)), .second, .val (.long (own_r q1 q2 q3 p4)), .second, .val (.long (own_m q1 q2 p4)), .second, .val (.long ((own_m q1 q2 p4) - (own_r q1 q2 q3 p4))), .second] [(.long ((own_m q1 q2 p4) - (own_r q1 q2 q3 p4)))])) _
    refine XS.lload X5.here hx rfl (hb hby at_85) rfl ?_
    show Steps p.tables e below (T5.setTop (mkF m 87 #[.val (.long q1), .second, .val (.long q2), .second, .val (.long q3), .second, .val (.int p4), .val (.long (f_pickStep q2 p4)), .second, .val (.long (f_pickTime q1 p4)), .second, .val (.long (own_off q2 q3 p4)), .second, .val (.long (own_r q1 q2 q3 p4)), .second, .val (.long (own_m q1 q2 p4)), .second, .val (.long ((own_m q1 q2 p4) - (own_r q1 q2 q3 p4))), .second] [(.long (own_off q2 q3 p4)), (.long ((own_m q1 q2 p4) - (own_r q1 q2 q3 p4)))])) _
    refine XS.lcmp X5.here hx rfl (hb hby at_87) rfl ?_
    show Steps p.tables e below (T5.setTop (mkF m 88 #[.val (.long q1), .second, .val (.long q2), .second, .val (.long q3), .second, .val (.int p4), .val (.long (f_pickStep q2 p4)), .second, .val (.long (f_pickTime q1 p4)), .second, .val (.long (own_off q2 q3 p4)), .second, .val (.long (own_r q1 q2 q3 p4)), .second, .val (.long (own_m q1 q2 p4)), .second, .val (.long ((own_m q1 q2 p4) - (own_r q1 q2 q3 p4))), .second] [(.int (lcmpW ((own_m q1 q2 p4) - (own_r q1 q2 q3 p4)) (own_off q2 q3 p4)))])) _
    refine XS.ifNo X5.here hx rfl (hb hby at_88) rfl ((if0 _ _).trans (teq ((lw_eq _ _).mpr (hc3 : ((own_m q1 q2 p4) - (own_r q1 q2 q3 p4)) = (own_off q2 q3 p4)))).2) ?_
    show Steps p.tables e below (T5.setTop (mkF m 91 #[.val (.long q1), .second, .val (.long q2), .second, .val (.long q3), .second, .val (.int p4), .val (.long (f_pickStep q2 p4)), .second, .val (.long (f_pickTime q1 p4)), .second, .val (.long (own_off q2 q3 p4)), .second, .val (.long (own_r q1 q2 q3 p4)), .second, .val (.long (own_m q1 q2 p4)), .second, .val (.long ((own_m q1 q2 p4) - (own_r q1 q2 q3 p4))), .second] [])) _
    refine XS.iconst X5.here hx rfl (hb hby at_91) ?_
    show Steps p.tables e below (T5.setTop (mkF m 92 #[.val (.long q1), .second, .val (.long q2), .second, .val (.long q3), .second, .val (.int p4), .val (.long (f_pickStep q2 p4)), .second, .val (.long (f_pickTime q1 p4)), .second, .val (.long (own_off q2 q3 p4)), .second, .val (.long (own_r q1 q2 q3 p4)), .second, .val (.long (own_m q1 q2 p4)), .second, .val (.long ((own_m q1 q2 p4) - (own_r q1 q2 q3 p4))), .second] [(.int (1 : Int32))])) _
    exact retN X5 hx (t := .boolean) Bd.returns (by simp) (hb hby at_92) hr
  · show Q_law Z q1 q2 q3 p4 h0 n0 _ T5.heap _
    rw [e5]
    exact ⟨rfl, N6⟩
def Road_ftttff (q1 : Int64) (q2 : Int64) (q3 : Int64) (p4 : Int32) : Prop := (¬ ((f_pickStep q2 p4) = (0 : Int64))) ∧ (¬ ((own_r q1 q2 q3 p4) < (0 : Int64))) ∧ ((own_r q1 q2 q3 p4) < (f_pickStep q2 p4)) ∧ (¬ ((own_m q1 q2 p4) < (0 : Int64))) ∧ (¬ (((own_m q1 q2 p4) - (own_r q1 q2 q3 p4)) = (own_off q2 q3 p4))) ∧ (((own_m q1 q2 p4) - (own_r q1 q2 q3 p4)) < (0 : Int64)) ∧ ((((own_m q1 q2 p4) - (own_r q1 q2 q3 p4)) + (f_pickStep q2 p4)) = (own_off q2 q3 p4))
set_option maxRecDepth 65536 in
set_option maxHeartbeats 40000000 in
theorem rm_law_ftttff (l : Launch) (Z : State) (a0 : Array Value) (hw : ∀ d ∈ tables_1, d.before a0 Z = true) (ws : List Jvm.Cond) (q1 : Int64) (q2 : Int64) (q3 : Int64) (p4 : Int32) (h0 : Heap) (n0 : Nat) (Z0 : n0 ≤ h0.size) (hroad : Road_ftttff q1 q2 q3 p4) :
    MetFree l x (head1 (Jvm.Cond.code x code maxLocals ret :: ws) room_1) (fun a U => a = #[(.long q1), (.long q2), (.long q3), (.int p4)] ∧ Z.Warmed39 U.vm ∧ U.heap = h0) (fun _ _ _ _ _ => True) (fun _ U o U' => ∃ v L, o = .returned v ∧ Q_law Z q1 q2 q3 p4 h0 n0 v U'.heap L ∧ FrameEnd U o U' L room_1.cells room_1.slots) := by
  obtain ⟨hnz0, hc0, hc1, hc2, hc3, hc4, hc5⟩ := hroad
  refine MetFree.of_bodySF (plainFor_of_name pn_org_everroll_InstantsIntoStepPinLaw) hisR ?_
  intro p e s m args below meth c s₁ Bd hml0 hP hK
  obtain ⟨rfl, hZ, hh⟩ := hP
  have hx := Bd.exec
  have hby := Bd.bytes
  have hml : c.maxLocals = 19 := hml0
  have hown : s.vm.findClass "org/everroll/InstantsIntoStepPinLaw" = some m.cls := findClass_of_methodNamed Bd.named
  have hnm := (name_of_methodNamed Bd.named Bd.method).1
  have X0 : Stand p l e room_1 s m #[(.long q1), (.long q2), (.long q3), (.int p4)] below meth c s₁ [] 0 0 := Stand.of_body Bd
  have e0 : s₁.heap = h0 := by rw [← hh, Bd.state]; rfl
  have N0 := Fr.nil n0
  have pre0 : ∀ t, Steps p.tables e below (s₁.setTop (mkF m 0 #[.val (.long q1), .second, .val (.long q2), .second, .val (.long q3), .second, .val (.int p4), .unset, .unset, .unset, .unset, .unset, .unset, .unset, .unset, .unset, .unset, .unset, .unset] [])) t → Steps p.tables e below (s₁.setTop (entryFrame m #[(.long q1), (.long q2), (.long q3), (.int p4)] maxLocals)) t := fun t k => castTop (ef_0_JJJI m q1 q2 q3 p4) k
  obtain ⟨_, _, ⟨T1, L1, k1, n1⟩, -, X1, ⟨Lc1, hQ1, l1, y1, z1⟩, st1⟩ := Jvm.LawKit.callS X0 hx (y := (⟨"org/everroll/InstantsIntoStepPinLaw", "pickStep", "(JI)J"⟩ : MethodName)) hown (mvT hZ (hw _ (List.mem_of_getElem? (i := 0) rfl))) (mvT hZ (hw _ (List.mem_of_getElem? (i := 1) rfl))) (mvT hZ (hw _ (List.mem_of_getElem? (i := 2) rfl))) (mvT hZ (hw _ (List.mem_of_getElem? (i := 3) rfl))) (by decide) (backOf (W := 0) (rm_pickStep l Z a0 hw [] q2 p4 h0 n0 Z0 ) hZ (hw _ (List.mem_of_getElem? (i := 3) rfl)) (hw _ (List.mem_of_getElem? (i := 2) rfl)) (by decide) (by decide)) (g := (mkF m 3 #[.val (.long q1), .second, .val (.long q2), .second, .val (.long q3), .second, .val (.int p4), .unset, .unset, .unset, .unset, .unset, .unset, .unset, .unset, .unset, .unset, .unset, .unset] [(.int p4), (.long q2)])) rfl (by rw [hml]; rfl) (argsL := [(.long q2), (.int p4)]) (rest := []) (lenOf pd_1 rfl) rfl (by show 2 * 0 + _ ≤ _; exact Nat.le_of_eq rfl) (hb hby at_3) (fun _ _ => ⟨rfl, e0, (by decide : 0 + 0 ≤ _), (by decide : 0 + 0 ≤ _)⟩)
  dsimp only [Pt.U, Pt.locs, Pt.cells, Pt.slots] at X1 l1 y1 z1 st1 hQ1
  subst l1 y1 z1
  obtain ⟨rfl, Nq1, e1⟩ := hQ1
  have N2 := Fr.app N0 Nq1
  obtain ⟨_, _, ⟨T3, L3, k3, n3⟩, -, X3, ⟨Lc3, hQ3, l3, y3, z3⟩, st3⟩ := Jvm.LawKit.callS X1 hx (y := (⟨"org/everroll/InstantsIntoStepPinLaw", "pickTime", "(JI)J"⟩ : MethodName)) hown (mvT hZ (hw _ (List.mem_of_getElem? (i := 5) rfl))) (mvT hZ (hw _ (List.mem_of_getElem? (i := 6) rfl))) (mvT hZ (hw _ (List.mem_of_getElem? (i := 2) rfl))) (mvT hZ (hw _ (List.mem_of_getElem? (i := 7) rfl))) (by decide) (backOf (W := 0) (rm_pickTime l Z a0 hw [] q1 p4 h0 n0 Z0 ) hZ (hw _ (List.mem_of_getElem? (i := 7) rfl)) (hw _ (List.mem_of_getElem? (i := 2) rfl)) (by decide) (by decide)) (g := (mkF m 11 #[.val (.long q1), .second, .val (.long q2), .second, .val (.long q3), .second, .val (.int p4), .val (.long (f_pickStep q2 p4)), .second, .unset, .unset, .unset, .unset, .unset, .unset, .unset, .unset, .unset, .unset] [(.int p4), (.long q1)])) rfl (by rw [hml]; rfl) (argsL := [(.long q1), (.int p4)]) (rest := []) (lenOf pd_1 rfl) rfl (by show 2 * 0 + _ ≤ _; exact Nat.le_of_eq rfl) (hb hby at_11) (fun _ _ => ⟨rfl, e1, (by decide : 0 + 0 ≤ _), (by decide : 0 + 0 ≤ _)⟩)
  dsimp only [Pt.U, Pt.locs, Pt.cells, Pt.slots] at X3 l3 y3 z3 st3 hQ3
  subst l3 y3 z3
  obtain ⟨rfl, Nq3, e3⟩ := hQ3
  have N4 := Fr.app N2 Nq3
  obtain ⟨_, _, ⟨T5, L5, k5, n5⟩, -, X5, ⟨Lc5, hQ5, l5, y5, z5⟩, st5⟩ := Jvm.LawKit.callS X3 hx (y := (⟨"org/everroll/Instants", "intoStep", "(JJJ)J"⟩ : MethodName)) hown (mvT hZ (hw _ (List.mem_of_getElem? (i := 8) rfl))) (mvT hZ (hw _ (List.mem_of_getElem? (i := 9) rfl))) (mvT hZ (hw _ (List.mem_of_getElem? (i := 10) rfl))) (mvT hZ (hw _ (List.mem_of_getElem? (i := 11) rfl))) (by decide) (backOf (W := 0) (rm_into l Z a0 hw [] (f_pickTime q1 p4) (f_pickStep q2 p4) (own_off q2 q3 p4) h0 n0 Z0 hnz0) hZ (hw _ (List.mem_of_getElem? (i := 11) rfl)) (hw _ (List.mem_of_getElem? (i := 10) rfl)) (by decide) (by decide)) (g := (mkF m 33 #[.val (.long q1), .second, .val (.long q2), .second, .val (.long q3), .second, .val (.int p4), .val (.long (f_pickStep q2 p4)), .second, .val (.long (f_pickTime q1 p4)), .second, .val (.long (own_off q2 q3 p4)), .second, .unset, .unset, .unset, .unset, .unset, .unset] [(.long (own_off q2 q3 p4)), (.long (f_pickStep q2 p4)), (.long (f_pickTime q1 p4))])) rfl (by rw [hml]; rfl) (argsL := [(.long (f_pickTime q1 p4)), (.long (f_pickStep q2 p4)), (.long (own_off q2 q3 p4))]) (rest := []) (lenOf pd_2 rfl) rfl (by show 2 * 0 + _ ≤ _; exact Nat.le_of_eq rfl) (hb hby at_33) (fun _ _ => ⟨rfl, e3, (by decide : 0 + 0 ≤ _), (by decide : 0 + 0 ≤ _)⟩)
  dsimp only [Pt.U, Pt.locs, Pt.cells, Pt.slots] at X5 l5 y5 z5 st5 hQ5
  subst l5 y5 z5
  obtain ⟨rfl, Nq5, e5⟩ := hQ5
  have N6 := Fr.app N4 Nq5
  obtain ⟨fs, hr, hrun, hended, hW, hsame⟩ := X5.leave (v := some (.int (1 : Int32))) (fun h => by rw [Bd.returns] at h; cases h) Bd.notSynchronized
  refine ⟨_, _, pre0 _ ?_, hrun, hended, _, _, rfl, ?_, ⟨_, rfl⟩, hW, hsame.mono (by decide) (by decide)⟩
  · show Steps p.tables e below (s₁.setTop (mkF m 0 #[.val (.long q1), .second, .val (.long q2), .second, .val (.long q3), .second, .val (.int p4), .unset, .unset, .unset, .unset, .unset, .unset, .unset, .unset, .unset, .unset, .unset, .unset] [])) _
    refine XS.lloadN X0.here hx rfl (hb hby at_0) rfl ?_
    show Steps p.tables e below (s₁.setTop (mkF m 1 #[.val (.long q1), .second, .val (.long q2), .second, .val (.long q3), .second, .val (.int p4), .unset, .unset, .unset, .unset, .unset, .unset, .unset, .unset, .unset, .unset, .unset, .unset] [(.long q2)])) _
    refine XS.iload X0.here hx rfl (hb hby at_1) rfl ?_
    show Steps p.tables e below (s₁.setTop (mkF m 3 #[.val (.long q1), .second, .val (.long q2), .second, .val (.long q3), .second, .val (.int p4), .unset, .unset, .unset, .unset, .unset, .unset, .unset, .unset, .unset, .unset, .unset, .unset] [(.int p4), (.long q2)])) _
    refine st1 _ ?_
    show Steps p.tables e below (T1.setTop (mkF m 6 #[.val (.long q1), .second, .val (.long q2), .second, .val (.long q3), .second, .val (.int p4), .unset, .unset, .unset, .unset, .unset, .unset, .unset, .unset, .unset, .unset, .unset, .unset] [(.long (f_pickStep q2 p4))])) _
    refine XS.lstore X1.here hx rfl (hb hby at_6) rfl (l' := #[.val (.long q1), .second, .val (.long q2), .second, .val (.long q3), .second, .val (.int p4), .val (.long (f_pickStep q2 p4)), .second, .unset, .unset, .unset, .unset, .unset, .unset, .unset, .unset, .unset, .unset]) rfl ?_
    show Steps p.tables e below (T1.setTop (mkF m 8 #[.val (.long q1), .second, .val (.long q2), .second, .val (.long q3), .second, .val (.int p4), .val (.long (f_pickStep q2 p4)), .second, .unset, .unset, .unset, .unset, .unset, .unset, .unset, .unset, .unset, .unset] [])) _
    refine XS.lloadN X1.here hx rfl (hb hby at_8) rfl ?_
    show Steps p.tables e below (T1.setTop (mkF m 9 #[.val (.long q1), .second, .val (.long q2), .second, .val (.long q3), .second, .val (.int p4), .val (.long (f_pickStep q2 p4)), .second, .unset, .unset, .unset, .unset, .unset, .unset, .unset, .unset, .unset, .unset] [(.long q1)])) _
    refine XS.iload X1.here hx rfl (hb hby at_9) rfl ?_
    show Steps p.tables e below (T1.setTop (mkF m 11 #[.val (.long q1), .second, .val (.long q2), .second, .val (.long q3), .second, .val (.int p4), .val (.long (f_pickStep q2 p4)), .second, .unset, .unset, .unset, .unset, .unset, .unset, .unset, .unset, .unset, .unset] [(.int p4), (.long q1)])) _
    refine st3 _ ?_
    show Steps p.tables e below (T3.setTop (mkF m 14 #[.val (.long q1), .second, .val (.long q2), .second, .val (.long q3), .second, .val (.int p4), .val (.long (f_pickStep q2 p4)), .second, .unset, .unset, .unset, .unset, .unset, .unset, .unset, .unset, .unset, .unset] [(.long (f_pickTime q1 p4))])) _
    refine XS.lstore X3.here hx rfl (hb hby at_14) rfl (l' := #[.val (.long q1), .second, .val (.long q2), .second, .val (.long q3), .second, .val (.int p4), .val (.long (f_pickStep q2 p4)), .second, .val (.long (f_pickTime q1 p4)), .second, .unset, .unset, .unset, .unset, .unset, .unset, .unset, .unset]) rfl ?_
    show Steps p.tables e below (T3.setTop (mkF m 16 #[.val (.long q1), .second, .val (.long q2), .second, .val (.long q3), .second, .val (.int p4), .val (.long (f_pickStep q2 p4)), .second, .val (.long (f_pickTime q1 p4)), .second, .unset, .unset, .unset, .unset, .unset, .unset, .unset, .unset] [])) _
    refine XS.lload X3.here hx rfl (hb hby at_16) rfl ?_
    show Steps p.tables e below (T3.setTop (mkF m 18 #[.val (.long q1), .second, .val (.long q2), .second, .val (.long q3), .second, .val (.int p4), .val (.long (f_pickStep q2 p4)), .second, .val (.long (f_pickTime q1 p4)), .second, .unset, .unset, .unset, .unset, .unset, .unset, .unset, .unset] [(.long q3)])) _
    refine X3.ldc2Long hx hown (mvT hZ (hw _ (List.mem_of_getElem? (i := 4) rfl))) (g := (mkF m 18 #[.val (.long q1), .second, .val (.long q2), .second, .val (.long q3), .second, .val (.int p4), .val (.long (f_pickStep q2 p4)), .second, .val (.long (f_pickTime q1 p4)), .second, .unset, .unset, .unset, .unset, .unset, .unset, .unset, .unset] [(.long q3)])) rfl (hb hby at_18) _ ?_
    show Steps p.tables e below (T3.setTop (mkF m 21 #[.val (.long q1), .second, .val (.long q2), .second, .val (.long q3), .second, .val (.int p4), .val (.long (f_pickStep q2 p4)), .second, .val (.long (f_pickTime q1 p4)), .second, .unset, .unset, .unset, .unset, .unset, .unset, .unset, .unset] [(.long (9223372036854775807 : Int64)), (.long q3)])) _
    refine XS.land X3.here hx rfl (hb hby at_21) rfl ?_
    show Steps p.tables e below (T3.setTop (mkF m 22 #[.val (.long q1), .second, .val (.long q2), .second, .val (.long q3), .second, .val (.int p4), .val (.long (f_pickStep q2 p4)), .second, .val (.long (f_pickTime q1 p4)), .second, .unset, .unset, .unset, .unset, .unset, .unset, .unset, .unset] [(.long (q3 &&& (9223372036854775807 : Int64)))])) _
    refine XS.lload X3.here hx rfl (hb hby at_22) rfl ?_
    show Steps p.tables e below (T3.setTop (mkF m 24 #[.val (.long q1), .second, .val (.long q2), .second, .val (.long q3), .second, .val (.int p4), .val (.long (f_pickStep q2 p4)), .second, .val (.long (f_pickTime q1 p4)), .second, .unset, .unset, .unset, .unset, .unset, .unset, .unset, .unset] [(.long (f_pickStep q2 p4)), (.long (q3 &&& (9223372036854775807 : Int64)))])) _
    refine XS.lrem X3.here hx rfl (hb hby at_24) rfl hnz0 ?_
    rw [lrem_mod]
    show Steps p.tables e below (T3.setTop (mkF m 25 #[.val (.long q1), .second, .val (.long q2), .second, .val (.long q3), .second, .val (.int p4), .val (.long (f_pickStep q2 p4)), .second, .val (.long (f_pickTime q1 p4)), .second, .unset, .unset, .unset, .unset, .unset, .unset, .unset, .unset] [(.long ((q3 &&& (9223372036854775807 : Int64)) % (f_pickStep q2 p4)))])) _
    refine XS.lstore X3.here hx rfl (hb hby at_25) rfl (l' := #[.val (.long q1), .second, .val (.long q2), .second, .val (.long q3), .second, .val (.int p4), .val (.long (f_pickStep q2 p4)), .second, .val (.long (f_pickTime q1 p4)), .second, .val (.long (own_off q2 q3 p4)), .second, .unset, .unset, .unset, .unset, .unset, .unset]) rfl ?_
    show Steps p.tables e below (T3.setTop (mkF m 27 #[.val (.long q1), .second, .val (.long q2), .second, .val (.long q3), .second, .val (.int p4), .val (.long (f_pickStep q2 p4)), .second, .val (.long (f_pickTime q1 p4)), .second, .val (.long (own_off q2 q3 p4)), .second, .unset, .unset, .unset, .unset, .unset, .unset] [])) _
    refine XS.lload X3.here hx rfl (hb hby at_27) rfl ?_
    show Steps p.tables e below (T3.setTop (mkF m 29 #[.val (.long q1), .second, .val (.long q2), .second, .val (.long q3), .second, .val (.int p4), .val (.long (f_pickStep q2 p4)), .second, .val (.long (f_pickTime q1 p4)), .second, .val (.long (own_off q2 q3 p4)), .second, .unset, .unset, .unset, .unset, .unset, .unset] [(.long (f_pickTime q1 p4))])) _
    refine XS.lload X3.here hx rfl (hb hby at_29) rfl ?_
    show Steps p.tables e below (T3.setTop (mkF m 31 #[.val (.long q1), .second, .val (.long q2), .second, .val (.long q3), .second, .val (.int p4), .val (.long (f_pickStep q2 p4)), .second, .val (.long (f_pickTime q1 p4)), .second, .val (.long (own_off q2 q3 p4)), .second, .unset, .unset, .unset, .unset, .unset, .unset] [(.long (f_pickStep q2 p4)), (.long (f_pickTime q1 p4))])) _
    refine XS.lload X3.here hx rfl (hb hby at_31) rfl ?_
    show Steps p.tables e below (T3.setTop (mkF m 33 #[.val (.long q1), .second, .val (.long q2), .second, .val (.long q3), .second, .val (.int p4), .val (.long (f_pickStep q2 p4)), .second, .val (.long (f_pickTime q1 p4)), .second, .val (.long (own_off q2 q3 p4)), .second, .unset, .unset, .unset, .unset, .unset, .unset] [(.long (own_off q2 q3 p4)), (.long (f_pickStep q2 p4)), (.long (f_pickTime q1 p4))])) _
    refine st5 _ ?_
    show Steps p.tables e below (T5.setTop (mkF m 36 #[.val (.long q1), .second, .val (.long q2), .second, .val (.long q3), .second, .val (.int p4), .val (.long (f_pickStep q2 p4)), .second, .val (.long (f_pickTime q1 p4)), .second, .val (.long (own_off q2 q3 p4)), .second, .unset, .unset, .unset, .unset, .unset, .unset] [(.long (f_fmod ((f_fmod (f_pickTime q1 p4) (f_pickStep q2 p4)) - (own_off q2 q3 p4)) (f_pickStep q2 p4)))])) _
    refine XS.lstore X5.here hx rfl (hb hby at_36) rfl (l' := #[.val (.long q1), .second, .val (.long q2), .second, .val (.long q3), .second, .val (.int p4), .val (.long (f_pickStep q2 p4)), .second, .val (.long (f_pickTime q1 p4)), .second, .val (.long (own_off q2 q3 p4)), .second, .val (.long (own_r q1 q2 q3 p4)), .second, .unset, .unset, .unset, .unset]) rfl ?_
    show Steps p.tables e below (T5.setTop (mkF m 38 #[.val (.long q1), .second, .val (.long q2), .second, .val (.long q3), .second, .val (.int p4), .val (.long (f_pickStep q2 p4)), .second, .val (.long (f_pickTime q1 p4)), .second, .val (.long (own_off q2 q3 p4)), .second, .val (.long (own_r q1 q2 q3 p4)), .second, .unset, .unset, .unset, .unset] [])) _
    refine XS.lload X5.here hx rfl (hb hby at_38) rfl ?_
    show Steps p.tables e below (T5.setTop (mkF m 40 #[.val (.long q1), .second, .val (.long q2), .second, .val (.long q3), .second, .val (.int p4), .val (.long (f_pickStep q2 p4)), .second, .val (.long (f_pickTime q1 p4)), .second, .val (.long (own_off q2 q3 p4)), .second, .val (.long (own_r q1 q2 q3 p4)), .second, .unset, .unset, .unset, .unset] [(.long (own_r q1 q2 q3 p4))])) _
    refine XS.lconst X5.here hx rfl (hb hby at_40) ?_
    show Steps p.tables e below (T5.setTop (mkF m 41 #[.val (.long q1), .second, .val (.long q2), .second, .val (.long q3), .second, .val (.int p4), .val (.long (f_pickStep q2 p4)), .second, .val (.long (f_pickTime q1 p4)), .second, .val (.long (own_off q2 q3 p4)), .second, .val (.long (own_r q1 q2 q3 p4)), .second, .unset, .unset, .unset, .unset] [(.long (0 : Int64)), (.long (own_r q1 q2 q3 p4))])) _
    refine XS.lcmp X5.here hx rfl (hb hby at_41) rfl ?_
    show Steps p.tables e below (T5.setTop (mkF m 42 #[.val (.long q1), .second, .val (.long q2), .second, .val (.long q3), .second, .val (.int p4), .val (.long (f_pickStep q2 p4)), .second, .val (.long (f_pickTime q1 p4)), .second, .val (.long (own_off q2 q3 p4)), .second, .val (.long (own_r q1 q2 q3 p4)), .second, .unset, .unset, .unset, .unset] [(.int (lcmpW (own_r q1 q2 q3 p4) (0 : Int64)))])) _
    refine XS.ifNo X5.here hx rfl (hb hby at_42) rfl ((if0 _ _).trans (flt (fun q => (hc0 : ¬ ((own_r q1 q2 q3 p4) < (0 : Int64))) ((lw_lt _ _).mp q))).1) ?_
    show Steps p.tables e below (T5.setTop (mkF m 45 #[.val (.long q1), .second, .val (.long q2), .second, .val (.long q3), .second, .val (.int p4), .val (.long (f_pickStep q2 p4)), .second, .val (.long (f_pickTime q1 p4)), .second, .val (.long (own_off q2 q3 p4)), .second, .val (.long (own_r q1 q2 q3 p4)), .second, .unset, .unset, .unset, .unset] [])) _
    refine XS.lload X5.here hx rfl (hb hby at_45) rfl ?_
    show Steps p.tables e below (T5.setTop (mkF m 47 #[.val (.long q1), .second, .val (.long q2), .second, .val (.long q3), .second, .val (.int p4), .val (.long (f_pickStep q2 p4)), .second, .val (.long (f_pickTime q1 p4)), .second, .val (.long (own_off q2 q3 p4)), .second, .val (.long (own_r q1 q2 q3 p4)), .second, .unset, .unset, .unset, .unset] [(.long (own_r q1 q2 q3 p4))])) _
    refine XS.lload X5.here hx rfl (hb hby at_47) rfl ?_
    show Steps p.tables e below (T5.setTop (mkF m 49 #[.val (.long q1), .second, .val (.long q2), .second, .val (.long q3), .second, .val (.int p4), .val (.long (f_pickStep q2 p4)), .second, .val (.long (f_pickTime q1 p4)), .second, .val (.long (own_off q2 q3 p4)), .second, .val (.long (own_r q1 q2 q3 p4)), .second, .unset, .unset, .unset, .unset] [(.long (f_pickStep q2 p4)), (.long (own_r q1 q2 q3 p4))])) _
    refine XS.lcmp X5.here hx rfl (hb hby at_49) rfl ?_
    show Steps p.tables e below (T5.setTop (mkF m 50 #[.val (.long q1), .second, .val (.long q2), .second, .val (.long q3), .second, .val (.int p4), .val (.long (f_pickStep q2 p4)), .second, .val (.long (f_pickTime q1 p4)), .second, .val (.long (own_off q2 q3 p4)), .second, .val (.long (own_r q1 q2 q3 p4)), .second, .unset, .unset, .unset, .unset] [(.int (lcmpW (own_r q1 q2 q3 p4) (f_pickStep q2 p4)))])) _
    refine XS.ifYes X5.here hx rfl (pc0 := 50) (pc' := 55) rfl (hb hby at_50) rfl ((if0 _ _).trans (tlt ((lw_lt _ _).mpr (hc1 : (own_r q1 q2 q3 p4) < (f_pickStep q2 p4)))).1) (by decide) (by decide) ?_
    show Steps p.tables e below (T5.setTop (mkF m 55 #[.val (.long q1), .second, .val (.long q2), .second, .val (.long q3), .second, .val (.int p4), .val (.long (f_pickStep q2 p4)), .second, .val (.long (f_pickTime q1 p4)), .second, .val (.long (own_off q2 q3 p4)), .second, .val (.long (own_r q1 q2 q3 p4)), .second, .unset, .unset, .unset, .unset] [])) _
    refine XS.lload X5.here hx rfl (hb hby at_55) rfl ?_
    show Steps p.tables e below (T5.setTop (mkF m 57 #[.val (.long q1), .second, .val (.long q2), .second, .val (.long q3), .second, .val (.int p4), .val (.long (f_pickStep q2 p4)), .second, .val (.long (f_pickTime q1 p4)), .second, .val (.long (own_off q2 q3 p4)), .second, .val (.long (own_r q1 q2 q3 p4)), .second, .unset, .unset, .unset, .unset] [(.long (f_pickTime q1 p4))])) _
    refine XS.lload X5.here hx rfl (hb hby at_57) rfl ?_
    show Steps p.tables e below (T5.setTop (mkF m 59 #[.val (.long q1), .second, .val (.long q2), .second, .val (.long q3), .second, .val (.int p4), .val (.long (f_pickStep q2 p4)), .second, .val (.long (f_pickTime q1 p4)), .second, .val (.long (own_off q2 q3 p4)), .second, .val (.long (own_r q1 q2 q3 p4)), .second, .unset, .unset, .unset, .unset] [(.long (f_pickStep q2 p4)), (.long (f_pickTime q1 p4))])) _
    refine XS.lrem X5.here hx rfl (hb hby at_59) rfl hnz0 ?_
    rw [lrem_mod]
    show Steps p.tables e below (T5.setTop (mkF m 60 #[.val (.long q1), .second, .val (.long q2), .second, .val (.long q3), .second, .val (.int p4), .val (.long (f_pickStep q2 p4)), .second, .val (.long (f_pickTime q1 p4)), .second, .val (.long (own_off q2 q3 p4)), .second, .val (.long (own_r q1 q2 q3 p4)), .second, .unset, .unset, .unset, .unset] [(.long ((f_pickTime q1 p4) % (f_pickStep q2 p4)))])) _
    refine XS.lstore X5.here hx rfl (hb hby at_60) rfl (l' := #[.val (.long q1), .second, .val (.long q2), .second, .val (.long q3), .second, .val (.int p4), .val (.long (f_pickStep q2 p4)), .second, .val (.long (f_pickTime q1 p4)), .second, .val (.long (own_off q2 q3 p4)), .second, .val (.long (own_r q1 q2 q3 p4)), .second, .val (.long (own_m q1 q2 p4)), .second, .unset, .unset]) rfl ?_
    show Steps p.tables e below (T5.setTop (mkF m 62 #[.val (.long q1), .second, .val (.long q2), .second, .val (.long q3), .second, .val (.int p4), .val (.long (f_pickStep q2 p4)), .second, .val (.long (f_pickTime q1 p4)), .second, .val (.long (own_off q2 q3 p4)), .second, .val (.long (own_r q1 q2 q3 p4)), .second, .val (.long (own_m q1 q2 p4)), .second, .unset, .unset] [])) _
    refine XS.lload X5.here hx rfl (hb hby at_62) rfl ?_
    show Steps p.tables e below (T5.setTop (mkF m 64 #[.val (.long q1), .second, .val (.long q2), .second, .val (.long q3), .second, .val (.int p4), .val (.long (f_pickStep q2 p4)), .second, .val (.long (f_pickTime q1 p4)), .second, .val (.long (own_off q2 q3 p4)), .second, .val (.long (own_r q1 q2 q3 p4)), .second, .val (.long (own_m q1 q2 p4)), .second, .unset, .unset] [(.long (own_m q1 q2 p4))])) _
    refine XS.lconst X5.here hx rfl (hb hby at_64) ?_
    show Steps p.tables e below (T5.setTop (mkF m 65 #[.val (.long q1), .second, .val (.long q2), .second, .val (.long q3), .second, .val (.int p4), .val (.long (f_pickStep q2 p4)), .second, .val (.long (f_pickTime q1 p4)), .second, .val (.long (own_off q2 q3 p4)), .second, .val (.long (own_r q1 q2 q3 p4)), .second, .val (.long (own_m q1 q2 p4)), .second, .unset, .unset] [(.long (0 : Int64)), (.long (own_m q1 q2 p4))])) _
    refine XS.lcmp X5.here hx rfl (hb hby at_65) rfl ?_
    show Steps p.tables e below (T5.setTop (mkF m 66 #[.val (.long q1), .second, .val (.long q2), .second, .val (.long q3), .second, .val (.int p4), .val (.long (f_pickStep q2 p4)), .second, .val (.long (f_pickTime q1 p4)), .second, .val (.long (own_off q2 q3 p4)), .second, .val (.long (own_r q1 q2 q3 p4)), .second, .val (.long (own_m q1 q2 p4)), .second, .unset, .unset] [(.int (lcmpW (own_m q1 q2 p4) (0 : Int64)))])) _
    refine XS.ifYes X5.here hx rfl (pc0 := 66) (pc' := 76) rfl (hb hby at_66) rfl ((if0 _ _).trans (flt (fun q => (hc2 : ¬ ((own_m q1 q2 p4) < (0 : Int64))) ((lw_lt _ _).mp q))).2.1) (by decide) (by decide) ?_
    show Steps p.tables e below (T5.setTop (mkF m 76 #[.val (.long q1), .second, .val (.long q2), .second, .val (.long q3), .second, .val (.int p4), .val (.long (f_pickStep q2 p4)), .second, .val (.long (f_pickTime q1 p4)), .second, .val (.long (own_off q2 q3 p4)), .second, .val (.long (own_r q1 q2 q3 p4)), .second, .val (.long (own_m q1 q2 p4)), .second, .unset, .unset] [])) _
    refine XS.lload X5.here hx rfl (hb hby at_76) rfl ?_
    show Steps p.tables e below (T5.setTop (mkF m 78 #[.val (.long q1), .second, .val (.long q2), .second, .val (.long q3), .second, .val (.int p4), .val (.long (f_pickStep q2 p4)), .second, .val (.long (f_pickTime q1 p4)), .second, .val (.long (own_off q2 q3 p4)), .second, .val (.long (own_r q1 q2 q3 p4)), .second, .val (.long (own_m q1 q2 p4)), .second, .unset, .unset] [(.long (own_m q1 q2 p4))])) _
    refine XS.lload X5.here hx rfl (hb hby at_78) rfl ?_
    show Steps p.tables e below (T5.setTop (mkF m 80 #[.val (.long q1), .second, .val (.long q2), .second, .val (.long q3), .second, .val (.int p4), .val (.long (f_pickStep q2 p4)), .second, .val (.long (f_pickTime q1 p4)), .second, .val (.long (own_off q2 q3 p4)), .second, .val (.long (own_r q1 q2 q3 p4)), .second, .val (.long (own_m q1 q2 p4)), .second, .unset, .unset] [(.long (own_r q1 q2 q3 p4)), (.long (own_m q1 q2 p4))])) _
    refine XS.lsub X5.here hx rfl (hb hby at_80) rfl ?_
    show Steps p.tables e below (T5.setTop (mkF m 81 #[.val (.long q1), .second, .val (.long q2), .second, .val (.long q3), .second, .val (.int p4), .val (.long (f_pickStep q2 p4)), .second, .val (.long (f_pickTime q1 p4)), .second, .val (.long (own_off q2 q3 p4)), .second, .val (.long (own_r q1 q2 q3 p4)), .second, .val (.long (own_m q1 q2 p4)), .second, .unset, .unset] [(.long ((own_m q1 q2 p4) - (own_r q1 q2 q3 p4)))])) _
    refine XS.lstore X5.here hx rfl (hb hby at_81) rfl (l' := #[.val (.long q1), .second, .val (.long q2), .second, .val (.long q3), .second, .val (.int p4), .val (.long (f_pickStep q2 p4)), .second, .val (.long (f_pickTime q1 p4)), .second, .val (.long (own_off q2 q3 p4)), .second, .val (.long (own_r q1 q2 q3 p4)), .second, .val (.long (own_m q1 q2 p4)), .second, .val (.long ((own_m q1 q2 p4) - (own_r q1 q2 q3 p4))), .second]) rfl ?_
    show Steps p.tables e below (T5.setTop (mkF m 83 #[.val (.long q1), .second, .val (.long q2), .second, .val (.long q3), .second, .val (.int p4), .val (.long (f_pickStep q2 p4)), .second, .val (.long (f_pickTime q1 p4)), .second, .val (.long (own_off q2 q3 p4)), .second, .val (.long (own_r q1 q2 q3 p4)), .second, .val (.long (own_m q1 q2 p4)), .second, .val (.long ((own_m q1 q2 p4) - (own_r q1 q2 q3 p4))), .second] [])) _
    refine XS.lload X5.here hx rfl (hb hby at_83) rfl ?_
    show Steps p.tables e below (T5.setTop (mkF m 85 #[.val (.long q1), .second, .val (.long q2), .second, .val (.long q3), .second, .val (.int p4), .val (.long (f_pickStep q2 p4)), .second, .val (.long (f_pickTime q1 p4)), .second, .val (.long (own_off q2 q3 p4)), .second, .val (.long (own_r q1 q2 q3 p4)), .second, .val (.long (own_m q1 q2 p4)), .second, .val (.long ((own_m q1 q2 p4) - (own_r q1 q2 q3 p4))), .second] [(.long ((own_m q1 q2 p4) - (own_r q1 q2 q3 p4)))])) _
    refine XS.lload X5.here hx rfl (hb hby at_85) rfl ?_
    show Steps p.tables e below (T5.setTop (mkF m 87 #[.val (.long q1), .second, .val (.long q2), .second, .val (.long q3), .second, .val (.int p4), .val (.long (f_pickStep q2 p4)), .second, .val (.long (f_pickTime q1 p4)), .second, .val (.long (own_off q2 q3 p4)), .second, .val (.long (own_r q1 q2 q3 p4)), .second, .val (.long (own_m q1 q2 p4)), .second, .val (.long ((own_m q1 q2 p4) - (own_r q1 q2 q3 p4))), .second] [(.long (own_off q2 q3 p4)), (.long ((own_m q1 q2 p4) - (own_r q1 q2 q3 p4)))])) _
    refine XS.lcmp X5.here hx rfl (hb hby at_87) rfl ?_
    show Steps p.tables e below (T5.setTop (mkF m 88 #[.val (.long q1), .second, .val (.long q2), .second, .val (.long q3), .second, .val (.int p4), .val (.long (f_pickStep q2 p4)), .second, .val (.long (f_pickTime q1 p4)), .second, .val (.long (own_off q2 q3 p4)), .second, .val (.long (own_r q1 q2 q3 p4)), .second, .val (.long (own_m q1 q2 p4)), .second, .val (.long ((own_m q1 q2 p4) - (own_r q1 q2 q3 p4))), .second] [(.int (lcmpW ((own_m q1 q2 p4) - (own_r q1 q2 q3 p4)) (own_off q2 q3 p4)))])) _
    refine XS.ifYes X5.here hx rfl (pc0 := 88) (pc' := 93) rfl (hb hby at_88) rfl ((if0 _ _).trans (feq (fun q => (hc3 : ¬ (((own_m q1 q2 p4) - (own_r q1 q2 q3 p4)) = (own_off q2 q3 p4))) ((lw_eq _ _).mp q))).2) (by decide) (by decide) ?_
    show Steps p.tables e below (T5.setTop (mkF m 93 #[.val (.long q1), .second, .val (.long q2), .second, .val (.long q3), .second, .val (.int p4), .val (.long (f_pickStep q2 p4)), .second, .val (.long (f_pickTime q1 p4)), .second, .val (.long (own_off q2 q3 p4)), .second, .val (.long (own_r q1 q2 q3 p4)), .second, .val (.long (own_m q1 q2 p4)), .second, .val (.long ((own_m q1 q2 p4) - (own_r q1 q2 q3 p4))), .second] [])) _
    refine XS.lload X5.here hx rfl (hb hby at_93) rfl ?_
    show Steps p.tables e below (T5.setTop (mkF m 95 #[.val (.long q1), .second, .val (.long q2), .second, .val (.long q3), .second, .val (.int p4), .val (.long (f_pickStep q2 p4)), .second, .val (.long (f_pickTime q1 p4)), .second, .val (.long (own_off q2 q3 p4)), .second, .val (.long (own_r q1 q2 q3 p4)), .second, .val (.long (own_m q1 q2 p4)), .second, .val (.long ((own_m q1 q2 p4) - (own_r q1 q2 q3 p4))), .second] [(.long ((own_m q1 q2 p4) - (own_r q1 q2 q3 p4)))])) _
    refine XS.lconst X5.here hx rfl (hb hby at_95) ?_
    show Steps p.tables e below (T5.setTop (mkF m 96 #[.val (.long q1), .second, .val (.long q2), .second, .val (.long q3), .second, .val (.int p4), .val (.long (f_pickStep q2 p4)), .second, .val (.long (f_pickTime q1 p4)), .second, .val (.long (own_off q2 q3 p4)), .second, .val (.long (own_r q1 q2 q3 p4)), .second, .val (.long (own_m q1 q2 p4)), .second, .val (.long ((own_m q1 q2 p4) - (own_r q1 q2 q3 p4))), .second] [(.long (0 : Int64)), (.long ((own_m q1 q2 p4) - (own_r q1 q2 q3 p4)))])) _
    refine XS.lcmp X5.here hx rfl (hb hby at_96) rfl ?_
    show Steps p.tables e below (T5.setTop (mkF m 97 #[.val (.long q1), .second, .val (.long q2), .second, .val (.long q3), .second, .val (.int p4), .val (.long (f_pickStep q2 p4)), .second, .val (.long (f_pickTime q1 p4)), .second, .val (.long (own_off q2 q3 p4)), .second, .val (.long (own_r q1 q2 q3 p4)), .second, .val (.long (own_m q1 q2 p4)), .second, .val (.long ((own_m q1 q2 p4) - (own_r q1 q2 q3 p4))), .second] [(.int (lcmpW ((own_m q1 q2 p4) - (own_r q1 q2 q3 p4)) (0 : Int64)))])) _
    refine XS.ifNo X5.here hx rfl (hb hby at_97) rfl ((if0 _ _).trans (tlt ((lw_lt _ _).mpr (hc4 : ((own_m q1 q2 p4) - (own_r q1 q2 q3 p4)) < (0 : Int64)))).2.1) ?_
    show Steps p.tables e below (T5.setTop (mkF m 100 #[.val (.long q1), .second, .val (.long q2), .second, .val (.long q3), .second, .val (.int p4), .val (.long (f_pickStep q2 p4)), .second, .val (.long (f_pickTime q1 p4)), .second, .val (.long (own_off q2 q3 p4)), .second, .val (.long (own_r q1 q2 q3 p4)), .second, .val (.long (own_m q1 q2 p4)), .second, .val (.long ((own_m q1 q2 p4) - (own_r q1 q2 q3 p4))), .second] [])) _
    refine XS.lload X5.here hx rfl (hb hby at_100) rfl ?_
    show Steps p.tables e below (T5.setTop (mkF m 102 #[.val (.long q1), .second, .val (.long q2), .second, .val (.long q3), .second, .val (.int p4), .val (.long (f_pickStep q2 p4)), .second, .val (.long (f_pickTime q1 p4)), .second, .val (.long (own_off q2 q3 p4)), .second, .val (.long (own_r q1 q2 q3 p4)), .second, .val (.long (own_m q1 q2 p4)), .second, .val (.long ((own_m q1 q2 p4) - (own_r q1 q2 q3 p4))), .second] [(.long ((own_m q1 q2 p4) - (own_r q1 q2 q3 p4)))])) _
    refine XS.lload X5.here hx rfl (hb hby at_102) rfl ?_
    show Steps p.tables e below (T5.setTop (mkF m 104 #[.val (.long q1), .second, .val (.long q2), .second, .val (.long q3), .second, .val (.int p4), .val (.long (f_pickStep q2 p4)), .second, .val (.long (f_pickTime q1 p4)), .second, .val (.long (own_off q2 q3 p4)), .second, .val (.long (own_r q1 q2 q3 p4)), .second, .val (.long (own_m q1 q2 p4)), .second, .val (.long ((own_m q1 q2 p4) - (own_r q1 q2 q3 p4))), .second] [(.long (f_pickStep q2 p4)), (.long ((own_m q1 q2 p4) - (own_r q1 q2 q3 p4)))])) _
    refine XS.ladd X5.here hx rfl (hb hby at_104) rfl ?_
    show Steps p.tables e below (T5.setTop (mkF m 105 #[.val (.long q1), .second, .val (.long q2), .second, .val (.long q3), .second, .val (.int p4), .val (.long (f_pickStep q2 p4)), .second, .val (.long (f_pickTime q1 p4)), .second, .val (.long (own_off q2 q3 p4)), .second, .val (.long (own_r q1 q2 q3 p4)), .second, .val (.long (own_m q1 q2 p4)), .second, .val (.long ((own_m q1 q2 p4) - (own_r q1 q2 q3 p4))), .second] [(.long (((own_m q1 q2 p4) - (own_r q1 q2 q3 p4)) + (f_pickStep q2 p4)))])) _
    refine XS.lload X5.here hx rfl (hb hby at_105) rfl ?_
    show Steps p.tables e below (T5.setTop (mkF m 107 #[.val (.long q1), .second, .val (.long q2), .second, .val (.long q3), .second, .val (.int p4), .val (.long (f_pickStep q2 p4)), .second, .val (.long (f_pickTime q1 p4)), .second, .val (.long (own_off q2 q3 p4)), .second, .val (.long (own_r q1 q2 q3 p4)), .second, .val (.long (own_m q1 q2 p4)), .second, .val (.long ((own_m q1 q2 p4) - (own_r q1 q2 q3 p4))), .second] [(.long (own_off q2 q3 p4)), (.long (((own_m q1 q2 p4) - (own_r q1 q2 q3 p4)) + (f_pickStep q2 p4)))])) _
    refine XS.lcmp X5.here hx rfl (hb hby at_107) rfl ?_
    show Steps p.tables e below (T5.setTop (mkF m 108 #[.val (.long q1), .second, .val (.long q2), .second, .val (.long q3), .second, .val (.int p4), .val (.long (f_pickStep q2 p4)), .second, .val (.long (f_pickTime q1 p4)), .second, .val (.long (own_off q2 q3 p4)), .second, .val (.long (own_r q1 q2 q3 p4)), .second, .val (.long (own_m q1 q2 p4)), .second, .val (.long ((own_m q1 q2 p4) - (own_r q1 q2 q3 p4))), .second] [(.int (lcmpW (((own_m q1 q2 p4) - (own_r q1 q2 q3 p4)) + (f_pickStep q2 p4)) (own_off q2 q3 p4)))])) _
    refine XS.ifNo X5.here hx rfl (hb hby at_108) rfl ((if0 _ _).trans (teq ((lw_eq _ _).mpr (hc5 : (((own_m q1 q2 p4) - (own_r q1 q2 q3 p4)) + (f_pickStep q2 p4)) = (own_off q2 q3 p4)))).2) ?_
    show Steps p.tables e below (T5.setTop (mkF m 111 #[.val (.long q1), .second, .val (.long q2), .second, .val (.long q3), .second, .val (.int p4), .val (.long (f_pickStep q2 p4)), .second, .val (.long (f_pickTime q1 p4)), .second, .val (.long (own_off q2 q3 p4)), .second, .val (.long (own_r q1 q2 q3 p4)), .second, .val (.long (own_m q1 q2 p4)), .second, .val (.long ((own_m q1 q2 p4) - (own_r q1 q2 q3 p4))), .second] [])) _
    refine XS.iconst X5.here hx rfl (hb hby at_111) ?_
    show Steps p.tables e below (T5.setTop (mkF m 112 #[.val (.long q1), .second, .val (.long q2), .second, .val (.long q3), .second, .val (.int p4), .val (.long (f_pickStep q2 p4)), .second, .val (.long (f_pickTime q1 p4)), .second, .val (.long (own_off q2 q3 p4)), .second, .val (.long (own_r q1 q2 q3 p4)), .second, .val (.long (own_m q1 q2 p4)), .second, .val (.long ((own_m q1 q2 p4) - (own_r q1 q2 q3 p4))), .second] [(.int (1 : Int32))])) _
    refine XS.goto X5.here hx rfl (pc0 := 112) (pc' := 116) rfl (hb hby at_112) (by decide) (by decide) ?_
    show Steps p.tables e below (T5.setTop (mkF m 116 #[.val (.long q1), .second, .val (.long q2), .second, .val (.long q3), .second, .val (.int p4), .val (.long (f_pickStep q2 p4)), .second, .val (.long (f_pickTime q1 p4)), .second, .val (.long (own_off q2 q3 p4)), .second, .val (.long (own_r q1 q2 q3 p4)), .second, .val (.long (own_m q1 q2 p4)), .second, .val (.long ((own_m q1 q2 p4) - (own_r q1 q2 q3 p4))), .second] [(.int (1 : Int32))])) _
    exact retN X5 hx (t := .boolean) Bd.returns (by simp) (hb hby at_116) hr
  · show Q_law Z q1 q2 q3 p4 h0 n0 _ T5.heap _
    rw [e5]
    exact ⟨rfl, N6⟩
def Road_ftff (q1 : Int64) (q2 : Int64) (q3 : Int64) (p4 : Int32) : Prop := (¬ ((f_pickStep q2 p4) = (0 : Int64))) ∧ (¬ ((own_r q1 q2 q3 p4) < (0 : Int64))) ∧ ((own_r q1 q2 q3 p4) < (f_pickStep q2 p4)) ∧ ((own_m q1 q2 p4) < (0 : Int64)) ∧ ((((own_m q1 q2 p4) + (f_pickStep q2 p4)) - (own_r q1 q2 q3 p4)) = (own_off q2 q3 p4))
set_option maxRecDepth 65536 in
set_option maxHeartbeats 40000000 in
theorem rm_law_ftff (l : Launch) (Z : State) (a0 : Array Value) (hw : ∀ d ∈ tables_1, d.before a0 Z = true) (ws : List Jvm.Cond) (q1 : Int64) (q2 : Int64) (q3 : Int64) (p4 : Int32) (h0 : Heap) (n0 : Nat) (Z0 : n0 ≤ h0.size) (hroad : Road_ftff q1 q2 q3 p4) :
    MetFree l x (head1 (Jvm.Cond.code x code maxLocals ret :: ws) room_1) (fun a U => a = #[(.long q1), (.long q2), (.long q3), (.int p4)] ∧ Z.Warmed39 U.vm ∧ U.heap = h0) (fun _ _ _ _ _ => True) (fun _ U o U' => ∃ v L, o = .returned v ∧ Q_law Z q1 q2 q3 p4 h0 n0 v U'.heap L ∧ FrameEnd U o U' L room_1.cells room_1.slots) := by
  obtain ⟨hnz0, hc0, hc1, hc2, hc3⟩ := hroad
  refine MetFree.of_bodySF (plainFor_of_name pn_org_everroll_InstantsIntoStepPinLaw) hisR ?_
  intro p e s m args below meth c s₁ Bd hml0 hP hK
  obtain ⟨rfl, hZ, hh⟩ := hP
  have hx := Bd.exec
  have hby := Bd.bytes
  have hml : c.maxLocals = 19 := hml0
  have hown : s.vm.findClass "org/everroll/InstantsIntoStepPinLaw" = some m.cls := findClass_of_methodNamed Bd.named
  have hnm := (name_of_methodNamed Bd.named Bd.method).1
  have X0 : Stand p l e room_1 s m #[(.long q1), (.long q2), (.long q3), (.int p4)] below meth c s₁ [] 0 0 := Stand.of_body Bd
  have e0 : s₁.heap = h0 := by rw [← hh, Bd.state]; rfl
  have N0 := Fr.nil n0
  have pre0 : ∀ t, Steps p.tables e below (s₁.setTop (mkF m 0 #[.val (.long q1), .second, .val (.long q2), .second, .val (.long q3), .second, .val (.int p4), .unset, .unset, .unset, .unset, .unset, .unset, .unset, .unset, .unset, .unset, .unset, .unset] [])) t → Steps p.tables e below (s₁.setTop (entryFrame m #[(.long q1), (.long q2), (.long q3), (.int p4)] maxLocals)) t := fun t k => castTop (ef_0_JJJI m q1 q2 q3 p4) k
  obtain ⟨_, _, ⟨T1, L1, k1, n1⟩, -, X1, ⟨Lc1, hQ1, l1, y1, z1⟩, st1⟩ := Jvm.LawKit.callS X0 hx (y := (⟨"org/everroll/InstantsIntoStepPinLaw", "pickStep", "(JI)J"⟩ : MethodName)) hown (mvT hZ (hw _ (List.mem_of_getElem? (i := 0) rfl))) (mvT hZ (hw _ (List.mem_of_getElem? (i := 1) rfl))) (mvT hZ (hw _ (List.mem_of_getElem? (i := 2) rfl))) (mvT hZ (hw _ (List.mem_of_getElem? (i := 3) rfl))) (by decide) (backOf (W := 0) (rm_pickStep l Z a0 hw [] q2 p4 h0 n0 Z0 ) hZ (hw _ (List.mem_of_getElem? (i := 3) rfl)) (hw _ (List.mem_of_getElem? (i := 2) rfl)) (by decide) (by decide)) (g := (mkF m 3 #[.val (.long q1), .second, .val (.long q2), .second, .val (.long q3), .second, .val (.int p4), .unset, .unset, .unset, .unset, .unset, .unset, .unset, .unset, .unset, .unset, .unset, .unset] [(.int p4), (.long q2)])) rfl (by rw [hml]; rfl) (argsL := [(.long q2), (.int p4)]) (rest := []) (lenOf pd_1 rfl) rfl (by show 2 * 0 + _ ≤ _; exact Nat.le_of_eq rfl) (hb hby at_3) (fun _ _ => ⟨rfl, e0, (by decide : 0 + 0 ≤ _), (by decide : 0 + 0 ≤ _)⟩)
  dsimp only [Pt.U, Pt.locs, Pt.cells, Pt.slots] at X1 l1 y1 z1 st1 hQ1
  subst l1 y1 z1
  obtain ⟨rfl, Nq1, e1⟩ := hQ1
  have N2 := Fr.app N0 Nq1
  obtain ⟨_, _, ⟨T3, L3, k3, n3⟩, -, X3, ⟨Lc3, hQ3, l3, y3, z3⟩, st3⟩ := Jvm.LawKit.callS X1 hx (y := (⟨"org/everroll/InstantsIntoStepPinLaw", "pickTime", "(JI)J"⟩ : MethodName)) hown (mvT hZ (hw _ (List.mem_of_getElem? (i := 5) rfl))) (mvT hZ (hw _ (List.mem_of_getElem? (i := 6) rfl))) (mvT hZ (hw _ (List.mem_of_getElem? (i := 2) rfl))) (mvT hZ (hw _ (List.mem_of_getElem? (i := 7) rfl))) (by decide) (backOf (W := 0) (rm_pickTime l Z a0 hw [] q1 p4 h0 n0 Z0 ) hZ (hw _ (List.mem_of_getElem? (i := 7) rfl)) (hw _ (List.mem_of_getElem? (i := 2) rfl)) (by decide) (by decide)) (g := (mkF m 11 #[.val (.long q1), .second, .val (.long q2), .second, .val (.long q3), .second, .val (.int p4), .val (.long (f_pickStep q2 p4)), .second, .unset, .unset, .unset, .unset, .unset, .unset, .unset, .unset, .unset, .unset] [(.int p4), (.long q1)])) rfl (by rw [hml]; rfl) (argsL := [(.long q1), (.int p4)]) (rest := []) (lenOf pd_1 rfl) rfl (by show 2 * 0 + _ ≤ _; exact Nat.le_of_eq rfl) (hb hby at_11) (fun _ _ => ⟨rfl, e1, (by decide : 0 + 0 ≤ _), (by decide : 0 + 0 ≤ _)⟩)
  dsimp only [Pt.U, Pt.locs, Pt.cells, Pt.slots] at X3 l3 y3 z3 st3 hQ3
  subst l3 y3 z3
  obtain ⟨rfl, Nq3, e3⟩ := hQ3
  have N4 := Fr.app N2 Nq3
  obtain ⟨_, _, ⟨T5, L5, k5, n5⟩, -, X5, ⟨Lc5, hQ5, l5, y5, z5⟩, st5⟩ := Jvm.LawKit.callS X3 hx (y := (⟨"org/everroll/Instants", "intoStep", "(JJJ)J"⟩ : MethodName)) hown (mvT hZ (hw _ (List.mem_of_getElem? (i := 8) rfl))) (mvT hZ (hw _ (List.mem_of_getElem? (i := 9) rfl))) (mvT hZ (hw _ (List.mem_of_getElem? (i := 10) rfl))) (mvT hZ (hw _ (List.mem_of_getElem? (i := 11) rfl))) (by decide) (backOf (W := 0) (rm_into l Z a0 hw [] (f_pickTime q1 p4) (f_pickStep q2 p4) (own_off q2 q3 p4) h0 n0 Z0 hnz0) hZ (hw _ (List.mem_of_getElem? (i := 11) rfl)) (hw _ (List.mem_of_getElem? (i := 10) rfl)) (by decide) (by decide)) (g := (mkF m 33 #[.val (.long q1), .second, .val (.long q2), .second, .val (.long q3), .second, .val (.int p4), .val (.long (f_pickStep q2 p4)), .second, .val (.long (f_pickTime q1 p4)), .second, .val (.long (own_off q2 q3 p4)), .second, .unset, .unset, .unset, .unset, .unset, .unset] [(.long (own_off q2 q3 p4)), (.long (f_pickStep q2 p4)), (.long (f_pickTime q1 p4))])) rfl (by rw [hml]; rfl) (argsL := [(.long (f_pickTime q1 p4)), (.long (f_pickStep q2 p4)), (.long (own_off q2 q3 p4))]) (rest := []) (lenOf pd_2 rfl) rfl (by show 2 * 0 + _ ≤ _; exact Nat.le_of_eq rfl) (hb hby at_33) (fun _ _ => ⟨rfl, e3, (by decide : 0 + 0 ≤ _), (by decide : 0 + 0 ≤ _)⟩)
  dsimp only [Pt.U, Pt.locs, Pt.cells, Pt.slots] at X5 l5 y5 z5 st5 hQ5
  subst l5 y5 z5
  obtain ⟨rfl, Nq5, e5⟩ := hQ5
  have N6 := Fr.app N4 Nq5
  obtain ⟨fs, hr, hrun, hended, hW, hsame⟩ := X5.leave (v := some (.int (1 : Int32))) (fun h => by rw [Bd.returns] at h; cases h) Bd.notSynchronized
  refine ⟨_, _, pre0 _ ?_, hrun, hended, _, _, rfl, ?_, ⟨_, rfl⟩, hW, hsame.mono (by decide) (by decide)⟩
  · show Steps p.tables e below (s₁.setTop (mkF m 0 #[.val (.long q1), .second, .val (.long q2), .second, .val (.long q3), .second, .val (.int p4), .unset, .unset, .unset, .unset, .unset, .unset, .unset, .unset, .unset, .unset, .unset, .unset] [])) _
    refine XS.lloadN X0.here hx rfl (hb hby at_0) rfl ?_
    show Steps p.tables e below (s₁.setTop (mkF m 1 #[.val (.long q1), .second, .val (.long q2), .second, .val (.long q3), .second, .val (.int p4), .unset, .unset, .unset, .unset, .unset, .unset, .unset, .unset, .unset, .unset, .unset, .unset] [(.long q2)])) _
    refine XS.iload X0.here hx rfl (hb hby at_1) rfl ?_
    show Steps p.tables e below (s₁.setTop (mkF m 3 #[.val (.long q1), .second, .val (.long q2), .second, .val (.long q3), .second, .val (.int p4), .unset, .unset, .unset, .unset, .unset, .unset, .unset, .unset, .unset, .unset, .unset, .unset] [(.int p4), (.long q2)])) _
    refine st1 _ ?_
    show Steps p.tables e below (T1.setTop (mkF m 6 #[.val (.long q1), .second, .val (.long q2), .second, .val (.long q3), .second, .val (.int p4), .unset, .unset, .unset, .unset, .unset, .unset, .unset, .unset, .unset, .unset, .unset, .unset] [(.long (f_pickStep q2 p4))])) _
    refine XS.lstore X1.here hx rfl (hb hby at_6) rfl (l' := #[.val (.long q1), .second, .val (.long q2), .second, .val (.long q3), .second, .val (.int p4), .val (.long (f_pickStep q2 p4)), .second, .unset, .unset, .unset, .unset, .unset, .unset, .unset, .unset, .unset, .unset]) rfl ?_
    show Steps p.tables e below (T1.setTop (mkF m 8 #[.val (.long q1), .second, .val (.long q2), .second, .val (.long q3), .second, .val (.int p4), .val (.long (f_pickStep q2 p4)), .second, .unset, .unset, .unset, .unset, .unset, .unset, .unset, .unset, .unset, .unset] [])) _
    refine XS.lloadN X1.here hx rfl (hb hby at_8) rfl ?_
    show Steps p.tables e below (T1.setTop (mkF m 9 #[.val (.long q1), .second, .val (.long q2), .second, .val (.long q3), .second, .val (.int p4), .val (.long (f_pickStep q2 p4)), .second, .unset, .unset, .unset, .unset, .unset, .unset, .unset, .unset, .unset, .unset] [(.long q1)])) _
    refine XS.iload X1.here hx rfl (hb hby at_9) rfl ?_
    show Steps p.tables e below (T1.setTop (mkF m 11 #[.val (.long q1), .second, .val (.long q2), .second, .val (.long q3), .second, .val (.int p4), .val (.long (f_pickStep q2 p4)), .second, .unset, .unset, .unset, .unset, .unset, .unset, .unset, .unset, .unset, .unset] [(.int p4), (.long q1)])) _
    refine st3 _ ?_
    show Steps p.tables e below (T3.setTop (mkF m 14 #[.val (.long q1), .second, .val (.long q2), .second, .val (.long q3), .second, .val (.int p4), .val (.long (f_pickStep q2 p4)), .second, .unset, .unset, .unset, .unset, .unset, .unset, .unset, .unset, .unset, .unset] [(.long (f_pickTime q1 p4))])) _
    refine XS.lstore X3.here hx rfl (hb hby at_14) rfl (l' := #[.val (.long q1), .second, .val (.long q2), .second, .val (.long q3), .second, .val (.int p4), .val (.long (f_pickStep q2 p4)), .second, .val (.long (f_pickTime q1 p4)), .second, .unset, .unset, .unset, .unset, .unset, .unset, .unset, .unset]) rfl ?_
    show Steps p.tables e below (T3.setTop (mkF m 16 #[.val (.long q1), .second, .val (.long q2), .second, .val (.long q3), .second, .val (.int p4), .val (.long (f_pickStep q2 p4)), .second, .val (.long (f_pickTime q1 p4)), .second, .unset, .unset, .unset, .unset, .unset, .unset, .unset, .unset] [])) _
    refine XS.lload X3.here hx rfl (hb hby at_16) rfl ?_
    show Steps p.tables e below (T3.setTop (mkF m 18 #[.val (.long q1), .second, .val (.long q2), .second, .val (.long q3), .second, .val (.int p4), .val (.long (f_pickStep q2 p4)), .second, .val (.long (f_pickTime q1 p4)), .second, .unset, .unset, .unset, .unset, .unset, .unset, .unset, .unset] [(.long q3)])) _
    refine X3.ldc2Long hx hown (mvT hZ (hw _ (List.mem_of_getElem? (i := 4) rfl))) (g := (mkF m 18 #[.val (.long q1), .second, .val (.long q2), .second, .val (.long q3), .second, .val (.int p4), .val (.long (f_pickStep q2 p4)), .second, .val (.long (f_pickTime q1 p4)), .second, .unset, .unset, .unset, .unset, .unset, .unset, .unset, .unset] [(.long q3)])) rfl (hb hby at_18) _ ?_
    show Steps p.tables e below (T3.setTop (mkF m 21 #[.val (.long q1), .second, .val (.long q2), .second, .val (.long q3), .second, .val (.int p4), .val (.long (f_pickStep q2 p4)), .second, .val (.long (f_pickTime q1 p4)), .second, .unset, .unset, .unset, .unset, .unset, .unset, .unset, .unset] [(.long (9223372036854775807 : Int64)), (.long q3)])) _
    refine XS.land X3.here hx rfl (hb hby at_21) rfl ?_
    show Steps p.tables e below (T3.setTop (mkF m 22 #[.val (.long q1), .second, .val (.long q2), .second, .val (.long q3), .second, .val (.int p4), .val (.long (f_pickStep q2 p4)), .second, .val (.long (f_pickTime q1 p4)), .second, .unset, .unset, .unset, .unset, .unset, .unset, .unset, .unset] [(.long (q3 &&& (9223372036854775807 : Int64)))])) _
    refine XS.lload X3.here hx rfl (hb hby at_22) rfl ?_
    show Steps p.tables e below (T3.setTop (mkF m 24 #[.val (.long q1), .second, .val (.long q2), .second, .val (.long q3), .second, .val (.int p4), .val (.long (f_pickStep q2 p4)), .second, .val (.long (f_pickTime q1 p4)), .second, .unset, .unset, .unset, .unset, .unset, .unset, .unset, .unset] [(.long (f_pickStep q2 p4)), (.long (q3 &&& (9223372036854775807 : Int64)))])) _
    refine XS.lrem X3.here hx rfl (hb hby at_24) rfl hnz0 ?_
    rw [lrem_mod]
    show Steps p.tables e below (T3.setTop (mkF m 25 #[.val (.long q1), .second, .val (.long q2), .second, .val (.long q3), .second, .val (.int p4), .val (.long (f_pickStep q2 p4)), .second, .val (.long (f_pickTime q1 p4)), .second, .unset, .unset, .unset, .unset, .unset, .unset, .unset, .unset] [(.long ((q3 &&& (9223372036854775807 : Int64)) % (f_pickStep q2 p4)))])) _
    refine XS.lstore X3.here hx rfl (hb hby at_25) rfl (l' := #[.val (.long q1), .second, .val (.long q2), .second, .val (.long q3), .second, .val (.int p4), .val (.long (f_pickStep q2 p4)), .second, .val (.long (f_pickTime q1 p4)), .second, .val (.long (own_off q2 q3 p4)), .second, .unset, .unset, .unset, .unset, .unset, .unset]) rfl ?_
    show Steps p.tables e below (T3.setTop (mkF m 27 #[.val (.long q1), .second, .val (.long q2), .second, .val (.long q3), .second, .val (.int p4), .val (.long (f_pickStep q2 p4)), .second, .val (.long (f_pickTime q1 p4)), .second, .val (.long (own_off q2 q3 p4)), .second, .unset, .unset, .unset, .unset, .unset, .unset] [])) _
    refine XS.lload X3.here hx rfl (hb hby at_27) rfl ?_
    show Steps p.tables e below (T3.setTop (mkF m 29 #[.val (.long q1), .second, .val (.long q2), .second, .val (.long q3), .second, .val (.int p4), .val (.long (f_pickStep q2 p4)), .second, .val (.long (f_pickTime q1 p4)), .second, .val (.long (own_off q2 q3 p4)), .second, .unset, .unset, .unset, .unset, .unset, .unset] [(.long (f_pickTime q1 p4))])) _
    refine XS.lload X3.here hx rfl (hb hby at_29) rfl ?_
    show Steps p.tables e below (T3.setTop (mkF m 31 #[.val (.long q1), .second, .val (.long q2), .second, .val (.long q3), .second, .val (.int p4), .val (.long (f_pickStep q2 p4)), .second, .val (.long (f_pickTime q1 p4)), .second, .val (.long (own_off q2 q3 p4)), .second, .unset, .unset, .unset, .unset, .unset, .unset] [(.long (f_pickStep q2 p4)), (.long (f_pickTime q1 p4))])) _
    refine XS.lload X3.here hx rfl (hb hby at_31) rfl ?_
    show Steps p.tables e below (T3.setTop (mkF m 33 #[.val (.long q1), .second, .val (.long q2), .second, .val (.long q3), .second, .val (.int p4), .val (.long (f_pickStep q2 p4)), .second, .val (.long (f_pickTime q1 p4)), .second, .val (.long (own_off q2 q3 p4)), .second, .unset, .unset, .unset, .unset, .unset, .unset] [(.long (own_off q2 q3 p4)), (.long (f_pickStep q2 p4)), (.long (f_pickTime q1 p4))])) _
    refine st5 _ ?_
    show Steps p.tables e below (T5.setTop (mkF m 36 #[.val (.long q1), .second, .val (.long q2), .second, .val (.long q3), .second, .val (.int p4), .val (.long (f_pickStep q2 p4)), .second, .val (.long (f_pickTime q1 p4)), .second, .val (.long (own_off q2 q3 p4)), .second, .unset, .unset, .unset, .unset, .unset, .unset] [(.long (f_fmod ((f_fmod (f_pickTime q1 p4) (f_pickStep q2 p4)) - (own_off q2 q3 p4)) (f_pickStep q2 p4)))])) _
    refine XS.lstore X5.here hx rfl (hb hby at_36) rfl (l' := #[.val (.long q1), .second, .val (.long q2), .second, .val (.long q3), .second, .val (.int p4), .val (.long (f_pickStep q2 p4)), .second, .val (.long (f_pickTime q1 p4)), .second, .val (.long (own_off q2 q3 p4)), .second, .val (.long (own_r q1 q2 q3 p4)), .second, .unset, .unset, .unset, .unset]) rfl ?_
    show Steps p.tables e below (T5.setTop (mkF m 38 #[.val (.long q1), .second, .val (.long q2), .second, .val (.long q3), .second, .val (.int p4), .val (.long (f_pickStep q2 p4)), .second, .val (.long (f_pickTime q1 p4)), .second, .val (.long (own_off q2 q3 p4)), .second, .val (.long (own_r q1 q2 q3 p4)), .second, .unset, .unset, .unset, .unset] [])) _
    refine XS.lload X5.here hx rfl (hb hby at_38) rfl ?_
    show Steps p.tables e below (T5.setTop (mkF m 40 #[.val (.long q1), .second, .val (.long q2), .second, .val (.long q3), .second, .val (.int p4), .val (.long (f_pickStep q2 p4)), .second, .val (.long (f_pickTime q1 p4)), .second, .val (.long (own_off q2 q3 p4)), .second, .val (.long (own_r q1 q2 q3 p4)), .second, .unset, .unset, .unset, .unset] [(.long (own_r q1 q2 q3 p4))])) _
    refine XS.lconst X5.here hx rfl (hb hby at_40) ?_
    show Steps p.tables e below (T5.setTop (mkF m 41 #[.val (.long q1), .second, .val (.long q2), .second, .val (.long q3), .second, .val (.int p4), .val (.long (f_pickStep q2 p4)), .second, .val (.long (f_pickTime q1 p4)), .second, .val (.long (own_off q2 q3 p4)), .second, .val (.long (own_r q1 q2 q3 p4)), .second, .unset, .unset, .unset, .unset] [(.long (0 : Int64)), (.long (own_r q1 q2 q3 p4))])) _
    refine XS.lcmp X5.here hx rfl (hb hby at_41) rfl ?_
    show Steps p.tables e below (T5.setTop (mkF m 42 #[.val (.long q1), .second, .val (.long q2), .second, .val (.long q3), .second, .val (.int p4), .val (.long (f_pickStep q2 p4)), .second, .val (.long (f_pickTime q1 p4)), .second, .val (.long (own_off q2 q3 p4)), .second, .val (.long (own_r q1 q2 q3 p4)), .second, .unset, .unset, .unset, .unset] [(.int (lcmpW (own_r q1 q2 q3 p4) (0 : Int64)))])) _
    refine XS.ifNo X5.here hx rfl (hb hby at_42) rfl ((if0 _ _).trans (flt (fun q => (hc0 : ¬ ((own_r q1 q2 q3 p4) < (0 : Int64))) ((lw_lt _ _).mp q))).1) ?_
    show Steps p.tables e below (T5.setTop (mkF m 45 #[.val (.long q1), .second, .val (.long q2), .second, .val (.long q3), .second, .val (.int p4), .val (.long (f_pickStep q2 p4)), .second, .val (.long (f_pickTime q1 p4)), .second, .val (.long (own_off q2 q3 p4)), .second, .val (.long (own_r q1 q2 q3 p4)), .second, .unset, .unset, .unset, .unset] [])) _
    refine XS.lload X5.here hx rfl (hb hby at_45) rfl ?_
    show Steps p.tables e below (T5.setTop (mkF m 47 #[.val (.long q1), .second, .val (.long q2), .second, .val (.long q3), .second, .val (.int p4), .val (.long (f_pickStep q2 p4)), .second, .val (.long (f_pickTime q1 p4)), .second, .val (.long (own_off q2 q3 p4)), .second, .val (.long (own_r q1 q2 q3 p4)), .second, .unset, .unset, .unset, .unset] [(.long (own_r q1 q2 q3 p4))])) _
    refine XS.lload X5.here hx rfl (hb hby at_47) rfl ?_
    show Steps p.tables e below (T5.setTop (mkF m 49 #[.val (.long q1), .second, .val (.long q2), .second, .val (.long q3), .second, .val (.int p4), .val (.long (f_pickStep q2 p4)), .second, .val (.long (f_pickTime q1 p4)), .second, .val (.long (own_off q2 q3 p4)), .second, .val (.long (own_r q1 q2 q3 p4)), .second, .unset, .unset, .unset, .unset] [(.long (f_pickStep q2 p4)), (.long (own_r q1 q2 q3 p4))])) _
    refine XS.lcmp X5.here hx rfl (hb hby at_49) rfl ?_
    show Steps p.tables e below (T5.setTop (mkF m 50 #[.val (.long q1), .second, .val (.long q2), .second, .val (.long q3), .second, .val (.int p4), .val (.long (f_pickStep q2 p4)), .second, .val (.long (f_pickTime q1 p4)), .second, .val (.long (own_off q2 q3 p4)), .second, .val (.long (own_r q1 q2 q3 p4)), .second, .unset, .unset, .unset, .unset] [(.int (lcmpW (own_r q1 q2 q3 p4) (f_pickStep q2 p4)))])) _
    refine XS.ifYes X5.here hx rfl (pc0 := 50) (pc' := 55) rfl (hb hby at_50) rfl ((if0 _ _).trans (tlt ((lw_lt _ _).mpr (hc1 : (own_r q1 q2 q3 p4) < (f_pickStep q2 p4)))).1) (by decide) (by decide) ?_
    show Steps p.tables e below (T5.setTop (mkF m 55 #[.val (.long q1), .second, .val (.long q2), .second, .val (.long q3), .second, .val (.int p4), .val (.long (f_pickStep q2 p4)), .second, .val (.long (f_pickTime q1 p4)), .second, .val (.long (own_off q2 q3 p4)), .second, .val (.long (own_r q1 q2 q3 p4)), .second, .unset, .unset, .unset, .unset] [])) _
    refine XS.lload X5.here hx rfl (hb hby at_55) rfl ?_
    show Steps p.tables e below (T5.setTop (mkF m 57 #[.val (.long q1), .second, .val (.long q2), .second, .val (.long q3), .second, .val (.int p4), .val (.long (f_pickStep q2 p4)), .second, .val (.long (f_pickTime q1 p4)), .second, .val (.long (own_off q2 q3 p4)), .second, .val (.long (own_r q1 q2 q3 p4)), .second, .unset, .unset, .unset, .unset] [(.long (f_pickTime q1 p4))])) _
    refine XS.lload X5.here hx rfl (hb hby at_57) rfl ?_
    show Steps p.tables e below (T5.setTop (mkF m 59 #[.val (.long q1), .second, .val (.long q2), .second, .val (.long q3), .second, .val (.int p4), .val (.long (f_pickStep q2 p4)), .second, .val (.long (f_pickTime q1 p4)), .second, .val (.long (own_off q2 q3 p4)), .second, .val (.long (own_r q1 q2 q3 p4)), .second, .unset, .unset, .unset, .unset] [(.long (f_pickStep q2 p4)), (.long (f_pickTime q1 p4))])) _
    refine XS.lrem X5.here hx rfl (hb hby at_59) rfl hnz0 ?_
    rw [lrem_mod]
    show Steps p.tables e below (T5.setTop (mkF m 60 #[.val (.long q1), .second, .val (.long q2), .second, .val (.long q3), .second, .val (.int p4), .val (.long (f_pickStep q2 p4)), .second, .val (.long (f_pickTime q1 p4)), .second, .val (.long (own_off q2 q3 p4)), .second, .val (.long (own_r q1 q2 q3 p4)), .second, .unset, .unset, .unset, .unset] [(.long ((f_pickTime q1 p4) % (f_pickStep q2 p4)))])) _
    refine XS.lstore X5.here hx rfl (hb hby at_60) rfl (l' := #[.val (.long q1), .second, .val (.long q2), .second, .val (.long q3), .second, .val (.int p4), .val (.long (f_pickStep q2 p4)), .second, .val (.long (f_pickTime q1 p4)), .second, .val (.long (own_off q2 q3 p4)), .second, .val (.long (own_r q1 q2 q3 p4)), .second, .val (.long (own_m q1 q2 p4)), .second, .unset, .unset]) rfl ?_
    show Steps p.tables e below (T5.setTop (mkF m 62 #[.val (.long q1), .second, .val (.long q2), .second, .val (.long q3), .second, .val (.int p4), .val (.long (f_pickStep q2 p4)), .second, .val (.long (f_pickTime q1 p4)), .second, .val (.long (own_off q2 q3 p4)), .second, .val (.long (own_r q1 q2 q3 p4)), .second, .val (.long (own_m q1 q2 p4)), .second, .unset, .unset] [])) _
    refine XS.lload X5.here hx rfl (hb hby at_62) rfl ?_
    show Steps p.tables e below (T5.setTop (mkF m 64 #[.val (.long q1), .second, .val (.long q2), .second, .val (.long q3), .second, .val (.int p4), .val (.long (f_pickStep q2 p4)), .second, .val (.long (f_pickTime q1 p4)), .second, .val (.long (own_off q2 q3 p4)), .second, .val (.long (own_r q1 q2 q3 p4)), .second, .val (.long (own_m q1 q2 p4)), .second, .unset, .unset] [(.long (own_m q1 q2 p4))])) _
    refine XS.lconst X5.here hx rfl (hb hby at_64) ?_
    show Steps p.tables e below (T5.setTop (mkF m 65 #[.val (.long q1), .second, .val (.long q2), .second, .val (.long q3), .second, .val (.int p4), .val (.long (f_pickStep q2 p4)), .second, .val (.long (f_pickTime q1 p4)), .second, .val (.long (own_off q2 q3 p4)), .second, .val (.long (own_r q1 q2 q3 p4)), .second, .val (.long (own_m q1 q2 p4)), .second, .unset, .unset] [(.long (0 : Int64)), (.long (own_m q1 q2 p4))])) _
    refine XS.lcmp X5.here hx rfl (hb hby at_65) rfl ?_
    show Steps p.tables e below (T5.setTop (mkF m 66 #[.val (.long q1), .second, .val (.long q2), .second, .val (.long q3), .second, .val (.int p4), .val (.long (f_pickStep q2 p4)), .second, .val (.long (f_pickTime q1 p4)), .second, .val (.long (own_off q2 q3 p4)), .second, .val (.long (own_r q1 q2 q3 p4)), .second, .val (.long (own_m q1 q2 p4)), .second, .unset, .unset] [(.int (lcmpW (own_m q1 q2 p4) (0 : Int64)))])) _
    refine XS.ifNo X5.here hx rfl (hb hby at_66) rfl ((if0 _ _).trans (tlt ((lw_lt _ _).mpr (hc2 : (own_m q1 q2 p4) < (0 : Int64)))).2.1) ?_
    show Steps p.tables e below (T5.setTop (mkF m 69 #[.val (.long q1), .second, .val (.long q2), .second, .val (.long q3), .second, .val (.int p4), .val (.long (f_pickStep q2 p4)), .second, .val (.long (f_pickTime q1 p4)), .second, .val (.long (own_off q2 q3 p4)), .second, .val (.long (own_r q1 q2 q3 p4)), .second, .val (.long (own_m q1 q2 p4)), .second, .unset, .unset] [])) _
    refine XS.lload X5.here hx rfl (hb hby at_69) rfl ?_
    show Steps p.tables e below (T5.setTop (mkF m 71 #[.val (.long q1), .second, .val (.long q2), .second, .val (.long q3), .second, .val (.int p4), .val (.long (f_pickStep q2 p4)), .second, .val (.long (f_pickTime q1 p4)), .second, .val (.long (own_off q2 q3 p4)), .second, .val (.long (own_r q1 q2 q3 p4)), .second, .val (.long (own_m q1 q2 p4)), .second, .unset, .unset] [(.long (own_m q1 q2 p4))])) _
    refine XS.lload X5.here hx rfl (hb hby at_71) rfl ?_
    show Steps p.tables e below (T5.setTop (mkF m 73 #[.val (.long q1), .second, .val (.long q2), .second, .val (.long q3), .second, .val (.int p4), .val (.long (f_pickStep q2 p4)), .second, .val (.long (f_pickTime q1 p4)), .second, .val (.long (own_off q2 q3 p4)), .second, .val (.long (own_r q1 q2 q3 p4)), .second, .val (.long (own_m q1 q2 p4)), .second, .unset, .unset] [(.long (f_pickStep q2 p4)), (.long (own_m q1 q2 p4))])) _
    refine XS.ladd X5.here hx rfl (hb hby at_73) rfl ?_
    show Steps p.tables e below (T5.setTop (mkF m 74 #[.val (.long q1), .second, .val (.long q2), .second, .val (.long q3), .second, .val (.int p4), .val (.long (f_pickStep q2 p4)), .second, .val (.long (f_pickTime q1 p4)), .second, .val (.long (own_off q2 q3 p4)), .second, .val (.long (own_r q1 q2 q3 p4)), .second, .val (.long (own_m q1 q2 p4)), .second, .unset, .unset] [(.long ((own_m q1 q2 p4) + (f_pickStep q2 p4)))])) _
    refine XS.lstore X5.here hx rfl (hb hby at_74) rfl (l' := #[.val (.long q1), .second, .val (.long q2), .second, .val (.long q3), .second, .val (.int p4), .val (.long (f_pickStep q2 p4)), .second, .val (.long (f_pickTime q1 p4)), .second, .val (.long (own_off q2 q3 p4)), .second, .val (.long (own_r q1 q2 q3 p4)), .second, .val (.long ((own_m q1 q2 p4) + (f_pickStep q2 p4))), .second, .unset, .unset]) rfl ?_
    show Steps p.tables e below (T5.setTop (mkF m 76 #[.val (.long q1), .second, .val (.long q2), .second, .val (.long q3), .second, .val (.int p4), .val (.long (f_pickStep q2 p4)), .second, .val (.long (f_pickTime q1 p4)), .second, .val (.long (own_off q2 q3 p4)), .second, .val (.long (own_r q1 q2 q3 p4)), .second, .val (.long ((own_m q1 q2 p4) + (f_pickStep q2 p4))), .second, .unset, .unset] [])) _
    refine XS.lload X5.here hx rfl (hb hby at_76) rfl ?_
    show Steps p.tables e below (T5.setTop (mkF m 78 #[.val (.long q1), .second, .val (.long q2), .second, .val (.long q3), .second, .val (.int p4), .val (.long (f_pickStep q2 p4)), .second, .val (.long (f_pickTime q1 p4)), .second, .val (.long (own_off q2 q3 p4)), .second, .val (.long (own_r q1 q2 q3 p4)), .second, .val (.long ((own_m q1 q2 p4) + (f_pickStep q2 p4))), .second, .unset, .unset] [(.long ((own_m q1 q2 p4) + (f_pickStep q2 p4)))])) _
    refine XS.lload X5.here hx rfl (hb hby at_78) rfl ?_
    show Steps p.tables e below (T5.setTop (mkF m 80 #[.val (.long q1), .second, .val (.long q2), .second, .val (.long q3), .second, .val (.int p4), .val (.long (f_pickStep q2 p4)), .second, .val (.long (f_pickTime q1 p4)), .second, .val (.long (own_off q2 q3 p4)), .second, .val (.long (own_r q1 q2 q3 p4)), .second, .val (.long ((own_m q1 q2 p4) + (f_pickStep q2 p4))), .second, .unset, .unset] [(.long (own_r q1 q2 q3 p4)), (.long ((own_m q1 q2 p4) + (f_pickStep q2 p4)))])) _
    refine XS.lsub X5.here hx rfl (hb hby at_80) rfl ?_
    show Steps p.tables e below (T5.setTop (mkF m 81 #[.val (.long q1), .second, .val (.long q2), .second, .val (.long q3), .second, .val (.int p4), .val (.long (f_pickStep q2 p4)), .second, .val (.long (f_pickTime q1 p4)), .second, .val (.long (own_off q2 q3 p4)), .second, .val (.long (own_r q1 q2 q3 p4)), .second, .val (.long ((own_m q1 q2 p4) + (f_pickStep q2 p4))), .second, .unset, .unset] [(.long (((own_m q1 q2 p4) + (f_pickStep q2 p4)) - (own_r q1 q2 q3 p4)))])) _
    refine XS.lstore X5.here hx rfl (hb hby at_81) rfl (l' := #[.val (.long q1), .second, .val (.long q2), .second, .val (.long q3), .second, .val (.int p4), .val (.long (f_pickStep q2 p4)), .second, .val (.long (f_pickTime q1 p4)), .second, .val (.long (own_off q2 q3 p4)), .second, .val (.long (own_r q1 q2 q3 p4)), .second, .val (.long ((own_m q1 q2 p4) + (f_pickStep q2 p4))), .second, .val (.long (((own_m q1 q2 p4) + (f_pickStep q2 p4)) - (own_r q1 q2 q3 p4))), .second]) rfl ?_
    show Steps p.tables e below (T5.setTop (mkF m 83 #[.val (.long q1), .second, .val (.long q2), .second, .val (.long q3), .second, .val (.int p4), .val (.long (f_pickStep q2 p4)), .second, .val (.long (f_pickTime q1 p4)), .second, .val (.long (own_off q2 q3 p4)), .second, .val (.long (own_r q1 q2 q3 p4)), .second, .val (.long ((own_m q1 q2 p4) + (f_pickStep q2 p4))), .second, .val (.long (((own_m q1 q2 p4) + (f_pickStep q2 p4)) - (own_r q1 q2 q3 p4))), .second] [])) _
    refine XS.lload X5.here hx rfl (hb hby at_83) rfl ?_
    show Steps p.tables e below (T5.setTop (mkF m 85 #[.val (.long q1), .second, .val (.long q2), .second, .val (.long q3), .second, .val (.int p4), .val (.long (f_pickStep q2 p4)), .second, .val (.long (f_pickTime q1 p4)), .second, .val (.long (own_off q2 q3 p4)), .second, .val (.long (own_r q1 q2 q3 p4)), .second, .val (.long ((own_m q1 q2 p4) + (f_pickStep q2 p4))), .second, .val (.long (((own_m q1 q2 p4) + (f_pickStep q2 p4)) - (own_r q1 q2 q3 p4))), .second] [(.long (((own_m q1 q2 p4) + (f_pickStep q2 p4)) - (own_r q1 q2 q3 p4)))])) _
    refine XS.lload X5.here hx rfl (hb hby at_85) rfl ?_
    show Steps p.tables e below (T5.setTop (mkF m 87 #[.val (.long q1), .second, .val (.long q2), .second, .val (.long q3), .second, .val (.int p4), .val (.long (f_pickStep q2 p4)), .second, .val (.long (f_pickTime q1 p4)), .second, .val (.long (own_off q2 q3 p4)), .second, .val (.long (own_r q1 q2 q3 p4)), .second, .val (.long ((own_m q1 q2 p4) + (f_pickStep q2 p4))), .second, .val (.long (((own_m q1 q2 p4) + (f_pickStep q2 p4)) - (own_r q1 q2 q3 p4))), .second] [(.long (own_off q2 q3 p4)), (.long (((own_m q1 q2 p4) + (f_pickStep q2 p4)) - (own_r q1 q2 q3 p4)))])) _
    refine XS.lcmp X5.here hx rfl (hb hby at_87) rfl ?_
    show Steps p.tables e below (T5.setTop (mkF m 88 #[.val (.long q1), .second, .val (.long q2), .second, .val (.long q3), .second, .val (.int p4), .val (.long (f_pickStep q2 p4)), .second, .val (.long (f_pickTime q1 p4)), .second, .val (.long (own_off q2 q3 p4)), .second, .val (.long (own_r q1 q2 q3 p4)), .second, .val (.long ((own_m q1 q2 p4) + (f_pickStep q2 p4))), .second, .val (.long (((own_m q1 q2 p4) + (f_pickStep q2 p4)) - (own_r q1 q2 q3 p4))), .second] [(.int (lcmpW (((own_m q1 q2 p4) + (f_pickStep q2 p4)) - (own_r q1 q2 q3 p4)) (own_off q2 q3 p4)))])) _
    refine XS.ifNo X5.here hx rfl (hb hby at_88) rfl ((if0 _ _).trans (teq ((lw_eq _ _).mpr (hc3 : (((own_m q1 q2 p4) + (f_pickStep q2 p4)) - (own_r q1 q2 q3 p4)) = (own_off q2 q3 p4)))).2) ?_
    show Steps p.tables e below (T5.setTop (mkF m 91 #[.val (.long q1), .second, .val (.long q2), .second, .val (.long q3), .second, .val (.int p4), .val (.long (f_pickStep q2 p4)), .second, .val (.long (f_pickTime q1 p4)), .second, .val (.long (own_off q2 q3 p4)), .second, .val (.long (own_r q1 q2 q3 p4)), .second, .val (.long ((own_m q1 q2 p4) + (f_pickStep q2 p4))), .second, .val (.long (((own_m q1 q2 p4) + (f_pickStep q2 p4)) - (own_r q1 q2 q3 p4))), .second] [])) _
    refine XS.iconst X5.here hx rfl (hb hby at_91) ?_
    show Steps p.tables e below (T5.setTop (mkF m 92 #[.val (.long q1), .second, .val (.long q2), .second, .val (.long q3), .second, .val (.int p4), .val (.long (f_pickStep q2 p4)), .second, .val (.long (f_pickTime q1 p4)), .second, .val (.long (own_off q2 q3 p4)), .second, .val (.long (own_r q1 q2 q3 p4)), .second, .val (.long ((own_m q1 q2 p4) + (f_pickStep q2 p4))), .second, .val (.long (((own_m q1 q2 p4) + (f_pickStep q2 p4)) - (own_r q1 q2 q3 p4))), .second] [(.int (1 : Int32))])) _
    exact retN X5 hx (t := .boolean) Bd.returns (by simp) (hb hby at_92) hr
  · show Q_law Z q1 q2 q3 p4 h0 n0 _ T5.heap _
    rw [e5]
    exact ⟨rfl, N6⟩
def Road_ftftff (q1 : Int64) (q2 : Int64) (q3 : Int64) (p4 : Int32) : Prop := (¬ ((f_pickStep q2 p4) = (0 : Int64))) ∧ (¬ ((own_r q1 q2 q3 p4) < (0 : Int64))) ∧ ((own_r q1 q2 q3 p4) < (f_pickStep q2 p4)) ∧ ((own_m q1 q2 p4) < (0 : Int64)) ∧ (¬ ((((own_m q1 q2 p4) + (f_pickStep q2 p4)) - (own_r q1 q2 q3 p4)) = (own_off q2 q3 p4))) ∧ ((((own_m q1 q2 p4) + (f_pickStep q2 p4)) - (own_r q1 q2 q3 p4)) < (0 : Int64)) ∧ (((((own_m q1 q2 p4) + (f_pickStep q2 p4)) - (own_r q1 q2 q3 p4)) + (f_pickStep q2 p4)) = (own_off q2 q3 p4))
set_option maxRecDepth 65536 in
set_option maxHeartbeats 40000000 in
theorem rm_law_ftftff (l : Launch) (Z : State) (a0 : Array Value) (hw : ∀ d ∈ tables_1, d.before a0 Z = true) (ws : List Jvm.Cond) (q1 : Int64) (q2 : Int64) (q3 : Int64) (p4 : Int32) (h0 : Heap) (n0 : Nat) (Z0 : n0 ≤ h0.size) (hroad : Road_ftftff q1 q2 q3 p4) :
    MetFree l x (head1 (Jvm.Cond.code x code maxLocals ret :: ws) room_1) (fun a U => a = #[(.long q1), (.long q2), (.long q3), (.int p4)] ∧ Z.Warmed39 U.vm ∧ U.heap = h0) (fun _ _ _ _ _ => True) (fun _ U o U' => ∃ v L, o = .returned v ∧ Q_law Z q1 q2 q3 p4 h0 n0 v U'.heap L ∧ FrameEnd U o U' L room_1.cells room_1.slots) := by
  obtain ⟨hnz0, hc0, hc1, hc2, hc3, hc4, hc5⟩ := hroad
  refine MetFree.of_bodySF (plainFor_of_name pn_org_everroll_InstantsIntoStepPinLaw) hisR ?_
  intro p e s m args below meth c s₁ Bd hml0 hP hK
  obtain ⟨rfl, hZ, hh⟩ := hP
  have hx := Bd.exec
  have hby := Bd.bytes
  have hml : c.maxLocals = 19 := hml0
  have hown : s.vm.findClass "org/everroll/InstantsIntoStepPinLaw" = some m.cls := findClass_of_methodNamed Bd.named
  have hnm := (name_of_methodNamed Bd.named Bd.method).1
  have X0 : Stand p l e room_1 s m #[(.long q1), (.long q2), (.long q3), (.int p4)] below meth c s₁ [] 0 0 := Stand.of_body Bd
  have e0 : s₁.heap = h0 := by rw [← hh, Bd.state]; rfl
  have N0 := Fr.nil n0
  have pre0 : ∀ t, Steps p.tables e below (s₁.setTop (mkF m 0 #[.val (.long q1), .second, .val (.long q2), .second, .val (.long q3), .second, .val (.int p4), .unset, .unset, .unset, .unset, .unset, .unset, .unset, .unset, .unset, .unset, .unset, .unset] [])) t → Steps p.tables e below (s₁.setTop (entryFrame m #[(.long q1), (.long q2), (.long q3), (.int p4)] maxLocals)) t := fun t k => castTop (ef_0_JJJI m q1 q2 q3 p4) k
  obtain ⟨_, _, ⟨T1, L1, k1, n1⟩, -, X1, ⟨Lc1, hQ1, l1, y1, z1⟩, st1⟩ := Jvm.LawKit.callS X0 hx (y := (⟨"org/everroll/InstantsIntoStepPinLaw", "pickStep", "(JI)J"⟩ : MethodName)) hown (mvT hZ (hw _ (List.mem_of_getElem? (i := 0) rfl))) (mvT hZ (hw _ (List.mem_of_getElem? (i := 1) rfl))) (mvT hZ (hw _ (List.mem_of_getElem? (i := 2) rfl))) (mvT hZ (hw _ (List.mem_of_getElem? (i := 3) rfl))) (by decide) (backOf (W := 0) (rm_pickStep l Z a0 hw [] q2 p4 h0 n0 Z0 ) hZ (hw _ (List.mem_of_getElem? (i := 3) rfl)) (hw _ (List.mem_of_getElem? (i := 2) rfl)) (by decide) (by decide)) (g := (mkF m 3 #[.val (.long q1), .second, .val (.long q2), .second, .val (.long q3), .second, .val (.int p4), .unset, .unset, .unset, .unset, .unset, .unset, .unset, .unset, .unset, .unset, .unset, .unset] [(.int p4), (.long q2)])) rfl (by rw [hml]; rfl) (argsL := [(.long q2), (.int p4)]) (rest := []) (lenOf pd_1 rfl) rfl (by show 2 * 0 + _ ≤ _; exact Nat.le_of_eq rfl) (hb hby at_3) (fun _ _ => ⟨rfl, e0, (by decide : 0 + 0 ≤ _), (by decide : 0 + 0 ≤ _)⟩)
  dsimp only [Pt.U, Pt.locs, Pt.cells, Pt.slots] at X1 l1 y1 z1 st1 hQ1
  subst l1 y1 z1
  obtain ⟨rfl, Nq1, e1⟩ := hQ1
  have N2 := Fr.app N0 Nq1
  obtain ⟨_, _, ⟨T3, L3, k3, n3⟩, -, X3, ⟨Lc3, hQ3, l3, y3, z3⟩, st3⟩ := Jvm.LawKit.callS X1 hx (y := (⟨"org/everroll/InstantsIntoStepPinLaw", "pickTime", "(JI)J"⟩ : MethodName)) hown (mvT hZ (hw _ (List.mem_of_getElem? (i := 5) rfl))) (mvT hZ (hw _ (List.mem_of_getElem? (i := 6) rfl))) (mvT hZ (hw _ (List.mem_of_getElem? (i := 2) rfl))) (mvT hZ (hw _ (List.mem_of_getElem? (i := 7) rfl))) (by decide) (backOf (W := 0) (rm_pickTime l Z a0 hw [] q1 p4 h0 n0 Z0 ) hZ (hw _ (List.mem_of_getElem? (i := 7) rfl)) (hw _ (List.mem_of_getElem? (i := 2) rfl)) (by decide) (by decide)) (g := (mkF m 11 #[.val (.long q1), .second, .val (.long q2), .second, .val (.long q3), .second, .val (.int p4), .val (.long (f_pickStep q2 p4)), .second, .unset, .unset, .unset, .unset, .unset, .unset, .unset, .unset, .unset, .unset] [(.int p4), (.long q1)])) rfl (by rw [hml]; rfl) (argsL := [(.long q1), (.int p4)]) (rest := []) (lenOf pd_1 rfl) rfl (by show 2 * 0 + _ ≤ _; exact Nat.le_of_eq rfl) (hb hby at_11) (fun _ _ => ⟨rfl, e1, (by decide : 0 + 0 ≤ _), (by decide : 0 + 0 ≤ _)⟩)
  dsimp only [Pt.U, Pt.locs, Pt.cells, Pt.slots] at X3 l3 y3 z3 st3 hQ3
  subst l3 y3 z3
  obtain ⟨rfl, Nq3, e3⟩ := hQ3
  have N4 := Fr.app N2 Nq3
  obtain ⟨_, _, ⟨T5, L5, k5, n5⟩, -, X5, ⟨Lc5, hQ5, l5, y5, z5⟩, st5⟩ := Jvm.LawKit.callS X3 hx (y := (⟨"org/everroll/Instants", "intoStep", "(JJJ)J"⟩ : MethodName)) hown (mvT hZ (hw _ (List.mem_of_getElem? (i := 8) rfl))) (mvT hZ (hw _ (List.mem_of_getElem? (i := 9) rfl))) (mvT hZ (hw _ (List.mem_of_getElem? (i := 10) rfl))) (mvT hZ (hw _ (List.mem_of_getElem? (i := 11) rfl))) (by decide) (backOf (W := 0) (rm_into l Z a0 hw [] (f_pickTime q1 p4) (f_pickStep q2 p4) (own_off q2 q3 p4) h0 n0 Z0 hnz0) hZ (hw _ (List.mem_of_getElem? (i := 11) rfl)) (hw _ (List.mem_of_getElem? (i := 10) rfl)) (by decide) (by decide)) (g := (mkF m 33 #[.val (.long q1), .second, .val (.long q2), .second, .val (.long q3), .second, .val (.int p4), .val (.long (f_pickStep q2 p4)), .second, .val (.long (f_pickTime q1 p4)), .second, .val (.long (own_off q2 q3 p4)), .second, .unset, .unset, .unset, .unset, .unset, .unset] [(.long (own_off q2 q3 p4)), (.long (f_pickStep q2 p4)), (.long (f_pickTime q1 p4))])) rfl (by rw [hml]; rfl) (argsL := [(.long (f_pickTime q1 p4)), (.long (f_pickStep q2 p4)), (.long (own_off q2 q3 p4))]) (rest := []) (lenOf pd_2 rfl) rfl (by show 2 * 0 + _ ≤ _; exact Nat.le_of_eq rfl) (hb hby at_33) (fun _ _ => ⟨rfl, e3, (by decide : 0 + 0 ≤ _), (by decide : 0 + 0 ≤ _)⟩)
  dsimp only [Pt.U, Pt.locs, Pt.cells, Pt.slots] at X5 l5 y5 z5 st5 hQ5
  subst l5 y5 z5
  obtain ⟨rfl, Nq5, e5⟩ := hQ5
  have N6 := Fr.app N4 Nq5
  obtain ⟨fs, hr, hrun, hended, hW, hsame⟩ := X5.leave (v := some (.int (1 : Int32))) (fun h => by rw [Bd.returns] at h; cases h) Bd.notSynchronized
  refine ⟨_, _, pre0 _ ?_, hrun, hended, _, _, rfl, ?_, ⟨_, rfl⟩, hW, hsame.mono (by decide) (by decide)⟩
  · show Steps p.tables e below (s₁.setTop (mkF m 0 #[.val (.long q1), .second, .val (.long q2), .second, .val (.long q3), .second, .val (.int p4), .unset, .unset, .unset, .unset, .unset, .unset, .unset, .unset, .unset, .unset, .unset, .unset] [])) _
    refine XS.lloadN X0.here hx rfl (hb hby at_0) rfl ?_
    show Steps p.tables e below (s₁.setTop (mkF m 1 #[.val (.long q1), .second, .val (.long q2), .second, .val (.long q3), .second, .val (.int p4), .unset, .unset, .unset, .unset, .unset, .unset, .unset, .unset, .unset, .unset, .unset, .unset] [(.long q2)])) _
    refine XS.iload X0.here hx rfl (hb hby at_1) rfl ?_
    show Steps p.tables e below (s₁.setTop (mkF m 3 #[.val (.long q1), .second, .val (.long q2), .second, .val (.long q3), .second, .val (.int p4), .unset, .unset, .unset, .unset, .unset, .unset, .unset, .unset, .unset, .unset, .unset, .unset] [(.int p4), (.long q2)])) _
    refine st1 _ ?_
    show Steps p.tables e below (T1.setTop (mkF m 6 #[.val (.long q1), .second, .val (.long q2), .second, .val (.long q3), .second, .val (.int p4), .unset, .unset, .unset, .unset, .unset, .unset, .unset, .unset, .unset, .unset, .unset, .unset] [(.long (f_pickStep q2 p4))])) _
    refine XS.lstore X1.here hx rfl (hb hby at_6) rfl (l' := #[.val (.long q1), .second, .val (.long q2), .second, .val (.long q3), .second, .val (.int p4), .val (.long (f_pickStep q2 p4)), .second, .unset, .unset, .unset, .unset, .unset, .unset, .unset, .unset, .unset, .unset]) rfl ?_
    show Steps p.tables e below (T1.setTop (mkF m 8 #[.val (.long q1), .second, .val (.long q2), .second, .val (.long q3), .second, .val (.int p4), .val (.long (f_pickStep q2 p4)), .second, .unset, .unset, .unset, .unset, .unset, .unset, .unset, .unset, .unset, .unset] [])) _
    refine XS.lloadN X1.here hx rfl (hb hby at_8) rfl ?_
    show Steps p.tables e below (T1.setTop (mkF m 9 #[.val (.long q1), .second, .val (.long q2), .second, .val (.long q3), .second, .val (.int p4), .val (.long (f_pickStep q2 p4)), .second, .unset, .unset, .unset, .unset, .unset, .unset, .unset, .unset, .unset, .unset] [(.long q1)])) _
    refine XS.iload X1.here hx rfl (hb hby at_9) rfl ?_
    show Steps p.tables e below (T1.setTop (mkF m 11 #[.val (.long q1), .second, .val (.long q2), .second, .val (.long q3), .second, .val (.int p4), .val (.long (f_pickStep q2 p4)), .second, .unset, .unset, .unset, .unset, .unset, .unset, .unset, .unset, .unset, .unset] [(.int p4), (.long q1)])) _
    refine st3 _ ?_
    show Steps p.tables e below (T3.setTop (mkF m 14 #[.val (.long q1), .second, .val (.long q2), .second, .val (.long q3), .second, .val (.int p4), .val (.long (f_pickStep q2 p4)), .second, .unset, .unset, .unset, .unset, .unset, .unset, .unset, .unset, .unset, .unset] [(.long (f_pickTime q1 p4))])) _
    refine XS.lstore X3.here hx rfl (hb hby at_14) rfl (l' := #[.val (.long q1), .second, .val (.long q2), .second, .val (.long q3), .second, .val (.int p4), .val (.long (f_pickStep q2 p4)), .second, .val (.long (f_pickTime q1 p4)), .second, .unset, .unset, .unset, .unset, .unset, .unset, .unset, .unset]) rfl ?_
    show Steps p.tables e below (T3.setTop (mkF m 16 #[.val (.long q1), .second, .val (.long q2), .second, .val (.long q3), .second, .val (.int p4), .val (.long (f_pickStep q2 p4)), .second, .val (.long (f_pickTime q1 p4)), .second, .unset, .unset, .unset, .unset, .unset, .unset, .unset, .unset] [])) _
    refine XS.lload X3.here hx rfl (hb hby at_16) rfl ?_
    show Steps p.tables e below (T3.setTop (mkF m 18 #[.val (.long q1), .second, .val (.long q2), .second, .val (.long q3), .second, .val (.int p4), .val (.long (f_pickStep q2 p4)), .second, .val (.long (f_pickTime q1 p4)), .second, .unset, .unset, .unset, .unset, .unset, .unset, .unset, .unset] [(.long q3)])) _
    refine X3.ldc2Long hx hown (mvT hZ (hw _ (List.mem_of_getElem? (i := 4) rfl))) (g := (mkF m 18 #[.val (.long q1), .second, .val (.long q2), .second, .val (.long q3), .second, .val (.int p4), .val (.long (f_pickStep q2 p4)), .second, .val (.long (f_pickTime q1 p4)), .second, .unset, .unset, .unset, .unset, .unset, .unset, .unset, .unset] [(.long q3)])) rfl (hb hby at_18) _ ?_
    show Steps p.tables e below (T3.setTop (mkF m 21 #[.val (.long q1), .second, .val (.long q2), .second, .val (.long q3), .second, .val (.int p4), .val (.long (f_pickStep q2 p4)), .second, .val (.long (f_pickTime q1 p4)), .second, .unset, .unset, .unset, .unset, .unset, .unset, .unset, .unset] [(.long (9223372036854775807 : Int64)), (.long q3)])) _
    refine XS.land X3.here hx rfl (hb hby at_21) rfl ?_
    show Steps p.tables e below (T3.setTop (mkF m 22 #[.val (.long q1), .second, .val (.long q2), .second, .val (.long q3), .second, .val (.int p4), .val (.long (f_pickStep q2 p4)), .second, .val (.long (f_pickTime q1 p4)), .second, .unset, .unset, .unset, .unset, .unset, .unset, .unset, .unset] [(.long (q3 &&& (9223372036854775807 : Int64)))])) _
    refine XS.lload X3.here hx rfl (hb hby at_22) rfl ?_
    show Steps p.tables e below (T3.setTop (mkF m 24 #[.val (.long q1), .second, .val (.long q2), .second, .val (.long q3), .second, .val (.int p4), .val (.long (f_pickStep q2 p4)), .second, .val (.long (f_pickTime q1 p4)), .second, .unset, .unset, .unset, .unset, .unset, .unset, .unset, .unset] [(.long (f_pickStep q2 p4)), (.long (q3 &&& (9223372036854775807 : Int64)))])) _
    refine XS.lrem X3.here hx rfl (hb hby at_24) rfl hnz0 ?_
    rw [lrem_mod]
    show Steps p.tables e below (T3.setTop (mkF m 25 #[.val (.long q1), .second, .val (.long q2), .second, .val (.long q3), .second, .val (.int p4), .val (.long (f_pickStep q2 p4)), .second, .val (.long (f_pickTime q1 p4)), .second, .unset, .unset, .unset, .unset, .unset, .unset, .unset, .unset] [(.long ((q3 &&& (9223372036854775807 : Int64)) % (f_pickStep q2 p4)))])) _
    refine XS.lstore X3.here hx rfl (hb hby at_25) rfl (l' := #[.val (.long q1), .second, .val (.long q2), .second, .val (.long q3), .second, .val (.int p4), .val (.long (f_pickStep q2 p4)), .second, .val (.long (f_pickTime q1 p4)), .second, .val (.long (own_off q2 q3 p4)), .second, .unset, .unset, .unset, .unset, .unset, .unset]) rfl ?_
    show Steps p.tables e below (T3.setTop (mkF m 27 #[.val (.long q1), .second, .val (.long q2), .second, .val (.long q3), .second, .val (.int p4), .val (.long (f_pickStep q2 p4)), .second, .val (.long (f_pickTime q1 p4)), .second, .val (.long (own_off q2 q3 p4)), .second, .unset, .unset, .unset, .unset, .unset, .unset] [])) _
    refine XS.lload X3.here hx rfl (hb hby at_27) rfl ?_
    show Steps p.tables e below (T3.setTop (mkF m 29 #[.val (.long q1), .second, .val (.long q2), .second, .val (.long q3), .second, .val (.int p4), .val (.long (f_pickStep q2 p4)), .second, .val (.long (f_pickTime q1 p4)), .second, .val (.long (own_off q2 q3 p4)), .second, .unset, .unset, .unset, .unset, .unset, .unset] [(.long (f_pickTime q1 p4))])) _
    refine XS.lload X3.here hx rfl (hb hby at_29) rfl ?_
    show Steps p.tables e below (T3.setTop (mkF m 31 #[.val (.long q1), .second, .val (.long q2), .second, .val (.long q3), .second, .val (.int p4), .val (.long (f_pickStep q2 p4)), .second, .val (.long (f_pickTime q1 p4)), .second, .val (.long (own_off q2 q3 p4)), .second, .unset, .unset, .unset, .unset, .unset, .unset] [(.long (f_pickStep q2 p4)), (.long (f_pickTime q1 p4))])) _
    refine XS.lload X3.here hx rfl (hb hby at_31) rfl ?_
    show Steps p.tables e below (T3.setTop (mkF m 33 #[.val (.long q1), .second, .val (.long q2), .second, .val (.long q3), .second, .val (.int p4), .val (.long (f_pickStep q2 p4)), .second, .val (.long (f_pickTime q1 p4)), .second, .val (.long (own_off q2 q3 p4)), .second, .unset, .unset, .unset, .unset, .unset, .unset] [(.long (own_off q2 q3 p4)), (.long (f_pickStep q2 p4)), (.long (f_pickTime q1 p4))])) _
    refine st5 _ ?_
    show Steps p.tables e below (T5.setTop (mkF m 36 #[.val (.long q1), .second, .val (.long q2), .second, .val (.long q3), .second, .val (.int p4), .val (.long (f_pickStep q2 p4)), .second, .val (.long (f_pickTime q1 p4)), .second, .val (.long (own_off q2 q3 p4)), .second, .unset, .unset, .unset, .unset, .unset, .unset] [(.long (f_fmod ((f_fmod (f_pickTime q1 p4) (f_pickStep q2 p4)) - (own_off q2 q3 p4)) (f_pickStep q2 p4)))])) _
    refine XS.lstore X5.here hx rfl (hb hby at_36) rfl (l' := #[.val (.long q1), .second, .val (.long q2), .second, .val (.long q3), .second, .val (.int p4), .val (.long (f_pickStep q2 p4)), .second, .val (.long (f_pickTime q1 p4)), .second, .val (.long (own_off q2 q3 p4)), .second, .val (.long (own_r q1 q2 q3 p4)), .second, .unset, .unset, .unset, .unset]) rfl ?_
    show Steps p.tables e below (T5.setTop (mkF m 38 #[.val (.long q1), .second, .val (.long q2), .second, .val (.long q3), .second, .val (.int p4), .val (.long (f_pickStep q2 p4)), .second, .val (.long (f_pickTime q1 p4)), .second, .val (.long (own_off q2 q3 p4)), .second, .val (.long (own_r q1 q2 q3 p4)), .second, .unset, .unset, .unset, .unset] [])) _
    refine XS.lload X5.here hx rfl (hb hby at_38) rfl ?_
    show Steps p.tables e below (T5.setTop (mkF m 40 #[.val (.long q1), .second, .val (.long q2), .second, .val (.long q3), .second, .val (.int p4), .val (.long (f_pickStep q2 p4)), .second, .val (.long (f_pickTime q1 p4)), .second, .val (.long (own_off q2 q3 p4)), .second, .val (.long (own_r q1 q2 q3 p4)), .second, .unset, .unset, .unset, .unset] [(.long (own_r q1 q2 q3 p4))])) _
    refine XS.lconst X5.here hx rfl (hb hby at_40) ?_
    show Steps p.tables e below (T5.setTop (mkF m 41 #[.val (.long q1), .second, .val (.long q2), .second, .val (.long q3), .second, .val (.int p4), .val (.long (f_pickStep q2 p4)), .second, .val (.long (f_pickTime q1 p4)), .second, .val (.long (own_off q2 q3 p4)), .second, .val (.long (own_r q1 q2 q3 p4)), .second, .unset, .unset, .unset, .unset] [(.long (0 : Int64)), (.long (own_r q1 q2 q3 p4))])) _
    refine XS.lcmp X5.here hx rfl (hb hby at_41) rfl ?_
    show Steps p.tables e below (T5.setTop (mkF m 42 #[.val (.long q1), .second, .val (.long q2), .second, .val (.long q3), .second, .val (.int p4), .val (.long (f_pickStep q2 p4)), .second, .val (.long (f_pickTime q1 p4)), .second, .val (.long (own_off q2 q3 p4)), .second, .val (.long (own_r q1 q2 q3 p4)), .second, .unset, .unset, .unset, .unset] [(.int (lcmpW (own_r q1 q2 q3 p4) (0 : Int64)))])) _
    refine XS.ifNo X5.here hx rfl (hb hby at_42) rfl ((if0 _ _).trans (flt (fun q => (hc0 : ¬ ((own_r q1 q2 q3 p4) < (0 : Int64))) ((lw_lt _ _).mp q))).1) ?_
    show Steps p.tables e below (T5.setTop (mkF m 45 #[.val (.long q1), .second, .val (.long q2), .second, .val (.long q3), .second, .val (.int p4), .val (.long (f_pickStep q2 p4)), .second, .val (.long (f_pickTime q1 p4)), .second, .val (.long (own_off q2 q3 p4)), .second, .val (.long (own_r q1 q2 q3 p4)), .second, .unset, .unset, .unset, .unset] [])) _
    refine XS.lload X5.here hx rfl (hb hby at_45) rfl ?_
    show Steps p.tables e below (T5.setTop (mkF m 47 #[.val (.long q1), .second, .val (.long q2), .second, .val (.long q3), .second, .val (.int p4), .val (.long (f_pickStep q2 p4)), .second, .val (.long (f_pickTime q1 p4)), .second, .val (.long (own_off q2 q3 p4)), .second, .val (.long (own_r q1 q2 q3 p4)), .second, .unset, .unset, .unset, .unset] [(.long (own_r q1 q2 q3 p4))])) _
    refine XS.lload X5.here hx rfl (hb hby at_47) rfl ?_
    show Steps p.tables e below (T5.setTop (mkF m 49 #[.val (.long q1), .second, .val (.long q2), .second, .val (.long q3), .second, .val (.int p4), .val (.long (f_pickStep q2 p4)), .second, .val (.long (f_pickTime q1 p4)), .second, .val (.long (own_off q2 q3 p4)), .second, .val (.long (own_r q1 q2 q3 p4)), .second, .unset, .unset, .unset, .unset] [(.long (f_pickStep q2 p4)), (.long (own_r q1 q2 q3 p4))])) _
    refine XS.lcmp X5.here hx rfl (hb hby at_49) rfl ?_
    show Steps p.tables e below (T5.setTop (mkF m 50 #[.val (.long q1), .second, .val (.long q2), .second, .val (.long q3), .second, .val (.int p4), .val (.long (f_pickStep q2 p4)), .second, .val (.long (f_pickTime q1 p4)), .second, .val (.long (own_off q2 q3 p4)), .second, .val (.long (own_r q1 q2 q3 p4)), .second, .unset, .unset, .unset, .unset] [(.int (lcmpW (own_r q1 q2 q3 p4) (f_pickStep q2 p4)))])) _
    refine XS.ifYes X5.here hx rfl (pc0 := 50) (pc' := 55) rfl (hb hby at_50) rfl ((if0 _ _).trans (tlt ((lw_lt _ _).mpr (hc1 : (own_r q1 q2 q3 p4) < (f_pickStep q2 p4)))).1) (by decide) (by decide) ?_
    show Steps p.tables e below (T5.setTop (mkF m 55 #[.val (.long q1), .second, .val (.long q2), .second, .val (.long q3), .second, .val (.int p4), .val (.long (f_pickStep q2 p4)), .second, .val (.long (f_pickTime q1 p4)), .second, .val (.long (own_off q2 q3 p4)), .second, .val (.long (own_r q1 q2 q3 p4)), .second, .unset, .unset, .unset, .unset] [])) _
    refine XS.lload X5.here hx rfl (hb hby at_55) rfl ?_
    show Steps p.tables e below (T5.setTop (mkF m 57 #[.val (.long q1), .second, .val (.long q2), .second, .val (.long q3), .second, .val (.int p4), .val (.long (f_pickStep q2 p4)), .second, .val (.long (f_pickTime q1 p4)), .second, .val (.long (own_off q2 q3 p4)), .second, .val (.long (own_r q1 q2 q3 p4)), .second, .unset, .unset, .unset, .unset] [(.long (f_pickTime q1 p4))])) _
    refine XS.lload X5.here hx rfl (hb hby at_57) rfl ?_
    show Steps p.tables e below (T5.setTop (mkF m 59 #[.val (.long q1), .second, .val (.long q2), .second, .val (.long q3), .second, .val (.int p4), .val (.long (f_pickStep q2 p4)), .second, .val (.long (f_pickTime q1 p4)), .second, .val (.long (own_off q2 q3 p4)), .second, .val (.long (own_r q1 q2 q3 p4)), .second, .unset, .unset, .unset, .unset] [(.long (f_pickStep q2 p4)), (.long (f_pickTime q1 p4))])) _
    refine XS.lrem X5.here hx rfl (hb hby at_59) rfl hnz0 ?_
    rw [lrem_mod]
    show Steps p.tables e below (T5.setTop (mkF m 60 #[.val (.long q1), .second, .val (.long q2), .second, .val (.long q3), .second, .val (.int p4), .val (.long (f_pickStep q2 p4)), .second, .val (.long (f_pickTime q1 p4)), .second, .val (.long (own_off q2 q3 p4)), .second, .val (.long (own_r q1 q2 q3 p4)), .second, .unset, .unset, .unset, .unset] [(.long ((f_pickTime q1 p4) % (f_pickStep q2 p4)))])) _
    refine XS.lstore X5.here hx rfl (hb hby at_60) rfl (l' := #[.val (.long q1), .second, .val (.long q2), .second, .val (.long q3), .second, .val (.int p4), .val (.long (f_pickStep q2 p4)), .second, .val (.long (f_pickTime q1 p4)), .second, .val (.long (own_off q2 q3 p4)), .second, .val (.long (own_r q1 q2 q3 p4)), .second, .val (.long (own_m q1 q2 p4)), .second, .unset, .unset]) rfl ?_
    show Steps p.tables e below (T5.setTop (mkF m 62 #[.val (.long q1), .second, .val (.long q2), .second, .val (.long q3), .second, .val (.int p4), .val (.long (f_pickStep q2 p4)), .second, .val (.long (f_pickTime q1 p4)), .second, .val (.long (own_off q2 q3 p4)), .second, .val (.long (own_r q1 q2 q3 p4)), .second, .val (.long (own_m q1 q2 p4)), .second, .unset, .unset] [])) _
    refine XS.lload X5.here hx rfl (hb hby at_62) rfl ?_
    show Steps p.tables e below (T5.setTop (mkF m 64 #[.val (.long q1), .second, .val (.long q2), .second, .val (.long q3), .second, .val (.int p4), .val (.long (f_pickStep q2 p4)), .second, .val (.long (f_pickTime q1 p4)), .second, .val (.long (own_off q2 q3 p4)), .second, .val (.long (own_r q1 q2 q3 p4)), .second, .val (.long (own_m q1 q2 p4)), .second, .unset, .unset] [(.long (own_m q1 q2 p4))])) _
    refine XS.lconst X5.here hx rfl (hb hby at_64) ?_
    show Steps p.tables e below (T5.setTop (mkF m 65 #[.val (.long q1), .second, .val (.long q2), .second, .val (.long q3), .second, .val (.int p4), .val (.long (f_pickStep q2 p4)), .second, .val (.long (f_pickTime q1 p4)), .second, .val (.long (own_off q2 q3 p4)), .second, .val (.long (own_r q1 q2 q3 p4)), .second, .val (.long (own_m q1 q2 p4)), .second, .unset, .unset] [(.long (0 : Int64)), (.long (own_m q1 q2 p4))])) _
    refine XS.lcmp X5.here hx rfl (hb hby at_65) rfl ?_
    show Steps p.tables e below (T5.setTop (mkF m 66 #[.val (.long q1), .second, .val (.long q2), .second, .val (.long q3), .second, .val (.int p4), .val (.long (f_pickStep q2 p4)), .second, .val (.long (f_pickTime q1 p4)), .second, .val (.long (own_off q2 q3 p4)), .second, .val (.long (own_r q1 q2 q3 p4)), .second, .val (.long (own_m q1 q2 p4)), .second, .unset, .unset] [(.int (lcmpW (own_m q1 q2 p4) (0 : Int64)))])) _
    refine XS.ifNo X5.here hx rfl (hb hby at_66) rfl ((if0 _ _).trans (tlt ((lw_lt _ _).mpr (hc2 : (own_m q1 q2 p4) < (0 : Int64)))).2.1) ?_
    show Steps p.tables e below (T5.setTop (mkF m 69 #[.val (.long q1), .second, .val (.long q2), .second, .val (.long q3), .second, .val (.int p4), .val (.long (f_pickStep q2 p4)), .second, .val (.long (f_pickTime q1 p4)), .second, .val (.long (own_off q2 q3 p4)), .second, .val (.long (own_r q1 q2 q3 p4)), .second, .val (.long (own_m q1 q2 p4)), .second, .unset, .unset] [])) _
    refine XS.lload X5.here hx rfl (hb hby at_69) rfl ?_
    show Steps p.tables e below (T5.setTop (mkF m 71 #[.val (.long q1), .second, .val (.long q2), .second, .val (.long q3), .second, .val (.int p4), .val (.long (f_pickStep q2 p4)), .second, .val (.long (f_pickTime q1 p4)), .second, .val (.long (own_off q2 q3 p4)), .second, .val (.long (own_r q1 q2 q3 p4)), .second, .val (.long (own_m q1 q2 p4)), .second, .unset, .unset] [(.long (own_m q1 q2 p4))])) _
    refine XS.lload X5.here hx rfl (hb hby at_71) rfl ?_
    show Steps p.tables e below (T5.setTop (mkF m 73 #[.val (.long q1), .second, .val (.long q2), .second, .val (.long q3), .second, .val (.int p4), .val (.long (f_pickStep q2 p4)), .second, .val (.long (f_pickTime q1 p4)), .second, .val (.long (own_off q2 q3 p4)), .second, .val (.long (own_r q1 q2 q3 p4)), .second, .val (.long (own_m q1 q2 p4)), .second, .unset, .unset] [(.long (f_pickStep q2 p4)), (.long (own_m q1 q2 p4))])) _
    refine XS.ladd X5.here hx rfl (hb hby at_73) rfl ?_
    show Steps p.tables e below (T5.setTop (mkF m 74 #[.val (.long q1), .second, .val (.long q2), .second, .val (.long q3), .second, .val (.int p4), .val (.long (f_pickStep q2 p4)), .second, .val (.long (f_pickTime q1 p4)), .second, .val (.long (own_off q2 q3 p4)), .second, .val (.long (own_r q1 q2 q3 p4)), .second, .val (.long (own_m q1 q2 p4)), .second, .unset, .unset] [(.long ((own_m q1 q2 p4) + (f_pickStep q2 p4)))])) _
    refine XS.lstore X5.here hx rfl (hb hby at_74) rfl (l' := #[.val (.long q1), .second, .val (.long q2), .second, .val (.long q3), .second, .val (.int p4), .val (.long (f_pickStep q2 p4)), .second, .val (.long (f_pickTime q1 p4)), .second, .val (.long (own_off q2 q3 p4)), .second, .val (.long (own_r q1 q2 q3 p4)), .second, .val (.long ((own_m q1 q2 p4) + (f_pickStep q2 p4))), .second, .unset, .unset]) rfl ?_
    show Steps p.tables e below (T5.setTop (mkF m 76 #[.val (.long q1), .second, .val (.long q2), .second, .val (.long q3), .second, .val (.int p4), .val (.long (f_pickStep q2 p4)), .second, .val (.long (f_pickTime q1 p4)), .second, .val (.long (own_off q2 q3 p4)), .second, .val (.long (own_r q1 q2 q3 p4)), .second, .val (.long ((own_m q1 q2 p4) + (f_pickStep q2 p4))), .second, .unset, .unset] [])) _
    refine XS.lload X5.here hx rfl (hb hby at_76) rfl ?_
    show Steps p.tables e below (T5.setTop (mkF m 78 #[.val (.long q1), .second, .val (.long q2), .second, .val (.long q3), .second, .val (.int p4), .val (.long (f_pickStep q2 p4)), .second, .val (.long (f_pickTime q1 p4)), .second, .val (.long (own_off q2 q3 p4)), .second, .val (.long (own_r q1 q2 q3 p4)), .second, .val (.long ((own_m q1 q2 p4) + (f_pickStep q2 p4))), .second, .unset, .unset] [(.long ((own_m q1 q2 p4) + (f_pickStep q2 p4)))])) _
    refine XS.lload X5.here hx rfl (hb hby at_78) rfl ?_
    show Steps p.tables e below (T5.setTop (mkF m 80 #[.val (.long q1), .second, .val (.long q2), .second, .val (.long q3), .second, .val (.int p4), .val (.long (f_pickStep q2 p4)), .second, .val (.long (f_pickTime q1 p4)), .second, .val (.long (own_off q2 q3 p4)), .second, .val (.long (own_r q1 q2 q3 p4)), .second, .val (.long ((own_m q1 q2 p4) + (f_pickStep q2 p4))), .second, .unset, .unset] [(.long (own_r q1 q2 q3 p4)), (.long ((own_m q1 q2 p4) + (f_pickStep q2 p4)))])) _
    refine XS.lsub X5.here hx rfl (hb hby at_80) rfl ?_
    show Steps p.tables e below (T5.setTop (mkF m 81 #[.val (.long q1), .second, .val (.long q2), .second, .val (.long q3), .second, .val (.int p4), .val (.long (f_pickStep q2 p4)), .second, .val (.long (f_pickTime q1 p4)), .second, .val (.long (own_off q2 q3 p4)), .second, .val (.long (own_r q1 q2 q3 p4)), .second, .val (.long ((own_m q1 q2 p4) + (f_pickStep q2 p4))), .second, .unset, .unset] [(.long (((own_m q1 q2 p4) + (f_pickStep q2 p4)) - (own_r q1 q2 q3 p4)))])) _
    refine XS.lstore X5.here hx rfl (hb hby at_81) rfl (l' := #[.val (.long q1), .second, .val (.long q2), .second, .val (.long q3), .second, .val (.int p4), .val (.long (f_pickStep q2 p4)), .second, .val (.long (f_pickTime q1 p4)), .second, .val (.long (own_off q2 q3 p4)), .second, .val (.long (own_r q1 q2 q3 p4)), .second, .val (.long ((own_m q1 q2 p4) + (f_pickStep q2 p4))), .second, .val (.long (((own_m q1 q2 p4) + (f_pickStep q2 p4)) - (own_r q1 q2 q3 p4))), .second]) rfl ?_
    show Steps p.tables e below (T5.setTop (mkF m 83 #[.val (.long q1), .second, .val (.long q2), .second, .val (.long q3), .second, .val (.int p4), .val (.long (f_pickStep q2 p4)), .second, .val (.long (f_pickTime q1 p4)), .second, .val (.long (own_off q2 q3 p4)), .second, .val (.long (own_r q1 q2 q3 p4)), .second, .val (.long ((own_m q1 q2 p4) + (f_pickStep q2 p4))), .second, .val (.long (((own_m q1 q2 p4) + (f_pickStep q2 p4)) - (own_r q1 q2 q3 p4))), .second] [])) _
    refine XS.lload X5.here hx rfl (hb hby at_83) rfl ?_
    show Steps p.tables e below (T5.setTop (mkF m 85 #[.val (.long q1), .second, .val (.long q2), .second, .val (.long q3), .second, .val (.int p4), .val (.long (f_pickStep q2 p4)), .second, .val (.long (f_pickTime q1 p4)), .second, .val (.long (own_off q2 q3 p4)), .second, .val (.long (own_r q1 q2 q3 p4)), .second, .val (.long ((own_m q1 q2 p4) + (f_pickStep q2 p4))), .second, .val (.long (((own_m q1 q2 p4) + (f_pickStep q2 p4)) - (own_r q1 q2 q3 p4))), .second] [(.long (((own_m q1 q2 p4) + (f_pickStep q2 p4)) - (own_r q1 q2 q3 p4)))])) _
    refine XS.lload X5.here hx rfl (hb hby at_85) rfl ?_
    show Steps p.tables e below (T5.setTop (mkF m 87 #[.val (.long q1), .second, .val (.long q2), .second, .val (.long q3), .second, .val (.int p4), .val (.long (f_pickStep q2 p4)), .second, .val (.long (f_pickTime q1 p4)), .second, .val (.long (own_off q2 q3 p4)), .second, .val (.long (own_r q1 q2 q3 p4)), .second, .val (.long ((own_m q1 q2 p4) + (f_pickStep q2 p4))), .second, .val (.long (((own_m q1 q2 p4) + (f_pickStep q2 p4)) - (own_r q1 q2 q3 p4))), .second] [(.long (own_off q2 q3 p4)), (.long (((own_m q1 q2 p4) + (f_pickStep q2 p4)) - (own_r q1 q2 q3 p4)))])) _
    refine XS.lcmp X5.here hx rfl (hb hby at_87) rfl ?_
    show Steps p.tables e below (T5.setTop (mkF m 88 #[.val (.long q1), .second, .val (.long q2), .second, .val (.long q3), .second, .val (.int p4), .val (.long (f_pickStep q2 p4)), .second, .val (.long (f_pickTime q1 p4)), .second, .val (.long (own_off q2 q3 p4)), .second, .val (.long (own_r q1 q2 q3 p4)), .second, .val (.long ((own_m q1 q2 p4) + (f_pickStep q2 p4))), .second, .val (.long (((own_m q1 q2 p4) + (f_pickStep q2 p4)) - (own_r q1 q2 q3 p4))), .second] [(.int (lcmpW (((own_m q1 q2 p4) + (f_pickStep q2 p4)) - (own_r q1 q2 q3 p4)) (own_off q2 q3 p4)))])) _
    refine XS.ifYes X5.here hx rfl (pc0 := 88) (pc' := 93) rfl (hb hby at_88) rfl ((if0 _ _).trans (feq (fun q => (hc3 : ¬ ((((own_m q1 q2 p4) + (f_pickStep q2 p4)) - (own_r q1 q2 q3 p4)) = (own_off q2 q3 p4))) ((lw_eq _ _).mp q))).2) (by decide) (by decide) ?_
    show Steps p.tables e below (T5.setTop (mkF m 93 #[.val (.long q1), .second, .val (.long q2), .second, .val (.long q3), .second, .val (.int p4), .val (.long (f_pickStep q2 p4)), .second, .val (.long (f_pickTime q1 p4)), .second, .val (.long (own_off q2 q3 p4)), .second, .val (.long (own_r q1 q2 q3 p4)), .second, .val (.long ((own_m q1 q2 p4) + (f_pickStep q2 p4))), .second, .val (.long (((own_m q1 q2 p4) + (f_pickStep q2 p4)) - (own_r q1 q2 q3 p4))), .second] [])) _
    refine XS.lload X5.here hx rfl (hb hby at_93) rfl ?_
    show Steps p.tables e below (T5.setTop (mkF m 95 #[.val (.long q1), .second, .val (.long q2), .second, .val (.long q3), .second, .val (.int p4), .val (.long (f_pickStep q2 p4)), .second, .val (.long (f_pickTime q1 p4)), .second, .val (.long (own_off q2 q3 p4)), .second, .val (.long (own_r q1 q2 q3 p4)), .second, .val (.long ((own_m q1 q2 p4) + (f_pickStep q2 p4))), .second, .val (.long (((own_m q1 q2 p4) + (f_pickStep q2 p4)) - (own_r q1 q2 q3 p4))), .second] [(.long (((own_m q1 q2 p4) + (f_pickStep q2 p4)) - (own_r q1 q2 q3 p4)))])) _
    refine XS.lconst X5.here hx rfl (hb hby at_95) ?_
    show Steps p.tables e below (T5.setTop (mkF m 96 #[.val (.long q1), .second, .val (.long q2), .second, .val (.long q3), .second, .val (.int p4), .val (.long (f_pickStep q2 p4)), .second, .val (.long (f_pickTime q1 p4)), .second, .val (.long (own_off q2 q3 p4)), .second, .val (.long (own_r q1 q2 q3 p4)), .second, .val (.long ((own_m q1 q2 p4) + (f_pickStep q2 p4))), .second, .val (.long (((own_m q1 q2 p4) + (f_pickStep q2 p4)) - (own_r q1 q2 q3 p4))), .second] [(.long (0 : Int64)), (.long (((own_m q1 q2 p4) + (f_pickStep q2 p4)) - (own_r q1 q2 q3 p4)))])) _
    refine XS.lcmp X5.here hx rfl (hb hby at_96) rfl ?_
    show Steps p.tables e below (T5.setTop (mkF m 97 #[.val (.long q1), .second, .val (.long q2), .second, .val (.long q3), .second, .val (.int p4), .val (.long (f_pickStep q2 p4)), .second, .val (.long (f_pickTime q1 p4)), .second, .val (.long (own_off q2 q3 p4)), .second, .val (.long (own_r q1 q2 q3 p4)), .second, .val (.long ((own_m q1 q2 p4) + (f_pickStep q2 p4))), .second, .val (.long (((own_m q1 q2 p4) + (f_pickStep q2 p4)) - (own_r q1 q2 q3 p4))), .second] [(.int (lcmpW (((own_m q1 q2 p4) + (f_pickStep q2 p4)) - (own_r q1 q2 q3 p4)) (0 : Int64)))])) _
    refine XS.ifNo X5.here hx rfl (hb hby at_97) rfl ((if0 _ _).trans (tlt ((lw_lt _ _).mpr (hc4 : (((own_m q1 q2 p4) + (f_pickStep q2 p4)) - (own_r q1 q2 q3 p4)) < (0 : Int64)))).2.1) ?_
    show Steps p.tables e below (T5.setTop (mkF m 100 #[.val (.long q1), .second, .val (.long q2), .second, .val (.long q3), .second, .val (.int p4), .val (.long (f_pickStep q2 p4)), .second, .val (.long (f_pickTime q1 p4)), .second, .val (.long (own_off q2 q3 p4)), .second, .val (.long (own_r q1 q2 q3 p4)), .second, .val (.long ((own_m q1 q2 p4) + (f_pickStep q2 p4))), .second, .val (.long (((own_m q1 q2 p4) + (f_pickStep q2 p4)) - (own_r q1 q2 q3 p4))), .second] [])) _
    refine XS.lload X5.here hx rfl (hb hby at_100) rfl ?_
    show Steps p.tables e below (T5.setTop (mkF m 102 #[.val (.long q1), .second, .val (.long q2), .second, .val (.long q3), .second, .val (.int p4), .val (.long (f_pickStep q2 p4)), .second, .val (.long (f_pickTime q1 p4)), .second, .val (.long (own_off q2 q3 p4)), .second, .val (.long (own_r q1 q2 q3 p4)), .second, .val (.long ((own_m q1 q2 p4) + (f_pickStep q2 p4))), .second, .val (.long (((own_m q1 q2 p4) + (f_pickStep q2 p4)) - (own_r q1 q2 q3 p4))), .second] [(.long (((own_m q1 q2 p4) + (f_pickStep q2 p4)) - (own_r q1 q2 q3 p4)))])) _
    refine XS.lload X5.here hx rfl (hb hby at_102) rfl ?_
    show Steps p.tables e below (T5.setTop (mkF m 104 #[.val (.long q1), .second, .val (.long q2), .second, .val (.long q3), .second, .val (.int p4), .val (.long (f_pickStep q2 p4)), .second, .val (.long (f_pickTime q1 p4)), .second, .val (.long (own_off q2 q3 p4)), .second, .val (.long (own_r q1 q2 q3 p4)), .second, .val (.long ((own_m q1 q2 p4) + (f_pickStep q2 p4))), .second, .val (.long (((own_m q1 q2 p4) + (f_pickStep q2 p4)) - (own_r q1 q2 q3 p4))), .second] [(.long (f_pickStep q2 p4)), (.long (((own_m q1 q2 p4) + (f_pickStep q2 p4)) - (own_r q1 q2 q3 p4)))])) _
    refine XS.ladd X5.here hx rfl (hb hby at_104) rfl ?_
    show Steps p.tables e below (T5.setTop (mkF m 105 #[.val (.long q1), .second, .val (.long q2), .second, .val (.long q3), .second, .val (.int p4), .val (.long (f_pickStep q2 p4)), .second, .val (.long (f_pickTime q1 p4)), .second, .val (.long (own_off q2 q3 p4)), .second, .val (.long (own_r q1 q2 q3 p4)), .second, .val (.long ((own_m q1 q2 p4) + (f_pickStep q2 p4))), .second, .val (.long (((own_m q1 q2 p4) + (f_pickStep q2 p4)) - (own_r q1 q2 q3 p4))), .second] [(.long ((((own_m q1 q2 p4) + (f_pickStep q2 p4)) - (own_r q1 q2 q3 p4)) + (f_pickStep q2 p4)))])) _
    refine XS.lload X5.here hx rfl (hb hby at_105) rfl ?_
    show Steps p.tables e below (T5.setTop (mkF m 107 #[.val (.long q1), .second, .val (.long q2), .second, .val (.long q3), .second, .val (.int p4), .val (.long (f_pickStep q2 p4)), .second, .val (.long (f_pickTime q1 p4)), .second, .val (.long (own_off q2 q3 p4)), .second, .val (.long (own_r q1 q2 q3 p4)), .second, .val (.long ((own_m q1 q2 p4) + (f_pickStep q2 p4))), .second, .val (.long (((own_m q1 q2 p4) + (f_pickStep q2 p4)) - (own_r q1 q2 q3 p4))), .second] [(.long (own_off q2 q3 p4)), (.long ((((own_m q1 q2 p4) + (f_pickStep q2 p4)) - (own_r q1 q2 q3 p4)) + (f_pickStep q2 p4)))])) _
    refine XS.lcmp X5.here hx rfl (hb hby at_107) rfl ?_
    show Steps p.tables e below (T5.setTop (mkF m 108 #[.val (.long q1), .second, .val (.long q2), .second, .val (.long q3), .second, .val (.int p4), .val (.long (f_pickStep q2 p4)), .second, .val (.long (f_pickTime q1 p4)), .second, .val (.long (own_off q2 q3 p4)), .second, .val (.long (own_r q1 q2 q3 p4)), .second, .val (.long ((own_m q1 q2 p4) + (f_pickStep q2 p4))), .second, .val (.long (((own_m q1 q2 p4) + (f_pickStep q2 p4)) - (own_r q1 q2 q3 p4))), .second] [(.int (lcmpW ((((own_m q1 q2 p4) + (f_pickStep q2 p4)) - (own_r q1 q2 q3 p4)) + (f_pickStep q2 p4)) (own_off q2 q3 p4)))])) _
    refine XS.ifNo X5.here hx rfl (hb hby at_108) rfl ((if0 _ _).trans (teq ((lw_eq _ _).mpr (hc5 : ((((own_m q1 q2 p4) + (f_pickStep q2 p4)) - (own_r q1 q2 q3 p4)) + (f_pickStep q2 p4)) = (own_off q2 q3 p4)))).2) ?_
    show Steps p.tables e below (T5.setTop (mkF m 111 #[.val (.long q1), .second, .val (.long q2), .second, .val (.long q3), .second, .val (.int p4), .val (.long (f_pickStep q2 p4)), .second, .val (.long (f_pickTime q1 p4)), .second, .val (.long (own_off q2 q3 p4)), .second, .val (.long (own_r q1 q2 q3 p4)), .second, .val (.long ((own_m q1 q2 p4) + (f_pickStep q2 p4))), .second, .val (.long (((own_m q1 q2 p4) + (f_pickStep q2 p4)) - (own_r q1 q2 q3 p4))), .second] [])) _
    refine XS.iconst X5.here hx rfl (hb hby at_111) ?_
    show Steps p.tables e below (T5.setTop (mkF m 112 #[.val (.long q1), .second, .val (.long q2), .second, .val (.long q3), .second, .val (.int p4), .val (.long (f_pickStep q2 p4)), .second, .val (.long (f_pickTime q1 p4)), .second, .val (.long (own_off q2 q3 p4)), .second, .val (.long (own_r q1 q2 q3 p4)), .second, .val (.long ((own_m q1 q2 p4) + (f_pickStep q2 p4))), .second, .val (.long (((own_m q1 q2 p4) + (f_pickStep q2 p4)) - (own_r q1 q2 q3 p4))), .second] [(.int (1 : Int32))])) _
    refine XS.goto X5.here hx rfl (pc0 := 112) (pc' := 116) rfl (hb hby at_112) (by decide) (by decide) ?_
    show Steps p.tables e below (T5.setTop (mkF m 116 #[.val (.long q1), .second, .val (.long q2), .second, .val (.long q3), .second, .val (.int p4), .val (.long (f_pickStep q2 p4)), .second, .val (.long (f_pickTime q1 p4)), .second, .val (.long (own_off q2 q3 p4)), .second, .val (.long (own_r q1 q2 q3 p4)), .second, .val (.long ((own_m q1 q2 p4) + (f_pickStep q2 p4))), .second, .val (.long (((own_m q1 q2 p4) + (f_pickStep q2 p4)) - (own_r q1 q2 q3 p4))), .second] [(.int (1 : Int32))])) _
    exact retN X5 hx (t := .boolean) Bd.returns (by simp) (hb hby at_116) hr
  · show Q_law Z q1 q2 q3 p4 h0 n0 _ T5.heap _
    rw [e5]
    exact ⟨rfl, N6⟩
theorem own_step_rng (q2 : Int64) (p4 : Int32) : 1 ≤ (f_pickStep q2 p4).toInt := by
  have o1 : (1 : Int64).toInt = 1 := by decide
  have o0 : (0 : Int64).toInt = 0 := by decide
  have o2 : (9223372036854775807 : Int64).toInt = 9223372036854775807 := by decide
  unfold f_pickStep
  split
  · have m := c_maskL q2 15 4 (by decide) (by decide)
    have a := c_ladd (q2 &&& 15) 1
    have b := rng64 ((q2 &&& 15) + 1)
    omega
  · split
    · have m := c_maskL q2 4294967295 32 (by decide) (by decide)
      have a := c_ladd (q2 &&& 4294967295) 1
      have b := rng64 ((q2 &&& 4294967295) + 1)
      omega
    · split
      · split
        · omega
        · rename_i h
          have m := own_mL q2
          have : ¬ (q2 &&& (9223372036854775807 : Int64)).toInt = 0 := fun e => h (own_eq64 (by omega))
          omega
      · have m := c_maskL q2 15 4 (by decide) (by decide)
        have a := c_lsub 9223372036854775807 (q2 &&& 15)
        have b := rng64 (9223372036854775807 - (q2 &&& 15))
        omega
theorem own_fmod (x y : Int64) (hy : 0 < y.toInt) : (f_fmod x y).toInt = x.toInt % y.toInt := by
  have o0 : (0 : Int64).toInt = 0 := by decide
  have s := c_xorSL x y
  have l1 := Int.emod_nonneg x.toInt (show y.toInt ≠ 0 by omega)
  have l2 := Int.emod_lt_of_pos x.toInt hy
  unfold f_fmod
  by_cases c : x.toInt < 0
  · have hc : (x ^^^ y) < (0 : Int64) := by rw [own_lt64]; have := s.2.1 c (by omega); omega
    rw [if_pos hc]
    have e : (x % y).toInt = x.toInt.tmod y.toInt := Int64.toInt_mod x y
    have t : x.toInt.tmod y.toInt = -((-x.toInt) % y.toInt) := (tr x.toInt y.toInt).2 c
    have n1 := Int.emod_nonneg (-x.toInt) (show y.toInt ≠ 0 by omega)
    have n2 := Int.emod_lt_of_pos (-x.toInt) hy
    have d1 := Int.mul_ediv_add_emod x.toInt y.toInt
    have d2 := Int.mul_ediv_add_emod (-x.toInt) y.toInt
    by_cases z : (x % y) = (0 : Int64)
    · rw [if_pos z, z]
      have z' := congrArg Int64.toInt z
      have zz : (-x.toInt) % y.toInt = 0 := by omega
      have := Int.emod_eq_zero_of_dvd (Int.dvd_neg.mp (Int.dvd_of_emod_eq_zero zz))
      omega
    · rw [if_neg z]
      have zz : ¬ (x % y).toInt = 0 := fun q => z (own_eq64 (by omega))
      have a := c_ladd (x % y) y
      have b := rng64 ((x % y) + y)
      have ry := rng64 y
      have v : ((x % y) + y).toInt = y.toInt - (-x.toInt) % y.toInt := by omega
      rw [v]
      have w : x.toInt = (y.toInt - (-x.toInt) % y.toInt) + y.toInt * (-((-x.toInt) / y.toInt) - 1) := by
        rw [Int.mul_sub, Int.mul_neg]; omega
      conv => rhs; rw [w]
      rw [Int.add_mul_emod_self_left]
      exact (Int.emod_eq_of_lt (by omega) (by omega)).symm
  · have hc : ¬ (x ^^^ y) < (0 : Int64) := by rw [own_lt64]; have := s.2.2.2 (by omega) (by omega); omega
    rw [if_neg hc]
    exact own_lmod x y (by omega)
theorem own_plain (q1 q2 q3 : Int64) (p4 : Int32) : Road_fttf q1 q2 q3 p4 ∨ Road_ftttff q1 q2 q3 p4 ∨ Road_ftff q1 q2 q3 p4 ∨ Road_ftftff q1 q2 q3 p4 := by
  have o0 : (0 : Int64).toInt = 0 := by decide
  have hs := own_step_rng q2 p4
  have ho := own_lmod_rng (q3 &&& 9223372036854775807) (f_pickStep q2 p4) (own_mL q3).1 (by omega)
  have k1 : ¬ (f_pickStep q2 p4 = (0 : Int64)) := own_nz64 (by omega)
  unfold Road_fttf Road_ftttff Road_ftff Road_ftftff own_r own_m
  change 0 ≤ (own_off q2 q3 p4).toInt ∧ (own_off q2 q3 p4).toInt < (f_pickStep q2 p4).toInt at ho
  revert ho hs k1
  generalize own_off q2 q3 p4 = O
  generalize f_pickStep q2 p4 = S
  generalize f_pickTime q1 p4 = T
  intro hs k1 ho
  have b1 := rng64 T
  have b2 := rng64 S
  have f1 := own_fmod T S (by omega)
  have l1 := Int.emod_nonneg T.toInt (show S.toInt ≠ 0 by omega)
  have l2 := Int.emod_lt_of_pos T.toInt (show 0 < S.toInt by omega)
  have a1 := c_lsub (f_fmod T S) O
  have a2 := rng64 (f_fmod T S - O)
  have a3 : (f_fmod T S - O).toInt = T.toInt % S.toInt - O.toInt := by omega
  have f2 := own_fmod (f_fmod T S - O) S (by omega)
  rw [a3] at f2
  have n1 := Int.emod_nonneg (T.toInt % S.toInt - O.toInt) (show S.toInt ≠ 0 by omega)
  have n2 := Int.emod_lt_of_pos (T.toInt % S.toInt - O.toInt) (show 0 < S.toInt by omega)
  rw [← f2] at n1 n2
  have hcase : (O.toInt ≤ T.toInt % S.toInt ∧ (f_fmod (f_fmod T S - O) S).toInt = T.toInt % S.toInt - O.toInt) ∨ (T.toInt % S.toInt < O.toInt ∧ (f_fmod (f_fmod T S - O) S).toInt = T.toInt % S.toInt - O.toInt + S.toInt) := by
    by_cases c : O.toInt ≤ T.toInt % S.toInt
    · left; refine ⟨c, ?_⟩; rw [f2]; exact Int.emod_eq_of_lt (by omega) (by omega)
    · right; refine ⟨by omega, ?_⟩; rw [f2, ← Int.add_emod_right]; exact Int.emod_eq_of_lt (by omega) (by omega)
  generalize f_fmod (f_fmod T S - O) S = R at *
  have k2 : ¬ (R < (0 : Int64)) := by rw [own_lt64]; omega
  have k3 : R < S := by rw [own_lt64]; omega
  -- the law's own remainder
  have tm : (T % S).toInt = T.toInt.tmod S.toInt := Int64.toInt_mod T S
  have mm : (¬ ((T % S) < (0 : Int64)) ∧ (T % S).toInt = T.toInt % S.toInt) ∨ ((T % S) < (0 : Int64) ∧ ((T % S) + S).toInt = T.toInt % S.toInt) := by
    by_cases c : (T % S) < (0 : Int64)
    · right
      refine ⟨c, ?_⟩
      rw [own_lt64] at c
      have tn : T.toInt < 0 := by
        by_cases q : T.toInt < 0
        · exact q
        · have := own_lmod T S (by omega); omega
      have fm := own_fmod T S (by omega)
      have s := c_xorSL T S
      have hc : (T ^^^ S) < (0 : Int64) := by rw [own_lt64]; have := s.2.1 tn (by omega); omega
      have hz : ¬ ((T % S) = (0 : Int64)) := fun q => by have := congrArg Int64.toInt q; omega
      rw [f_fmod, if_pos hc, if_neg hz] at fm
      exact fm
    · left
      refine ⟨c, ?_⟩
      rw [own_lt64] at c
      by_cases q : T.toInt < 0
      · have t := (tr T.toInt S.toInt).2 q
        have n1 := Int.emod_nonneg (-T.toInt) (show S.toInt ≠ 0 by omega)
        have zz : (-T.toInt) % S.toInt = 0 := by omega
        have := Int.emod_eq_zero_of_dvd (Int.dvd_neg.mp (Int.dvd_of_emod_eq_zero zz))
        omega
      · exact own_lmod T S (by omega)
  rcases mm with ⟨c, e⟩ | ⟨c, e⟩
  · have d1 := c_lsub (T % S) R
    have d2 := rng64 ((T % S) - R)
    have d3 := c_ladd ((T % S) - R) S
    have d4 := rng64 (((T % S) - R) + S)
    rcases hcase with ⟨h1, h2⟩ | ⟨h1, h2⟩
    · exact Or.inl ⟨k1, k2, k3, c, own_eq64 (by omega)⟩
    · refine Or.inr (Or.inl ⟨k1, k2, k3, c, fun q => ?_, ?_, own_eq64 (by omega)⟩)
      · have := congrArg Int64.toInt q; omega
      · rw [own_lt64]; omega
  · have d1 := c_lsub ((T % S) + S) R
    have d2 := rng64 (((T % S) + S) - R)
    have d3 := c_ladd (((T % S) + S) - R) S
    have d4 := rng64 ((((T % S) + S) - R) + S)
    rcases hcase with ⟨h1, h2⟩ | ⟨h1, h2⟩
    · exact Or.inr (Or.inr (Or.inl ⟨k1, k2, k3, c, own_eq64 (by omega)⟩))
    · refine Or.inr (Or.inr (Or.inr ⟨k1, k2, k3, c, fun q => ?_, ?_, own_eq64 (by omega)⟩))
      · have := congrArg Int64.toInt q; omega
      · rw [own_lt64]; omega
set_option maxRecDepth 65536 in
set_option maxHeartbeats 40000000 in
theorem rm_law (l : Launch) (Z : State) (a0 : Array Value) (hw : ∀ d ∈ tables_1, d.before a0 Z = true) (ws : List Jvm.Cond) (q1 : Int64) (q2 : Int64) (q3 : Int64) (p4 : Int32) (h0 : Heap) (n0 : Nat) (Z0 : n0 ≤ h0.size) :
    MetFree l x (head1 (Jvm.Cond.code x code maxLocals ret :: ws) room_1) (fun a U => a = #[(.long q1), (.long q2), (.long q3), (.int p4)] ∧ Z.Warmed39 U.vm ∧ U.heap = h0) (fun _ _ _ _ _ => True) (fun _ U o U' => ∃ v L, o = .returned v ∧ Q_law Z q1 q2 q3 p4 h0 n0 v U'.heap L ∧ FrameEnd U o U' L room_1.cells room_1.slots) := by
  rcases own_plain q1 q2 q3 p4 with h | h | h | h
  · exact rm_law_fttf l Z a0 hw ws q1 q2 q3 p4 h0 n0 Z0 h
  · exact rm_law_ftttff l Z a0 hw ws q1 q2 q3 p4 h0 n0 Z0 h
  · exact rm_law_ftff l Z a0 hw ws q1 q2 q3 p4 h0 n0 Z0 h
  · exact rm_law_ftftff l Z a0 hw ws q1 q2 q3 p4 h0 n0 Z0 h
set_option maxRecDepth 65536 in
set_option maxHeartbeats 40000000 in
theorem comes_1 {Post : Tables → Env → Array Value → State → Outcome → State → Prop} (hpost : ∀ tb e args s v u, (limb_1_1.after args s (.returned v) u = true ∧ limb_1_2.after args s (.returned v) u = true ∧ True) → FrameEnd s (.returned v) u (Jvm.fieldLocs frame_1_writes args s ++ Jvm.arrayLocs frame_1_arrays args s ++ Jvm.staticLocs frame_1_statics s) 0 0 → Post tb e args s (.returned v) u) :
    ArmFor flags0 classFile x code maxLocals ret World_1 tables_1 room_1 Calls_1 rest_1 Pre_1 Post := by
  intro l hfl _ _ p e ha hc hk s m args below hf hA hF happ hP
  obtain ⟨hcalls, hrest, hpre⟩ := hP
  obtain ⟨-, -, -, hnamed, -, -, -, hat⟩ := (Spec.applies_iff hf).mp happ
  obtain ⟨hg, hn⟩ := and_e (Cond.before_iff.mp (show (Jvm.Cond.and given_1 narrow_1).before args s = true from hpre))
  obtain ⟨g1, g2⟩ := and_e hg
  obtain ⟨g3, g4⟩ := and_e g2
  obtain ⟨g5, g6⟩ := and_e g4
  obtain ⟨g7, g8⟩ := and_e g6
  obtain ⟨w0, w1, w2, w3, rfl⟩ : ∃ w0 w1 w2 w3 : Value, args = #[w0, w1, w2, w3] := by
    have hs : args.size = 4 := by simpa [Cond.value, given_1] using g1
    obtain ⟨L⟩ := args
    match L, hs with
    | [w0, w1, w2, w3], _ => exact ⟨w0, w1, w2, w3, rfl⟩
  have hw := fun d (hd : d ∈ tables_1) => atoms_spec (ws := Jvm.Cond.code x code maxLocals ret :: tables_1) hat d (List.mem_cons_of_mem _ hd)
  have hfit : Fit s := fun {y c} hc i hi => by
    obtain ⟨ha, rfl⟩ := Array.getElem?_eq_some_iff.mp hc
    have q := List.all_eq_true.mp ((Array.all_eq_true_iff_forall_mem.mp hF) _ (Array.getElem_mem ha)) i (List.mem_range.mpr hi)
    simpa [Array.getElem?_eq_getElem hi] using q
  obtain ⟨i0, ei0⟩ := isL_v g3
  obtain rfl : w0 = (.long i0) := Option.some.inj ei0
  obtain ⟨i1, ei1⟩ := isL_v g5
  obtain rfl : w1 = (.long i1) := Option.some.inj ei1
  obtain ⟨i2, ei2⟩ := isL_v g7
  obtain rfl : w2 = (.long i2) := Option.some.inj ei2
  obtain ⟨i3, ei3⟩ := is_v g8
  obtain rfl : w3 = (.int i3) := Option.some.inj ei3
  obtain ⟨n, o, h1, h2, h3, _, L, rfl, ⟨rfl, N⟩, hq⟩ := rm_law l s _ hw tables_1 i0 i1 i2 i3 s.heap s.heap.size (Nat.le_refl _) p e ha hc hk s m _ below hf ((Spec.applies_iff_loose hf).mp happ).1 ⟨rfl, State.Warmed39.refl s, rfl⟩ trivial
  refine ⟨n, _, h1, h2, h3, hpost _ _ _ _ _ _ ⟨Cond.after_iff.mpr rfl, Cond.after_iff.mpr (eq_i res_at (Term.int_eval (1)) rfl), trivial⟩ ⟨hq.1, hq.2.1, (hq.2.2.sift fun y hy => Or.inr (N y hy)).mono (by decide) (by decide)⟩⟩
theorem main_1_1 : Claimed_1_1 := comes_1 fun _ _ _ _ _ _ h hF => ⟨h.1, hF⟩
theorem main_1_2 : Claimed_1_2 := comes_1 fun _ _ _ _ _ _ h hF => ⟨h.2.1, hF⟩
end Jvm.Pilot.@@N@@
namespace Jvm.Pilot.@@N@@
open Jvm Jvm.ClassFile Sem Op Lib Jvm.Free Jvm.Stand Jvm.Pilot.@@N@@.Jvm.D
/-! MADE BY PROGRAM (witnessworld.py) out of the Statement's table words and the real class files: 10 classes; the members and pool entries that the words name. The judged class is class 1, her method 3. -/
namespace start1
open Jvm.ClassFile
def u (s : String) : CpInfo := .utf8 (stringToUtf16 s)
/-- a pool by its gaps: so many unusable entries, then the entry; so many at the end -/
def gap : Nat → List CpInfo → List CpInfo
  | 0, r => r
  | n + 1, r => .unusable :: gap n r
def poolList (es : List (Nat × CpInfo)) (last : Nat) : List CpInfo := es.foldr (fun e r => gap e.1 (e.2 :: r)) (gap last [])
def pool (es : List (Nat × CpInfo)) (last : Nat) : Array CpInfo := ⟨poolList es last⟩
def fileOf (pool : Array CpInfo) (this : Nat) (attrs : Array Attribute := #[]) (ms : Array MethodInfo := #[]) (fl : Nat := 33) (sup : Nat := 0) (ifs : Array Nat := #[]) (fds : Array FieldInfo := #[]) : ClassFile where
  minorVersion := 0
  majorVersion := 65
  constantPool := pool
  accessFlags := fl
  thisClass := this
  superClass := sup
  interfaces := ifs
  fields := fds
  methods := ms
  attributes := attrs
def plain (name : String) (sup : Option ClassId) : Class where
  name := name
  kind := .ordinary
  loader := none
  accessFlags := 33
  super := sup
  interfaces := #[]
  cf := none
  fields := #[]
  methods := #[]
  instanceTypes := #[]
  staticTypes := #[]
  resolved := #[]
  callSites := []
  init := .initialized
  statics := none
  mirror := none

def pool0 : Array CpInfo := pool [(5, u "<init>"), (0, u "()V"), (1, .class_ 10), (1, u "java/lang/Object")] 113

def k0m0 : Method := { name := "<init>", desc := "()V", sig := { parameters := [], returnType := none }, accessFlags := 1, code := none }
/-- java/lang/Object -/
def k0 : Class := { plain "java/lang/Object" none with
  accessFlags := 33
  interfaces := #[]
  cf := some (fileOf pool0 8 #[] #[{ accessFlags := 1, nameIndex := 5, descriptorIndex := 6, attributes := #[] }] 33 0 #[] #[])
  fields := #[]
  methods := #[k0m0]
  instanceTypes := #[]
  staticTypes := #[]
  resolved := Array.replicate 124 none
  statics := none }

def pool1 : Array CpInfo := pool [(2, .class_ 4), (1, u "java/lang/Object"), (0, u "<init>"), (0, u "()V"), (0, .long 15), (1, .long 4294967295), (3, .long 9223372036854775807), (1, .long 9223372036854775808), (1, .methodref 18 19), (0, .class_ 20), (0, .nameAndType 21 22), (0, u "org/everroll/InstantsIntoStepPinLaw"), (0, u "pickStep"), (0, u "(JI)J"), (0, .methodref 18 24), (0, .nameAndType 25 22), (0, u "pickTime"), (0, .methodref 27 28), (0, .class_ 29), (0, .nameAndType 30 31), (0, u "org/everroll/Instants"), (0, u "intoStep"), (0, u "(JJJ)J"), (3, u "law"), (0, u "(JJJI)Z")] 2

def k1m0 : Method := { name := "<init>", desc := "()V", sig := { parameters := [], returnType := none }, accessFlags := 2, code := none }
def k1c1 : Code := { maxStack := 6, maxLocals := 6, code := method_2_code, exceptionTable := #[], attributes := #[] }
def k1m1 : Method := { name := "pickStep", desc := "(JI)J", sig := { parameters := [.long, .int], returnType := some .long }, accessFlags := 10, code := some k1c1 }
def k1c2 : Code := { maxStack := 6, maxLocals := 4, code := method_3_code, exceptionTable := #[], attributes := #[] }
def k1m2 : Method := { name := "pickTime", desc := "(JI)J", sig := { parameters := [.long, .int], returnType := some .long }, accessFlags := 10, code := some k1c2 }
def k1c3 : Code := { maxStack := 6, maxLocals := 19, code := code, exceptionTable := #[], attributes := #[] }
def k1m3 : Method := { name := "law", desc := "(JJJI)Z", sig := { parameters := [.long, .long, .long, .int], returnType := some .boolean }, accessFlags := 9, code := some k1c3 }
/-- org/everroll/InstantsIntoStepPinLaw -/
def k1 : Class := { plain "org/everroll/InstantsIntoStepPinLaw" (some 0) with
  accessFlags := 49
  interfaces := #[]
  cf := some (fileOf pool1 18 #[] #[{ accessFlags := 2, nameIndex := 5, descriptorIndex := 6, attributes := #[] }, { accessFlags := 10, nameIndex := 21, descriptorIndex := 22, attributes := #[] }, { accessFlags := 10, nameIndex := 25, descriptorIndex := 22, attributes := #[] }, { accessFlags := 9, nameIndex := 35, descriptorIndex := 36, attributes := #[] }] 49 2 #[] #[])
  fields := #[]
  methods := #[k1m0, k1m1, k1m2, k1m3]
  instanceTypes := #[]
  staticTypes := #[]
  resolved := Array.replicate 39 none
  statics := none }

def pool2 : Array CpInfo := pool [(2, .class_ 4), (1, u "java/lang/Object"), (0, u "<init>"), (0, u "()V"), (1, .class_ 10), (1, u "org/everroll/Instants"), (0, u "FIRST"), (0, u "Ljava/time/Instant;"), (8, u "LAST"), (3, .methodref 26 27), (0, .class_ 28), (0, .nameAndType 29 30), (0, u "java/lang/Math"), (0, u "floorMod"), (0, u "(JJ)J"), (2, u "intoStep"), (0, u "(JJJ)J")] 33

def k2m0 : Method := { name := "<init>", desc := "()V", sig := { parameters := [], returnType := none }, accessFlags := 2, code := none }
def k2c1 : Code := { maxStack := 4, maxLocals := 6, code := prog_20_method_3_code, exceptionTable := #[], attributes := #[] }
def k2m1 : Method := { name := "intoStep", desc := "(JJJ)J", sig := { parameters := [.long, .long, .long], returnType := some .long }, accessFlags := 8, code := some k2c1 }
/-- org/everroll/Instants -/
def k2 : Class := { plain "org/everroll/Instants" (some 0) with
  accessFlags := 48
  interfaces := #[]
  cf := some (fileOf pool2 8 #[] #[{ accessFlags := 2, nameIndex := 5, descriptorIndex := 6, attributes := #[] }, { accessFlags := 8, nameIndex := 33, descriptorIndex := 34, attributes := #[] }] 48 2 #[] #[{ accessFlags := 24, nameIndex := 11, descriptorIndex := 12, attributes := #[] }, { accessFlags := 24, nameIndex := 21, descriptorIndex := 12, attributes := #[] }])
  fields := #[{ name := "FIRST", type := (.object "java/time/Instant"), accessFlags := 24, slot := 0, constantValue := 0 }, { name := "LAST", type := (.object "java/time/Instant"), accessFlags := 24, slot := 1, constantValue := 0 }]
  methods := #[k2m0, k2m1]
  instanceTypes := #[]
  staticTypes := #[(.object "java/time/Instant"), (.object "java/time/Instant")]
  resolved := Array.replicate 68 none
  statics := none }

def pool3 : Array CpInfo := pool [(1, .class_ 2), (0, u "java/lang/Math"), (1, .class_ 6), (1, u "java/lang/Object"), (0, u "<init>"), (0, u "()V"), (89, .class_ 100), (1, u "java/lang/Math$RandomNumberGeneratorHolder"), (20, u "(JJ)J"), (26, u "floorMod"), (23, u "negativeZeroFloatBits"), (0, u "J"), (2, u "negativeZeroDoubleBits"), (68, u "$assertionsDisabled"), (0, u "Z"), (91, u "twoToTheDoubleScaleDown"), (0, u "D"), (4, u "twoToTheDoubleScaleUp"), (9, u "E"), (3, u "PI"), (2, u "TAU"), (2, u "DEGREES_TO_RADIANS"), (0, u "RADIANS_TO_DEGREES")] 94

def k3m0 : Method := { name := "<init>", desc := "()V", sig := { parameters := [], returnType := none }, accessFlags := 2, code := none }
def k3c1 : Code := { maxStack := 4, maxLocals := 6, code := jdk_29_method_52_code, exceptionTable := #[], attributes := #[] }
def k3m1 : Method := { name := "floorMod", desc := "(JJ)J", sig := { parameters := [.long, .long], returnType := some .long }, accessFlags := 9, code := some k3c1 }
/-- java/lang/Math -/
def k3 : Class := { plain "java/lang/Math" (some 0) with
  accessFlags := 49
  interfaces := #[]
  cf := some (fileOf pool3 1 #[.nestMembers #[98]] #[{ accessFlags := 2, nameIndex := 7, descriptorIndex := 8, attributes := #[] }, { accessFlags := 9, nameIndex := 148, descriptorIndex := 121, attributes := #[] }] 49 4 #[] #[{ accessFlags := 25, nameIndex := 354, descriptorIndex := 339, attributes := #[] }, { accessFlags := 25, nameIndex := 358, descriptorIndex := 339, attributes := #[] }, { accessFlags := 25, nameIndex := 361, descriptorIndex := 339, attributes := #[] }, { accessFlags := 26, nameIndex := 364, descriptorIndex := 339, attributes := #[] }, { accessFlags := 26, nameIndex := 365, descriptorIndex := 339, attributes := #[] }, { accessFlags := 26, nameIndex := 172, descriptorIndex := 173, attributes := #[] }, { accessFlags := 26, nameIndex := 176, descriptorIndex := 173, attributes := #[] }, { accessFlags := 8, nameIndex := 344, descriptorIndex := 339, attributes := #[] }, { accessFlags := 8, nameIndex := 338, descriptorIndex := 339, attributes := #[] }, { accessFlags := 4120, nameIndex := 245, descriptorIndex := 246, attributes := #[] }])
  fields := #[{ name := "E", type := .double, accessFlags := 25, slot := 0, constantValue := 0 }, { name := "PI", type := .double, accessFlags := 25, slot := 1, constantValue := 0 }, { name := "TAU", type := .double, accessFlags := 25, slot := 2, constantValue := 0 }, { name := "DEGREES_TO_RADIANS", type := .double, accessFlags := 26, slot := 3, constantValue := 0 }, { name := "RADIANS_TO_DEGREES", type := .double, accessFlags := 26, slot := 4, constantValue := 0 }, { name := "negativeZeroFloatBits", type := .long, accessFlags := 26, slot := 5, constantValue := 0 }, { name := "negativeZeroDoubleBits", type := .long, accessFlags := 26, slot := 6, constantValue := 0 }, { name := "twoToTheDoubleScaleUp", type := .double, accessFlags := 8, slot := 7, constantValue := 0 }, { name := "twoToTheDoubleScaleDown", type := .double, accessFlags := 8, slot := 8, constantValue := 0 }, { name := "$assertionsDisabled", type := .boolean, accessFlags := 4120, slot := 9, constantValue := 0 }]
  methods := #[k3m0, k3m1]
  instanceTypes := #[]
  staticTypes := #[.double, .double, .double, .double, .double, .long, .long, .double, .double, .boolean]
  resolved := Array.replicate 460 none
  statics := none }

def pool4 : Array CpInfo := pool [(1, u "java/lang/Cloneable"), (0, .class_ 1), (0, u "java/lang/Object"), (0, .class_ 3)] 3

/-- java/lang/Cloneable -/
def k4 : Class := { plain "java/lang/Cloneable" (some 0) with
  accessFlags := 1537
  interfaces := #[]
  cf := some (fileOf pool4 2 #[] #[] 1537 4 #[] #[])
  fields := #[]
  methods := #[]
  instanceTypes := #[]
  staticTypes := #[]
  resolved := Array.replicate 8 none
  statics := none }

def pool5 : Array CpInfo := pool [(1, u "java/io/Serializable"), (0, .class_ 1), (0, u "java/lang/Object"), (0, .class_ 3)] 3

/-- java/io/Serializable -/
def k5 : Class := { plain "java/io/Serializable" (some 0) with
  accessFlags := 1537
  interfaces := #[]
  cf := some (fileOf pool5 2 #[] #[] 1537 4 #[] #[])
  fields := #[]
  methods := #[]
  instanceTypes := #[]
  staticTypes := #[]
  resolved := Array.replicate 8 none
  statics := none }

/-- the primitive byte -/
def k6 : Class := { plain "byte" none with kind := .primitive 'B', accessFlags := 0x411 }
/-- [B -/
def k7 : Class := { plain "[B" (some 0) with kind := .array 6 .byte, interfaces := #[4, 5], accessFlags := 1041 }

/-- the primitive int -/
def k8 : Class := { plain "int" none with kind := .primitive 'I', accessFlags := 0x411 }
/-- [I -/
def k9 : Class := { plain "[I" (some 0) with kind := .array 8 .int, interfaces := #[4, 5], accessFlags := 1041 }

def heap : Heap := #[]
def classes : Array Class := #[k0, k1, k2, k3, k4, k5, k6, k7, k8, k9]
def interned : List (Array UInt16 × Addr) := []
def slotsUsed : Nat := 0
def theMethod : MethodId := ⟨1, 3⟩
def args0 : Array Value := #[.long 5, .long 300, .long 7, .int 1]
def aboutOver (below : List Frame) : State where
  vm := { classes := classes, interned := interned.toArray }
  heap := heap
  slotsUsed := slotsUsed
  threads := #[{ frames := .invoking theMethod args0 :: below }]
def below0 : List Frame := [.native { method := ⟨0, 0⟩, args := #[] }]
def about1 : State := aboutOver below0
def p0 : Program := .bare "" "" ""
def e0 : Env := launch0.env 0 0 0
theorem w_frames : about1.frames = Frame.invoking theMethod args0 :: below0 := rfl
set_option maxRecDepth 65536 in
theorem w_args : argsFit about1.vm theMethod args0 = true := by decide +kernel
set_option maxRecDepth 65536 in
theorem w_heap : heapFits about1 = true := by decide +kernel
set_option maxRecDepth 65536 in
theorem w_runnable : about1.curStatus? = some .runnable := by decide +kernel
set_option maxRecDepth 65536 in
theorem w_alone : about1.alone = true := by decide +kernel
set_option maxRecDepth 65536 in
theorem w_named : about1.methodNamed? x = some theMethod := by decide +kernel
set_option maxRecDepth 65536 in
theorem w_hears : about1.hears theMethod below0 = true := by decide +kernel
set_option maxRecDepth 65536 in
theorem w_ripe : about1.ripe theMethod args0 below0 = true := by decide +kernel
theorem w_running : about1.status = .running := rfl
set_option maxRecDepth 65536 in
theorem w_room : about1.hasRoom e0.platform room_1 = true :=
  launch0.hasRoom_least _ room_1 (by decide +kernel) (by decide +kernel) (by decide +kernel) (by decide +kernel) (by decide +kernel) (by decide +kernel)
theorem allAtoms_all (ts : List Jvm.Cond) (a : Array Jvm.Value) (st : Jvm.State) : (allAtoms ts).before a st = ts.all (fun c => c.before a st) := by
  induction ts with
  | nil => rfl
  | cons c t ih =>
    show (Jvm.Cond.and c (allAtoms t)).before a st = _
    rw [Jvm.Cond.before_and, ih, List.all_cons]
def words1 : List Jvm.Cond := Jvm.Cond.code x code maxLocals ret :: tables_1
/-- a 'code' word, met by the world's own term for the bytes: nothing is compared byte by byte -/
theorem code_word {y : MethodName} {bytes : ByteArray} {mx : Nat} {rt : Option FieldType} {a : Array Value} {s : State} {m : MethodId} {meth : Method} {c : Code} (h1 : s.methodNamed? y = some m) (h2 : s.vm.method? m = some meth) (h3 : meth.code = some c) (h4 : c.code = bytes)
    (h5 : (c.maxLocals == mx && c.exceptionTable.isEmpty && decide (c.maxStack ≤ mostOperands) && decide (meth.sig.returnType = rt) && !meth.locks && decide (parseMethodDescriptor y.desc = some meth.sig)) = true) : (Jvm.Cond.code y bytes mx rt).before a s = true := by
  simp only [Bool.and_eq_true, beq_iff_eq, Bool.not_eq_true', decide_eq_true_eq] at h5
  obtain ⟨⟨⟨⟨⟨g1, g2⟩, g3⟩, g4⟩, g5⟩, g6⟩ := h5
  simp [Cond.before, Cond.holds, Cond.value, h1, h2, h3, h4, g1, g2, g3, g4, g5, g6]
def isCode : Jvm.Cond → Bool
  | .code _ _ _ _ => true
  | _ => false
theorem all_split {L : List Jvm.Cond} {P : Jvm.Cond → Bool} (h1 : L.all (fun c => isCode c || P c) = true) (h2 : ∀ c ∈ L.filter isCode, P c = true) : L.all P = true := by
  refine List.all_eq_true.mpr fun c hc => ?_
  have h := List.all_eq_true.mp h1 c hc
  rcases Bool.eq_false_or_eq_true (isCode c) with hi | hi
  · exact h2 c (List.mem_filter.mpr ⟨hc, hi⟩)
  · simpa [hi] using h
set_option maxRecDepth 65536 in
theorem w_c0 : (Jvm.Cond.code x code maxLocals ret).before args0 about1 = true := code_word (m := ⟨1, 3⟩) (meth := k1m3) (c := k1c3) (by decide +kernel) rfl rfl rfl (by decide +kernel)
set_option maxRecDepth 65536 in
theorem w_c1 : (Jvm.Cond.code ({ cls := "org/everroll/InstantsIntoStepPinLaw", name := "pickStep", desc := "(JI)J" } : Jvm.MethodName) method_2_code (6 : Nat) (Option.some Jvm.ClassFile.FieldType.long)).before args0 about1 = true := code_word (m := ⟨1, 1⟩) (meth := k1m1) (c := k1c1) (by decide +kernel) rfl rfl rfl (by decide +kernel)
set_option maxRecDepth 65536 in
theorem w_c2 : (Jvm.Cond.code ({ cls := "org/everroll/InstantsIntoStepPinLaw", name := "pickTime", desc := "(JI)J" } : Jvm.MethodName) method_3_code (4 : Nat) (Option.some Jvm.ClassFile.FieldType.long)).before args0 about1 = true := code_word (m := ⟨1, 2⟩) (meth := k1m2) (c := k1c2) (by decide +kernel) rfl rfl rfl (by decide +kernel)
set_option maxRecDepth 65536 in
theorem w_c3 : (Jvm.Cond.code ({ cls := "org/everroll/Instants", name := "intoStep", desc := "(JJJ)J" } : Jvm.MethodName) prog_20_method_3_code (6 : Nat) (Option.some Jvm.ClassFile.FieldType.long)).before args0 about1 = true := code_word (m := ⟨2, 1⟩) (meth := k2m1) (c := k2c1) (by decide +kernel) rfl rfl rfl (by decide +kernel)
set_option maxRecDepth 65536 in
theorem w_c4 : (Jvm.Cond.code ({ cls := "java/lang/Math", name := "floorMod", desc := "(JJ)J" } : Jvm.MethodName) jdk_29_method_52_code (6 : Nat) (Option.some Jvm.ClassFile.FieldType.long)).before args0 about1 = true := code_word (m := ⟨3, 1⟩) (meth := k3m1) (c := k3c1) (by decide +kernel) rfl rfl rfl (by decide +kernel)
def codes1 : List Jvm.Cond := [Jvm.Cond.code x code maxLocals ret, Jvm.Cond.code ({ cls := "org/everroll/InstantsIntoStepPinLaw", name := "pickStep", desc := "(JI)J" } : Jvm.MethodName) method_2_code (6 : Nat) (Option.some Jvm.ClassFile.FieldType.long), Jvm.Cond.code ({ cls := "org/everroll/InstantsIntoStepPinLaw", name := "pickTime", desc := "(JI)J" } : Jvm.MethodName) method_3_code (4 : Nat) (Option.some Jvm.ClassFile.FieldType.long), Jvm.Cond.code ({ cls := "org/everroll/Instants", name := "intoStep", desc := "(JJJ)J" } : Jvm.MethodName) prog_20_method_3_code (6 : Nat) (Option.some Jvm.ClassFile.FieldType.long), Jvm.Cond.code ({ cls := "java/lang/Math", name := "floorMod", desc := "(JJ)J" } : Jvm.MethodName) jdk_29_method_52_code (6 : Nat) (Option.some Jvm.ClassFile.FieldType.long)]
set_option maxRecDepth 65536 in
theorem codes_eq : words1.filter isCode = codes1 := rfl
theorem w_codes : ∀ c ∈ words1.filter isCode, c.before args0 about1 = true := by
  rw [codes_eq]
  intro c hc
  simp only [codes1, List.mem_cons, List.not_mem_nil, or_false] at hc
  rcases hc with rfl | rfl | rfl | rfl | rfl
  · exact w_c0
  · exact w_c1
  · exact w_c2
  · exact w_c3
  · exact w_c4
set_option maxRecDepth 65536 in
theorem w_t1 : words1.all (fun c => isCode c || c.before args0 about1) = true := by decide +kernel
theorem w_tables : (allAtoms (Jvm.Cond.code x code maxLocals ret :: tables_1)).before args0 about1 = true := by
  rw [allAtoms_all]
  show words1.all (fun c => c.before args0 about1) = true
  refine all_split ?_ w_codes
  rw [w_t1]
set_option maxRecDepth 65536 in
theorem w_case : (Jvm.Cond.and given_1 narrow_1).before args0 about1 = true := by decide +kernel
theorem w_applies : (headSpec (Jvm.Cond.code x code maxLocals ret :: tables_1) room_1).applies x e0.platform about1 = true :=
  (Spec.applies_iff w_frames).mpr ⟨w_running, w_runnable, w_alone, w_named, w_hears, w_ripe, w_room, w_tables⟩
theorem atStart : AtStart classFile x code maxLocals ret World_1 tables_1 room_1 Calls_1 rest_1 Pre_1 launch0 p0 e0 about1 theMethod args0 below0 :=
  ⟨lists_1, trivial, launch0.admits_env _ _ _, launch0.least_env, fairChoices_fair.cas, fairChoices_fair.clock, w_frames, w_args, w_heap, w_applies, trivial, trivial, w_case⟩
end start1
theorem witness_1 : WitnessClaimed_1 := ⟨start1.p0, start1.e0, start1.about1, start1.theMethod, start1.args0, start1.below0, start1.atStart⟩
end Jvm.Pilot.@@N@@
