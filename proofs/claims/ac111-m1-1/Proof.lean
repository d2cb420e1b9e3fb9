import JvmDerived
import JvmDerived.Pilot.@@N@@Statement
import JvmDerived.Pilot.@@N@@Code
set_option linter.unusedVariables false
set_option linter.unusedSimpArgs false
namespace Jvm.RoadKit
open Sem ClassFile Op Lib Jvm.Stand Jvm.Free Jvm.LawKit
section New
variable {p : Program} {l : Launch} {e : Env} {R : Room} {s : State} {m : MethodId} {args : Array Value} {below : List Frame} {meth : Method} {c : Code} {T : State} {locs : List Loc} {cells slots : Nat}
theorem retI (X : Stand p l e R s m args below meth c T locs cells slots) (hx : p.tables.exec = Jvm.exec) {pc : Nat} {Ls : Array Slot} {z : Int32} {rest : List Value} (hret : meth.sig.returnType = some .int) (hd : decode c.code pc = .ok (.ireturn, 1)) {fs : List Frame}
    (hl : ∀ (f : JFrame) (acts : List Action), f.method = m → f.locked = none → f.entered = [] → (doReturn e (T.setTop f) acts (some (.int z))).1 = T.setFrames fs) : Steps p.tables e below (T.setTop (mkF m pc Ls (.int z :: rest))) (T.setFrames fs) := by
  have hm' : T.vm.method? m = some meth := X.method'
  have hn : narrow .int (.int z) = .int z := rfl
  show Steps p.tables e below (T.setTop { method := m, pc := pc, locals := Ls, stack := _ :: rest, locked := none }) _
  jvm_step X.here [X.here.top, hx, hd, hm', hret, hn]
  first | (intro acts; rw [hl _ acts rfl rfl rfl]) | rw [hl _ _ rfl rfl rfl]
  exact Steps.refl _
end New
end Jvm.RoadKit
namespace Jvm.Pilot.@@N@@
open Jvm Jvm.ClassFile Sem Op Lib Jvm.Free Jvm.Stand Jvm.LawKit Jvm.RoadKit Bundle Jvm.Pilot.@@N@@.Jvm.D
theorem own_lmod (x y : Int64) (hx : 0 ≤ x.toInt) : (x % y).toInt = x.toInt % y.toInt := by
  rw [Int64.toInt_mod]; exact Int.tmod_eq_emod_of_nonneg hx
theorem own_imod (x y : Int32) (hx : 0 ≤ x.toInt) : (x % y).toInt = x.toInt % y.toInt := by
  rw [Int32.toInt_mod]; exact Int.tmod_eq_emod_of_nonneg hx
theorem own_lmod_rng (x y : Int64) (hx : 0 ≤ x.toInt) (hy : 0 < y.toInt) : 0 ≤ (x % y).toInt ∧ (x % y).toInt < y.toInt := by
  rw [own_lmod x y hx]; exact ⟨Int.emod_nonneg _ (by omega), Int.emod_lt_of_pos _ hy⟩
theorem own_imod_rng (x y : Int32) (hx : 0 ≤ x.toInt) (hy : 0 < y.toInt) : 0 ≤ (x % y).toInt ∧ (x % y).toInt < y.toInt := by
  rw [own_imod x y hx]; exact ⟨Int.emod_nonneg _ (by omega), Int.emod_lt_of_pos _ hy⟩
theorem own_mI (x : Int32) : 0 ≤ (x &&& (2147483647 : Int32)).toInt ∧ (x &&& (2147483647 : Int32)).toInt ≤ 2147483647 := by
  have h := c_and x 2147483647 (by decide)
  have e : (2147483647 : Int32).toInt = 2147483647 := by decide
  omega
theorem own_mL (x : Int64) : 0 ≤ (x &&& (9223372036854775807 : Int64)).toInt ∧ (x &&& (9223372036854775807 : Int64)).toInt ≤ 9223372036854775807 := by
  have h := (c_andSL x 9223372036854775807).2.2 (by decide)
  have := rng64 (x &&& (9223372036854775807 : Int64))
  omega
theorem own_nz32 {x : Int32} (h : 0 < x.toInt) : ¬ (x = (0 : Int32)) := fun e => by subst e; revert h; decide
theorem own_nz64 {x : Int64} (h : 0 < x.toInt) : ¬ (x = (0 : Int64)) := fun e => by subst e; revert h; decide
theorem own_lt32 {x y : Int32} : x < y ↔ x.toInt < y.toInt := Int32.lt_iff_toInt_lt
theorem own_lt64 {x y : Int64} : x < y ↔ x.toInt < y.toInt := Int64.lt_iff_toInt_lt
theorem own_eq32 {x y : Int32} (h : x.toInt = y.toInt) : x = y := Int32.toInt_inj.mp h
theorem own_eq64 {x y : Int64} (h : x.toInt = y.toInt) : x = y := Int64.toInt_inj.mp h
theorem d1_0 : decode prog_18_method_1_code 0 = .ok (.aload_n 0, 1) := by decide +kernel
theorem d1_1 : decode prog_18_method_1_code 1 = .ok (.invokespecial 1, 3) := by decide +kernel
theorem d1_4 : decode prog_18_method_1_code 4 = .ok (.aload_n 0, 1) := by decide +kernel
theorem d1_5 : decode prog_18_method_1_code 5 = .ok (.lload_n 1, 1) := by decide +kernel
theorem d1_6 : decode prog_18_method_1_code 6 = .ok (.putfield 7, 3) := by decide +kernel
theorem d1_9 : decode prog_18_method_1_code 9 = .ok (.return_, 1) := by decide +kernel
theorem pn_com_example_outcry_outcry_SplitMix64 : plainName "com/example/outcry/outcry/SplitMix64" = true := by first | (simp [plainName, overriddenIn]; done) | decide +kernel
theorem ef_1_RJ (m : MethodId) (x0 : Addr) (x1 : Int64) : entryFrame m #[(.ref x0), (.long x1)] 3 = mkF m 0 #[.val (.ref x0), .val (.long x1), .second] [] := by first | (simp [entryFrame, mkF, argsToLocals, Value.category]; done) | rfl
def Q_init (Z : State) (a1 : Addr) (q2 : Int64) (h0 : Heap) (n0 : Nat) (v : Option Value) (h : Heap) (L : List Loc) : Prop := v = none ∧ Fr n0 L ∧ Keep h0 h [a1] ∧ Exa Z h a1 "com/example/outcry/outcry/SplitMix64" ∧ Fld Z h a1 "com/example/outcry/outcry/SplitMix64" "state" "J" (.long q2)
set_option maxRecDepth 65536 in
set_option maxHeartbeats 40000000 in
theorem rm_init (l : Launch) (Z : State) (a0 : Array Value) (hw : ∀ d ∈ tables_1, d.before a0 Z = true) (ws : List Jvm.Cond) (a1 : Addr) (q2 : Int64) (h0 : Heap) (n0 : Nat) (Z0 : n0 ≤ h0.size) (E_a1 : Exa Z h0 a1 "com/example/outcry/outcry/SplitMix64") (F_state_a1 : Fld Z h0 a1 "com/example/outcry/outcry/SplitMix64" "state" "J" (.long (0 : Int64))) (g_a1 : n0 ≤ a1) :
    MetFree l (⟨"com/example/outcry/outcry/SplitMix64", "<init>", "(J)V"⟩ : MethodName) (head1 (Jvm.Cond.code (⟨"com/example/outcry/outcry/SplitMix64", "<init>", "(J)V"⟩ : MethodName) prog_18_method_1_code 3 none :: ws) ({ frames := 1, cells := 0, slots := 0, locals := 12 } : Room)) (fun a U => a = #[(.ref a1), (.long q2)] ∧ Z.Warmed39 U.vm ∧ U.heap = h0) (fun _ _ _ _ _ => True) (fun _ U o U' => ∃ v L, o = .returned v ∧ Q_init Z a1 q2 h0 n0 v U'.heap L ∧ FrameEnd U o U' L ({ frames := 1, cells := 0, slots := 0, locals := 12 } : Room).cells ({ frames := 1, cells := 0, slots := 0, locals := 12 } : Room).slots) := by
  refine MetFree.of_bodySF (plainFor_of_name pn_com_example_outcry_outcry_SplitMix64) hisR ?_
  intro p e s m args below meth c s₁ Bd hml0 hP hK
  obtain ⟨rfl, hZ, hh⟩ := hP
  have hx := Bd.exec
  have hby := Bd.bytes
  have hml : c.maxLocals = 3 := hml0
  have hown : s.vm.findClass "com/example/outcry/outcry/SplitMix64" = some m.cls := findClass_of_methodNamed Bd.named
  have hnm := (name_of_methodNamed Bd.named Bd.method).1
  have X0 : Stand p l e ({ frames := 1, cells := 0, slots := 0, locals := 12 } : Room) s m #[(.ref a1), (.long q2)] below meth c s₁ [] 0 0 := Stand.of_body Bd
  have e0 : s₁.heap = h0 := by rw [← hh, Bd.state]; rfl
  have N0 := Fr.nil n0
  have pre0 : ∀ t, Steps p.tables e below (s₁.setTop (mkF m 0 #[.val (.ref a1), .val (.long q2), .second] [])) t → Steps p.tables e below (s₁.setTop (entryFrame m #[(.ref a1), (.long q2)] 3)) t := fun t k => castTop (ef_1_RJ m a1 q2) k
  obtain ⟨T1, X1, e1, st1⟩ := initO X0 hx hZ hown (hw _ (List.mem_of_getElem? (i := 6) rfl)) (hw _ (List.mem_of_getElem? (i := 7) rfl)) (hw _ (List.mem_of_getElem? (i := 8) rfl)) e0 (g := (mkF m 1 #[.val (.ref a1), .val (.long q2), .second] [(.ref a1)])) rfl (by rw [hml]; rfl) rfl (hb hby d1_1) (by decide) (W := 0) (by show 2 * 0 + _ ≤ _; exact Nat.le_of_eq rfl) (by decide)
  obtain ⟨T2, h2, X2, e2, W2, st2⟩ := putF X1 hx hZ hown (host := "") (Or.inl (hw _ (List.mem_of_getElem? (i := 9) rfl))) Via.refl e1 F_state_a1 E_a1 (Or.inl (hw _ (List.mem_of_getElem? (i := 10) rfl))) (hw _ (List.mem_of_getElem? (i := 1) rfl)) (ty := .long) (by decide) rfl rfl (g := (mkF m 6 #[.val (.ref a1), .val (.long q2), .second] [(.long q2), (.ref a1)])) rfl rfl (hb hby d1_6)
  have f3 : Exa Z h2 a1 "com/example/outcry/outcry/SplitMix64" := E_a1.wr W2
  have f4 : Fld Z h2 a1 "com/example/outcry/outcry/SplitMix64" "state" "J" (.long q2) := F_state_a1.same W2
  have K5 : Keep h0 h2 [a1] := (Keep.refl h0 [a1]).wr W2 (Or.inl (List.mem_of_getElem? (i := 0) rfl))
  have N6 := Fr.snoc X2 N0 g_a1
  have Zs7 : n0 ≤ h2.size := Nat.le_trans Z0 (Keep.of_wr W2).1
  obtain ⟨fs, hr, hrun, hended, hW, hsame⟩ := X2.leave (v := none) (fun _ => rfl)
  refine ⟨_, _, pre0 _ ?_, hrun, hended, _, _, rfl, ?_, ⟨_, rfl⟩, hW, hsame.mono (by decide) (by decide)⟩
  · show Steps p.tables e below (s₁.setTop (mkF m 0 #[.val (.ref a1), .val (.long q2), .second] [])) _
    refine XS.aloadN X0.here hx rfl (hb hby d1_0) rfl rfl ?_
    show Steps p.tables e below (s₁.setTop (mkF m 1 #[.val (.ref a1), .val (.long q2), .second] [(.ref a1)])) _
    refine st1 _ ?_
    show Steps p.tables e below (T1.setTop (mkF m 4 #[.val (.ref a1), .val (.long q2), .second] [])) _
    refine XS.aloadN X1.here hx rfl (hb hby d1_4) rfl rfl ?_
    show Steps p.tables e below (T1.setTop (mkF m 5 #[.val (.ref a1), .val (.long q2), .second] [(.ref a1)])) _
    refine XS.lloadN X1.here hx rfl (hb hby d1_5) rfl ?_
    show Steps p.tables e below (T1.setTop (mkF m 6 #[.val (.ref a1), .val (.long q2), .second] [(.long q2), (.ref a1)])) _
    refine st2 _ ?_
    show Steps p.tables e below (T2.setTop (mkF m 9 #[.val (.ref a1), .val (.long q2), .second] [])) _
    exact X2.returnOut hx Bd.returns (hb hby d1_9) hr
  · show Q_init Z a1 q2 h0 n0 _ T2.heap _
    rw [e2]
    exact ⟨rfl, N6, K5, f3, f4⟩
def own_m0 (w_state_a1 : Int64) : Int64 := (w_state_a1 + (-7046029254386353131 : Int64))
def own_m1 (w_state_a1 : Int64) : Int64 := (((own_m0 w_state_a1) ^^^ (((own_m0 w_state_a1).toUInt64 >>> ((30 : Int32) &&& 0x3f).toInt64.toUInt64).toInt64)) * (-4658895280553007687 : Int64))
def own_m2 (w_state_a1 : Int64) : Int64 := (((own_m1 w_state_a1) ^^^ (((own_m1 w_state_a1).toUInt64 >>> ((27 : Int32) &&& 0x3f).toInt64.toUInt64).toInt64)) * (-7723592293110705685 : Int64))
theorem d3_0 : decode prog_18_method_2_code 0 = .ok (.aload_n 0, 1) := by decide +kernel
theorem d3_1 : decode prog_18_method_2_code 1 = .ok (.dup, 1) := by decide +kernel
theorem d3_2 : decode prog_18_method_2_code 2 = .ok (.getfield 7, 3) := by decide +kernel
theorem d3_5 : decode prog_18_method_2_code 5 = .ok (.ldc2_w 13, 3) := by decide +kernel
theorem d3_8 : decode prog_18_method_2_code 8 = .ok (.ladd, 1) := by decide +kernel
theorem d3_9 : decode prog_18_method_2_code 9 = .ok (.putfield 7, 3) := by decide +kernel
theorem d3_12 : decode prog_18_method_2_code 12 = .ok (.aload_n 0, 1) := by decide +kernel
theorem d3_13 : decode prog_18_method_2_code 13 = .ok (.getfield 7, 3) := by decide +kernel
theorem d3_16 : decode prog_18_method_2_code 16 = .ok (.lstore_n 1, 1) := by decide +kernel
theorem d3_17 : decode prog_18_method_2_code 17 = .ok (.lload_n 1, 1) := by decide +kernel
theorem d3_18 : decode prog_18_method_2_code 18 = .ok (.lload_n 1, 1) := by decide +kernel
theorem d3_19 : decode prog_18_method_2_code 19 = .ok (.bipush 30, 2) := by decide +kernel
theorem d3_21 : decode prog_18_method_2_code 21 = .ok (.lushr, 1) := by decide +kernel
theorem d3_22 : decode prog_18_method_2_code 22 = .ok (.lxor, 1) := by decide +kernel
theorem d3_23 : decode prog_18_method_2_code 23 = .ok (.ldc2_w 15, 3) := by decide +kernel
theorem d3_26 : decode prog_18_method_2_code 26 = .ok (.lmul, 1) := by decide +kernel
theorem d3_27 : decode prog_18_method_2_code 27 = .ok (.lstore_n 1, 1) := by decide +kernel
theorem d3_28 : decode prog_18_method_2_code 28 = .ok (.lload_n 1, 1) := by decide +kernel
theorem d3_29 : decode prog_18_method_2_code 29 = .ok (.lload_n 1, 1) := by decide +kernel
theorem d3_30 : decode prog_18_method_2_code 30 = .ok (.bipush 27, 2) := by decide +kernel
theorem d3_32 : decode prog_18_method_2_code 32 = .ok (.lushr, 1) := by decide +kernel
theorem d3_33 : decode prog_18_method_2_code 33 = .ok (.lxor, 1) := by decide +kernel
theorem d3_34 : decode prog_18_method_2_code 34 = .ok (.ldc2_w 17, 3) := by decide +kernel
theorem d3_37 : decode prog_18_method_2_code 37 = .ok (.lmul, 1) := by decide +kernel
theorem d3_38 : decode prog_18_method_2_code 38 = .ok (.lstore_n 1, 1) := by decide +kernel
theorem d3_39 : decode prog_18_method_2_code 39 = .ok (.lload_n 1, 1) := by decide +kernel
theorem d3_40 : decode prog_18_method_2_code 40 = .ok (.lload_n 1, 1) := by decide +kernel
theorem d3_41 : decode prog_18_method_2_code 41 = .ok (.bipush 31, 2) := by decide +kernel
theorem d3_43 : decode prog_18_method_2_code 43 = .ok (.lushr, 1) := by decide +kernel
theorem d3_44 : decode prog_18_method_2_code 44 = .ok (.lxor, 1) := by decide +kernel
theorem d3_45 : decode prog_18_method_2_code 45 = .ok (.lreturn, 1) := by decide +kernel
theorem ef_3_R (m : MethodId) (x0 : Addr) : entryFrame m #[(.ref x0)] 3 = mkF m 0 #[.val (.ref x0), .unset, .unset] [] := by first | (simp [entryFrame, mkF, argsToLocals, Value.category]; done) | rfl
def Q_next (Z : State) (a1 : Addr) (w_state_a1 : Int64) (h0 : Heap) (n0 : Nat) (v : Option Value) (h : Heap) (L : List Loc) : Prop := v = some (.long ((own_m2 w_state_a1) ^^^ (((own_m2 w_state_a1).toUInt64 >>> ((31 : Int32) &&& 0x3f).toInt64.toUInt64).toInt64))) ∧ Fr n0 L ∧ Keep h0 h [a1] ∧ Fld Z h a1 "com/example/outcry/outcry/SplitMix64" "state" "J" (.long (w_state_a1 + (-7046029254386353131 : Int64))) ∧ Exa Z h a1 "com/example/outcry/outcry/SplitMix64"
set_option maxRecDepth 65536 in
set_option maxHeartbeats 40000000 in
theorem rm_next (l : Launch) (Z : State) (a0 : Array Value) (hw : ∀ d ∈ tables_1, d.before a0 Z = true) (ws : List Jvm.Cond) (a1 : Addr) (w_state_a1 : Int64) (h0 : Heap) (n0 : Nat) (Z0 : n0 ≤ h0.size) (F_state_a1 : Fld Z h0 a1 "com/example/outcry/outcry/SplitMix64" "state" "J" (.long w_state_a1)) (E_a1 : Exa Z h0 a1 "com/example/outcry/outcry/SplitMix64") (g_a1 : n0 ≤ a1) :
    MetFree l (⟨"com/example/outcry/outcry/SplitMix64", "nextLong", "()J"⟩ : MethodName) (head1 (Jvm.Cond.code (⟨"com/example/outcry/outcry/SplitMix64", "nextLong", "()J"⟩ : MethodName) prog_18_method_2_code 3 (some .long) :: ws) ({ frames := 0, cells := 0, slots := 0, locals := 0 } : Room)) (fun a U => a = #[(.ref a1)] ∧ Z.Warmed39 U.vm ∧ U.heap = h0) (fun _ _ _ _ _ => True) (fun _ U o U' => ∃ v L, o = .returned v ∧ Q_next Z a1 w_state_a1 h0 n0 v U'.heap L ∧ FrameEnd U o U' L ({ frames := 0, cells := 0, slots := 0, locals := 0 } : Room).cells ({ frames := 0, cells := 0, slots := 0, locals := 0 } : Room).slots) := by
  refine MetFree.of_bodySF (plainFor_of_name pn_com_example_outcry_outcry_SplitMix64) hisR ?_
  intro p e s m args below meth c s₁ Bd hml0 hP hK
  obtain ⟨rfl, hZ, hh⟩ := hP
  have hx := Bd.exec
  have hby := Bd.bytes
  have hml : c.maxLocals = 3 := hml0
  have hown : s.vm.findClass "com/example/outcry/outcry/SplitMix64" = some m.cls := findClass_of_methodNamed Bd.named
  have hnm := (name_of_methodNamed Bd.named Bd.method).1
  have X0 : Stand p l e ({ frames := 0, cells := 0, slots := 0, locals := 0 } : Room) s m #[(.ref a1)] below meth c s₁ [] 0 0 := Stand.of_body Bd
  have e0 : s₁.heap = h0 := by rw [← hh, Bd.state]; rfl
  have N0 := Fr.nil n0
  have pre0 : ∀ t, Steps p.tables e below (s₁.setTop (mkF m 0 #[.val (.ref a1), .unset, .unset] [])) t → Steps p.tables e below (s₁.setTop (entryFrame m #[(.ref a1)] 3)) t := fun t k => castTop (ef_3_R m a1) k
  obtain ⟨T1, X1, e1, st1⟩ := getF X0 hx hZ hown (host := "") (Or.inl (hw _ (List.mem_of_getElem? (i := 9) rfl))) Via.refl e0 F_state_a1 (g := (mkF m 2 #[.val (.ref a1), .unset, .unset] [(.ref a1), (.ref a1)])) rfl rfl (hb hby d3_2)
  obtain ⟨T2, h2, X2, e2, W2, st2⟩ := putF X1 hx hZ hown (host := "") (Or.inl (hw _ (List.mem_of_getElem? (i := 9) rfl))) Via.refl e1 F_state_a1 E_a1 (Or.inl (hw _ (List.mem_of_getElem? (i := 10) rfl))) (hw _ (List.mem_of_getElem? (i := 1) rfl)) (ty := .long) (by decide) rfl rfl (g := (mkF m 9 #[.val (.ref a1), .unset, .unset] [(.long (w_state_a1 + (-7046029254386353131 : Int64))), (.ref a1)])) rfl rfl (hb hby d3_9)
  have f3 : Fld Z h2 a1 "com/example/outcry/outcry/SplitMix64" "state" "J" (.long (w_state_a1 + (-7046029254386353131 : Int64))) := F_state_a1.same W2
  have f4 : Exa Z h2 a1 "com/example/outcry/outcry/SplitMix64" := E_a1.wr W2
  have K5 : Keep h0 h2 [a1] := (Keep.refl h0 [a1]).wr W2 (Or.inl (List.mem_of_getElem? (i := 0) rfl))
  have N6 := Fr.snoc X2 N0 g_a1
  have Zs7 : n0 ≤ h2.size := Nat.le_trans Z0 (Keep.of_wr W2).1
  obtain ⟨T8, X8, e8, st8⟩ := getF X2 hx hZ hown (host := "") (Or.inl (hw _ (List.mem_of_getElem? (i := 9) rfl))) Via.refl e2 f3 (g := (mkF m 13 #[.val (.ref a1), .unset, .unset] [(.ref a1)])) rfl rfl (hb hby d3_13)
  obtain ⟨fs, hr, hrun, hended, hW, hsame⟩ := X8.leave (v := some (.long ((own_m2 w_state_a1) ^^^ (((own_m2 w_state_a1).toUInt64 >>> ((31 : Int32) &&& 0x3f).toInt64.toUInt64).toInt64)))) (fun h => by rw [Bd.returns] at h; cases h)
  refine ⟨_, _, pre0 _ ?_, hrun, hended, _, _, rfl, ?_, ⟨_, rfl⟩, hW, hsame.mono (by decide) (by decide)⟩
  · show Steps p.tables e below (s₁.setTop (mkF m 0 #[.val (.ref a1), .unset, .unset] [])) _
    refine XS.aloadN X0.here hx rfl (hb hby d3_0) rfl rfl ?_
    show Steps p.tables e below (s₁.setTop (mkF m 1 #[.val (.ref a1), .unset, .unset] [(.ref a1)])) _
    refine XS.dup X0.here hx rfl (hb hby d3_1) rfl rfl ?_
    show Steps p.tables e below (s₁.setTop (mkF m 2 #[.val (.ref a1), .unset, .unset] [(.ref a1), (.ref a1)])) _
    refine st1 _ ?_
    show Steps p.tables e below (T1.setTop (mkF m 5 #[.val (.ref a1), .unset, .unset] [(.long w_state_a1), (.ref a1)])) _
    refine X1.ldc2Long hx hown (mvT hZ (hw _ (List.mem_of_getElem? (i := 16) rfl))) (g := (mkF m 5 #[.val (.ref a1), .unset, .unset] [(.long w_state_a1), (.ref a1)])) rfl (hb hby d3_5) _ ?_
    show Steps p.tables e below (T1.setTop (mkF m 8 #[.val (.ref a1), .unset, .unset] [(.long (-7046029254386353131 : Int64)), (.long w_state_a1), (.ref a1)])) _
    refine XS.ladd X1.here hx rfl (hb hby d3_8) rfl ?_
    show Steps p.tables e below (T1.setTop (mkF m 9 #[.val (.ref a1), .unset, .unset] [(.long (w_state_a1 + (-7046029254386353131 : Int64))), (.ref a1)])) _
    refine st2 _ ?_
    show Steps p.tables e below (T2.setTop (mkF m 12 #[.val (.ref a1), .unset, .unset] [])) _
    refine XS.aloadN X2.here hx rfl (hb hby d3_12) rfl rfl ?_
    show Steps p.tables e below (T2.setTop (mkF m 13 #[.val (.ref a1), .unset, .unset] [(.ref a1)])) _
    refine st8 _ ?_
    show Steps p.tables e below (T8.setTop (mkF m 16 #[.val (.ref a1), .unset, .unset] [(.long (w_state_a1 + (-7046029254386353131 : Int64)))])) _
    refine XS.lstoreN X8.here hx rfl (hb hby d3_16) rfl (l' := #[.val (.ref a1), .val (.long (own_m0 w_state_a1)), .second]) rfl ?_
    show Steps p.tables e below (T8.setTop (mkF m 17 #[.val (.ref a1), .val (.long (own_m0 w_state_a1)), .second] [])) _
    refine XS.lloadN X8.here hx rfl (hb hby d3_17) rfl ?_
    show Steps p.tables e below (T8.setTop (mkF m 18 #[.val (.ref a1), .val (.long (own_m0 w_state_a1)), .second] [(.long (own_m0 w_state_a1))])) _
    refine XS.lloadN X8.here hx rfl (hb hby d3_18) rfl ?_
    show Steps p.tables e below (T8.setTop (mkF m 19 #[.val (.ref a1), .val (.long (own_m0 w_state_a1)), .second] [(.long (own_m0 w_state_a1)), (.long (own_m0 w_state_a1))])) _
    refine XS.bipush X8.here hx rfl (hb hby d3_19) ?_
    show Steps p.tables e below (T8.setTop (mkF m 21 #[.val (.ref a1), .val (.long (own_m0 w_state_a1)), .second] [(.int (30 : Int32)), (.long (own_m0 w_state_a1)), (.long (own_m0 w_state_a1))])) _
    refine XS.lushr X8.here hx rfl (hb hby d3_21) rfl ?_
    show Steps p.tables e below (T8.setTop (mkF m 22 #[.val (.ref a1), .val (.long (own_m0 w_state_a1)), .second] [(.long (((own_m0 w_state_a1).toUInt64 >>> ((30 : Int32) &&& 0x3f).toInt64.toUInt64).toInt64)), (.long (own_m0 w_state_a1))])) _
    refine XS.lxor X8.here hx rfl (hb hby d3_22) rfl ?_
    show Steps p.tables e below (T8.setTop (mkF m 23 #[.val (.ref a1), .val (.long (own_m0 w_state_a1)), .second] [(.long ((own_m0 w_state_a1) ^^^ (((own_m0 w_state_a1).toUInt64 >>> ((30 : Int32) &&& 0x3f).toInt64.toUInt64).toInt64)))])) _
    refine X8.ldc2Long hx hown (mvT hZ (hw _ (List.mem_of_getElem? (i := 17) rfl))) (g := (mkF m 23 #[.val (.ref a1), .val (.long (own_m0 w_state_a1)), .second] [(.long ((own_m0 w_state_a1) ^^^ (((own_m0 w_state_a1).toUInt64 >>> ((30 : Int32) &&& 0x3f).toInt64.toUInt64).toInt64)))])) rfl (hb hby d3_23) _ ?_
    show Steps p.tables e below (T8.setTop (mkF m 26 #[.val (.ref a1), .val (.long (own_m0 w_state_a1)), .second] [(.long (-4658895280553007687 : Int64)), (.long ((own_m0 w_state_a1) ^^^ (((own_m0 w_state_a1).toUInt64 >>> ((30 : Int32) &&& 0x3f).toInt64.toUInt64).toInt64)))])) _
    refine XS.lmul X8.here hx rfl (hb hby d3_26) rfl ?_
    show Steps p.tables e below (T8.setTop (mkF m 27 #[.val (.ref a1), .val (.long (own_m0 w_state_a1)), .second] [(.long (((own_m0 w_state_a1) ^^^ (((own_m0 w_state_a1).toUInt64 >>> ((30 : Int32) &&& 0x3f).toInt64.toUInt64).toInt64)) * (-4658895280553007687 : Int64)))])) _
    refine XS.lstoreN X8.here hx rfl (hb hby d3_27) rfl (l' := #[.val (.ref a1), .val (.long (own_m1 w_state_a1)), .second]) rfl ?_
    show Steps p.tables e below (T8.setTop (mkF m 28 #[.val (.ref a1), .val (.long (own_m1 w_state_a1)), .second] [])) _
    refine XS.lloadN X8.here hx rfl (hb hby d3_28) rfl ?_
    show Steps p.tables e below (T8.setTop (mkF m 29 #[.val (.ref a1), .val (.long (own_m1 w_state_a1)), .second] [(.long (own_m1 w_state_a1))])) _
    refine XS.lloadN X8.here hx rfl (hb hby d3_29) rfl ?_
    show Steps p.tables e below (T8.setTop (mkF m 30 #[.val (.ref a1), .val (.long (own_m1 w_state_a1)), .second] [(.long (own_m1 w_state_a1)), (.long (own_m1 w_state_a1))])) _
    refine XS.bipush X8.here hx rfl (hb hby d3_30) ?_
    show Steps p.tables e below (T8.setTop (mkF m 32 #[.val (.ref a1), .val (.long (own_m1 w_state_a1)), .second] [(.int (27 : Int32)), (.long (own_m1 w_state_a1)), (.long (own_m1 w_state_a1))])) _
    refine XS.lushr X8.here hx rfl (hb hby d3_32) rfl ?_
    show Steps p.tables e below (T8.setTop (mkF m 33 #[.val (.ref a1), .val (.long (own_m1 w_state_a1)), .second] [(.long (((own_m1 w_state_a1).toUInt64 >>> ((27 : Int32) &&& 0x3f).toInt64.toUInt64).toInt64)), (.long (own_m1 w_state_a1))])) _
    refine XS.lxor X8.here hx rfl (hb hby d3_33) rfl ?_
    show Steps p.tables e below (T8.setTop (mkF m 34 #[.val (.ref a1), .val (.long (own_m1 w_state_a1)), .second] [(.long ((own_m1 w_state_a1) ^^^ (((own_m1 w_state_a1).toUInt64 >>> ((27 : Int32) &&& 0x3f).toInt64.toUInt64).toInt64)))])) _
    refine X8.ldc2Long hx hown (mvT hZ (hw _ (List.mem_of_getElem? (i := 18) rfl))) (g := (mkF m 34 #[.val (.ref a1), .val (.long (own_m1 w_state_a1)), .second] [(.long ((own_m1 w_state_a1) ^^^ (((own_m1 w_state_a1).toUInt64 >>> ((27 : Int32) &&& 0x3f).toInt64.toUInt64).toInt64)))])) rfl (hb hby d3_34) _ ?_
    show Steps p.tables e below (T8.setTop (mkF m 37 #[.val (.ref a1), .val (.long (own_m1 w_state_a1)), .second] [(.long (-7723592293110705685 : Int64)), (.long ((own_m1 w_state_a1) ^^^ (((own_m1 w_state_a1).toUInt64 >>> ((27 : Int32) &&& 0x3f).toInt64.toUInt64).toInt64)))])) _
    refine XS.lmul X8.here hx rfl (hb hby d3_37) rfl ?_
    show Steps p.tables e below (T8.setTop (mkF m 38 #[.val (.ref a1), .val (.long (own_m1 w_state_a1)), .second] [(.long (((own_m1 w_state_a1) ^^^ (((own_m1 w_state_a1).toUInt64 >>> ((27 : Int32) &&& 0x3f).toInt64.toUInt64).toInt64)) * (-7723592293110705685 : Int64)))])) _
    refine XS.lstoreN X8.here hx rfl (hb hby d3_38) rfl (l' := #[.val (.ref a1), .val (.long (own_m2 w_state_a1)), .second]) rfl ?_
    show Steps p.tables e below (T8.setTop (mkF m 39 #[.val (.ref a1), .val (.long (own_m2 w_state_a1)), .second] [])) _
    refine XS.lloadN X8.here hx rfl (hb hby d3_39) rfl ?_
    show Steps p.tables e below (T8.setTop (mkF m 40 #[.val (.ref a1), .val (.long (own_m2 w_state_a1)), .second] [(.long (own_m2 w_state_a1))])) _
    refine XS.lloadN X8.here hx rfl (hb hby d3_40) rfl ?_
    show Steps p.tables e below (T8.setTop (mkF m 41 #[.val (.ref a1), .val (.long (own_m2 w_state_a1)), .second] [(.long (own_m2 w_state_a1)), (.long (own_m2 w_state_a1))])) _
    refine XS.bipush X8.here hx rfl (hb hby d3_41) ?_
    show Steps p.tables e below (T8.setTop (mkF m 43 #[.val (.ref a1), .val (.long (own_m2 w_state_a1)), .second] [(.int (31 : Int32)), (.long (own_m2 w_state_a1)), (.long (own_m2 w_state_a1))])) _
    refine XS.lushr X8.here hx rfl (hb hby d3_43) rfl ?_
    show Steps p.tables e below (T8.setTop (mkF m 44 #[.val (.ref a1), .val (.long (own_m2 w_state_a1)), .second] [(.long (((own_m2 w_state_a1).toUInt64 >>> ((31 : Int32) &&& 0x3f).toInt64.toUInt64).toInt64)), (.long (own_m2 w_state_a1))])) _
    refine XS.lxor X8.here hx rfl (hb hby d3_44) rfl ?_
    show Steps p.tables e below (T8.setTop (mkF m 45 #[.val (.ref a1), .val (.long (own_m2 w_state_a1)), .second] [(.long ((own_m2 w_state_a1) ^^^ (((own_m2 w_state_a1).toUInt64 >>> ((31 : Int32) &&& 0x3f).toInt64.toUInt64).toInt64)))])) _
    exact retOut X8 hx (t := .long) (i := .lreturn) Bd.returns rfl (Or.inr (Or.inl ⟨rfl, rfl, _, rfl⟩)) (hb hby d3_45) hr
  · show Q_next Z a1 w_state_a1 h0 n0 _ T8.heap _
    rw [e8]
    exact ⟨rfl, N6, K5, f3, f4⟩
def own_u1 (q1 : Int64) : Int64 := ((q1 ^^^ ((q1.toUInt64 >>> ((31 : Int32) &&& 0x3f).toInt64.toUInt64).toInt64)) ^^^ ((q1.toUInt64 >>> ((62 : Int32) &&& 0x3f).toInt64.toUInt64).toInt64))
def own_u2 (q1 : Int64) : Int64 := ((own_u1 q1) * (3573116690164977347 : Int64))
def own_u3 (q1 : Int64) : Int64 := (((own_u2 q1) ^^^ (((own_u2 q1).toUInt64 >>> ((27 : Int32) &&& 0x3f).toInt64.toUInt64).toInt64)) ^^^ (((own_u2 q1).toUInt64 >>> ((54 : Int32) &&& 0x3f).toInt64.toUInt64).toInt64))
def own_u4 (q1 : Int64) : Int64 := ((own_u3 q1) * (-7575587736534282103 : Int64))
def own_u5 (q1 : Int64) : Int64 := (((own_u4 q1) ^^^ (((own_u4 q1).toUInt64 >>> ((30 : Int32) &&& 0x3f).toInt64.toUInt64).toInt64)) ^^^ (((own_u4 q1).toUInt64 >>> ((60 : Int32) &&& 0x3f).toInt64.toUInt64).toInt64))
theorem d4_0 : decode method_2_code 0 = .ok (.lload_n 0, 1) := by decide +kernel
theorem d4_1 : decode method_2_code 1 = .ok (.lload_n 0, 1) := by decide +kernel
theorem d4_2 : decode method_2_code 2 = .ok (.bipush 31, 2) := by decide +kernel
theorem d4_4 : decode method_2_code 4 = .ok (.lushr, 1) := by decide +kernel
theorem d4_5 : decode method_2_code 5 = .ok (.lxor, 1) := by decide +kernel
theorem d4_6 : decode method_2_code 6 = .ok (.lload_n 0, 1) := by decide +kernel
theorem d4_7 : decode method_2_code 7 = .ok (.bipush 62, 2) := by decide +kernel
theorem d4_9 : decode method_2_code 9 = .ok (.lushr, 1) := by decide +kernel
theorem d4_10 : decode method_2_code 10 = .ok (.lxor, 1) := by decide +kernel
theorem d4_11 : decode method_2_code 11 = .ok (.lstore_n 2, 1) := by decide +kernel
theorem d4_12 : decode method_2_code 12 = .ok (.lload_n 2, 1) := by decide +kernel
theorem d4_13 : decode method_2_code 13 = .ok (.ldc2_w 7, 3) := by decide +kernel
theorem d4_16 : decode method_2_code 16 = .ok (.lmul, 1) := by decide +kernel
theorem d4_17 : decode method_2_code 17 = .ok (.lstore_n 2, 1) := by decide +kernel
theorem d4_18 : decode method_2_code 18 = .ok (.lload_n 2, 1) := by decide +kernel
theorem d4_19 : decode method_2_code 19 = .ok (.lload_n 2, 1) := by decide +kernel
theorem d4_20 : decode method_2_code 20 = .ok (.bipush 27, 2) := by decide +kernel
theorem d4_22 : decode method_2_code 22 = .ok (.lushr, 1) := by decide +kernel
theorem d4_23 : decode method_2_code 23 = .ok (.lxor, 1) := by decide +kernel
theorem d4_24 : decode method_2_code 24 = .ok (.lload_n 2, 1) := by decide +kernel
theorem d4_25 : decode method_2_code 25 = .ok (.bipush 54, 2) := by decide +kernel
theorem d4_27 : decode method_2_code 27 = .ok (.lushr, 1) := by decide +kernel
theorem d4_28 : decode method_2_code 28 = .ok (.lxor, 1) := by decide +kernel
theorem d4_29 : decode method_2_code 29 = .ok (.lstore_n 2, 1) := by decide +kernel
theorem d4_30 : decode method_2_code 30 = .ok (.lload_n 2, 1) := by decide +kernel
theorem d4_31 : decode method_2_code 31 = .ok (.ldc2_w 9, 3) := by decide +kernel
theorem d4_34 : decode method_2_code 34 = .ok (.lmul, 1) := by decide +kernel
theorem d4_35 : decode method_2_code 35 = .ok (.lstore_n 2, 1) := by decide +kernel
theorem d4_36 : decode method_2_code 36 = .ok (.lload_n 2, 1) := by decide +kernel
theorem d4_37 : decode method_2_code 37 = .ok (.lload_n 2, 1) := by decide +kernel
theorem d4_38 : decode method_2_code 38 = .ok (.bipush 30, 2) := by decide +kernel
theorem d4_40 : decode method_2_code 40 = .ok (.lushr, 1) := by decide +kernel
theorem d4_41 : decode method_2_code 41 = .ok (.lxor, 1) := by decide +kernel
theorem d4_42 : decode method_2_code 42 = .ok (.lload_n 2, 1) := by decide +kernel
theorem d4_43 : decode method_2_code 43 = .ok (.bipush 60, 2) := by decide +kernel
theorem d4_45 : decode method_2_code 45 = .ok (.lushr, 1) := by decide +kernel
theorem d4_46 : decode method_2_code 46 = .ok (.lxor, 1) := by decide +kernel
theorem d4_47 : decode method_2_code 47 = .ok (.lstore_n 2, 1) := by decide +kernel
theorem d4_48 : decode method_2_code 48 = .ok (.lload_n 2, 1) := by decide +kernel
theorem d4_49 : decode method_2_code 49 = .ok (.lreturn, 1) := by decide +kernel
theorem pn_com_example_outcry_outcry_SplitMix64NextLongPinLaw : plainName "com/example/outcry/outcry/SplitMix64NextLongPinLaw" = true := by first | (simp [plainName, overriddenIn]; done) | decide +kernel
theorem ef_4_J (m : MethodId) (x0 : Int64) : entryFrame m #[(.long x0)] 4 = mkF m 0 #[.val (.long x0), .second, .unset, .unset] [] := by first | (simp [entryFrame, mkF, argsToLocals, Value.category]; done) | rfl
def Q_unmix (Z : State) (q1 : Int64) (h0 : Heap) (n0 : Nat) (v : Option Value) (h : Heap) (L : List Loc) : Prop := v = some (.long (own_u5 q1)) ∧ Fr n0 L ∧ h = h0
set_option maxRecDepth 65536 in
set_option maxHeartbeats 40000000 in
theorem rm_unmix (l : Launch) (Z : State) (a0 : Array Value) (hw : ∀ d ∈ tables_1, d.before a0 Z = true) (ws : List Jvm.Cond) (q1 : Int64) (h0 : Heap) (n0 : Nat) (Z0 : n0 ≤ h0.size) :
    MetFree l (⟨"com/example/outcry/outcry/SplitMix64NextLongPinLaw", "unmix", "(J)J"⟩ : MethodName) (head1 (Jvm.Cond.code (⟨"com/example/outcry/outcry/SplitMix64NextLongPinLaw", "unmix", "(J)J"⟩ : MethodName) method_2_code 4 (some .long) :: ws) ({ frames := 0, cells := 0, slots := 0, locals := 0 } : Room)) (fun a U => a = #[(.long q1)] ∧ Z.Warmed39 U.vm ∧ U.heap = h0) (fun _ _ _ _ _ => True) (fun _ U o U' => ∃ v L, o = .returned v ∧ Q_unmix Z q1 h0 n0 v U'.heap L ∧ FrameEnd U o U' L ({ frames := 0, cells := 0, slots := 0, locals := 0 } : Room).cells ({ frames := 0, cells := 0, slots := 0, locals := 0 } : Room).slots) := by
  refine MetFree.of_bodySF (plainFor_of_name pn_com_example_outcry_outcry_SplitMix64NextLongPinLaw) hisR ?_
  intro p e s m args below meth c s₁ Bd hml0 hP hK
  obtain ⟨rfl, hZ, hh⟩ := hP
  have hx := Bd.exec
  have hby := Bd.bytes
  have hml : c.maxLocals = 4 := hml0
  have hown : s.vm.findClass "com/example/outcry/outcry/SplitMix64NextLongPinLaw" = some m.cls := findClass_of_methodNamed Bd.named
  have hnm := (name_of_methodNamed Bd.named Bd.method).1
  have X0 : Stand p l e ({ frames := 0, cells := 0, slots := 0, locals := 0 } : Room) s m #[(.long q1)] below meth c s₁ [] 0 0 := Stand.of_body Bd
  have e0 : s₁.heap = h0 := by rw [← hh, Bd.state]; rfl
  have N0 := Fr.nil n0
  have pre0 : ∀ t, Steps p.tables e below (s₁.setTop (mkF m 0 #[.val (.long q1), .second, .unset, .unset] [])) t → Steps p.tables e below (s₁.setTop (entryFrame m #[(.long q1)] 4)) t := fun t k => castTop (ef_4_J m q1) k
  obtain ⟨fs, hr, hrun, hended, hW, hsame⟩ := X0.leave (v := some (.long (own_u5 q1))) (fun h => by rw [Bd.returns] at h; cases h)
  refine ⟨_, _, pre0 _ ?_, hrun, hended, _, _, rfl, ?_, ⟨_, rfl⟩, hW, hsame.mono (by decide) (by decide)⟩
  · show Steps p.tables e below (s₁.setTop (mkF m 0 #[.val (.long q1), .second, .unset, .unset] [])) _
    refine XS.lloadN X0.here hx rfl (hb hby d4_0) rfl ?_
    show Steps p.tables e below (s₁.setTop (mkF m 1 #[.val (.long q1), .second, .unset, .unset] [(.long q1)])) _
    refine XS.lloadN X0.here hx rfl (hb hby d4_1) rfl ?_
    show Steps p.tables e below (s₁.setTop (mkF m 2 #[.val (.long q1), .second, .unset, .unset] [(.long q1), (.long q1)])) _
    refine XS.bipush X0.here hx rfl (hb hby d4_2) ?_
    show Steps p.tables e below (s₁.setTop (mkF m 4 #[.val (.long q1), .second, .unset, .unset] [(.int (31 : Int32)), (.long q1), (.long q1)])) _
    refine XS.lushr X0.here hx rfl (hb hby d4_4) rfl ?_
    show Steps p.tables e below (s₁.setTop (mkF m 5 #[.val (.long q1), .second, .unset, .unset] [(.long ((q1.toUInt64 >>> ((31 : Int32) &&& 0x3f).toInt64.toUInt64).toInt64)), (.long q1)])) _
    refine XS.lxor X0.here hx rfl (hb hby d4_5) rfl ?_
    show Steps p.tables e below (s₁.setTop (mkF m 6 #[.val (.long q1), .second, .unset, .unset] [(.long (q1 ^^^ ((q1.toUInt64 >>> ((31 : Int32) &&& 0x3f).toInt64.toUInt64).toInt64)))])) _
    refine XS.lloadN X0.here hx rfl (hb hby d4_6) rfl ?_
    show Steps p.tables e below (s₁.setTop (mkF m 7 #[.val (.long q1), .second, .unset, .unset] [(.long q1), (.long (q1 ^^^ ((q1.toUInt64 >>> ((31 : Int32) &&& 0x3f).toInt64.toUInt64).toInt64)))])) _
    refine XS.bipush X0.here hx rfl (hb hby d4_7) ?_
    show Steps p.tables e below (s₁.setTop (mkF m 9 #[.val (.long q1), .second, .unset, .unset] [(.int (62 : Int32)), (.long q1), (.long (q1 ^^^ ((q1.toUInt64 >>> ((31 : Int32) &&& 0x3f).toInt64.toUInt64).toInt64)))])) _
    refine XS.lushr X0.here hx rfl (hb hby d4_9) rfl ?_
    show Steps p.tables e below (s₁.setTop (mkF m 10 #[.val (.long q1), .second, .unset, .unset] [(.long ((q1.toUInt64 >>> ((62 : Int32) &&& 0x3f).toInt64.toUInt64).toInt64)), (.long (q1 ^^^ ((q1.toUInt64 >>> ((31 : Int32) &&& 0x3f).toInt64.toUInt64).toInt64)))])) _
    refine XS.lxor X0.here hx rfl (hb hby d4_10) rfl ?_
    show Steps p.tables e below (s₁.setTop (mkF m 11 #[.val (.long q1), .second, .unset, .unset] [(.long ((q1 ^^^ ((q1.toUInt64 >>> ((31 : Int32) &&& 0x3f).toInt64.toUInt64).toInt64)) ^^^ ((q1.toUInt64 >>> ((62 : Int32) &&& 0x3f).toInt64.toUInt64).toInt64)))])) _
    refine XS.lstoreN X0.here hx rfl (hb hby d4_11) rfl (l' := #[.val (.long q1), .second, .val (.long (own_u1 q1)), .second]) rfl ?_
    show Steps p.tables e below (s₁.setTop (mkF m 12 #[.val (.long q1), .second, .val (.long (own_u1 q1)), .second] [])) _
    refine XS.lloadN X0.here hx rfl (hb hby d4_12) rfl ?_
    show Steps p.tables e below (s₁.setTop (mkF m 13 #[.val (.long q1), .second, .val (.long (own_u1 q1)), .second] [(.long (own_u1 q1))])) _
    refine X0.ldc2Long hx hown (mvT hZ (hw _ (List.mem_of_getElem? (i := 23) rfl))) (g := (mkF m 13 #[.val (.long q1), .second, .val (.long (own_u1 q1)), .second] [(.long (own_u1 q1))])) rfl (hb hby d4_13) _ ?_
    show Steps p.tables e below (s₁.setTop (mkF m 16 #[.val (.long q1), .second, .val (.long (own_u1 q1)), .second] [(.long (3573116690164977347 : Int64)), (.long (own_u1 q1))])) _
    refine XS.lmul X0.here hx rfl (hb hby d4_16) rfl ?_
    show Steps p.tables e below (s₁.setTop (mkF m 17 #[.val (.long q1), .second, .val (.long (own_u1 q1)), .second] [(.long ((own_u1 q1) * (3573116690164977347 : Int64)))])) _
    refine XS.lstoreN X0.here hx rfl (hb hby d4_17) rfl (l' := #[.val (.long q1), .second, .val (.long (own_u2 q1)), .second]) rfl ?_
    show Steps p.tables e below (s₁.setTop (mkF m 18 #[.val (.long q1), .second, .val (.long (own_u2 q1)), .second] [])) _
    refine XS.lloadN X0.here hx rfl (hb hby d4_18) rfl ?_
    show Steps p.tables e below (s₁.setTop (mkF m 19 #[.val (.long q1), .second, .val (.long (own_u2 q1)), .second] [(.long (own_u2 q1))])) _
    refine XS.lloadN X0.here hx rfl (hb hby d4_19) rfl ?_
    show Steps p.tables e below (s₁.setTop (mkF m 20 #[.val (.long q1), .second, .val (.long (own_u2 q1)), .second] [(.long (own_u2 q1)), (.long (own_u2 q1))])) _
    refine XS.bipush X0.here hx rfl (hb hby d4_20) ?_
    show Steps p.tables e below (s₁.setTop (mkF m 22 #[.val (.long q1), .second, .val (.long (own_u2 q1)), .second] [(.int (27 : Int32)), (.long (own_u2 q1)), (.long (own_u2 q1))])) _
    refine XS.lushr X0.here hx rfl (hb hby d4_22) rfl ?_
    show Steps p.tables e below (s₁.setTop (mkF m 23 #[.val (.long q1), .second, .val (.long (own_u2 q1)), .second] [(.long (((own_u2 q1).toUInt64 >>> ((27 : Int32) &&& 0x3f).toInt64.toUInt64).toInt64)), (.long (own_u2 q1))])) _
    refine XS.lxor X0.here hx rfl (hb hby d4_23) rfl ?_
    show Steps p.tables e below (s₁.setTop (mkF m 24 #[.val (.long q1), .second, .val (.long (own_u2 q1)), .second] [(.long ((own_u2 q1) ^^^ (((own_u2 q1).toUInt64 >>> ((27 : Int32) &&& 0x3f).toInt64.toUInt64).toInt64)))])) _
    refine XS.lloadN X0.here hx rfl (hb hby d4_24) rfl ?_
    show Steps p.tables e below (s₁.setTop (mkF m 25 #[.val (.long q1), .second, .val (.long (own_u2 q1)), .second] [(.long (own_u2 q1)), (.long ((own_u2 q1) ^^^ (((own_u2 q1).toUInt64 >>> ((27 : Int32) &&& 0x3f).toInt64.toUInt64).toInt64)))])) _
    refine XS.bipush X0.here hx rfl (hb hby d4_25) ?_
    show Steps p.tables e below (s₁.setTop (mkF m 27 #[.val (.long q1), .second, .val (.long (own_u2 q1)), .second] [(.int (54 : Int32)), (.long (own_u2 q1)), (.long ((own_u2 q1) ^^^ (((own_u2 q1).toUInt64 >>> ((27 : Int32) &&& 0x3f).toInt64.toUInt64).toInt64)))])) _
    refine XS.lushr X0.here hx rfl (hb hby d4_27) rfl ?_
    show Steps p.tables e below (s₁.setTop (mkF m 28 #[.val (.long q1), .second, .val (.long (own_u2 q1)), .second] [(.long (((own_u2 q1).toUInt64 >>> ((54 : Int32) &&& 0x3f).toInt64.toUInt64).toInt64)), (.long ((own_u2 q1) ^^^ (((own_u2 q1).toUInt64 >>> ((27 : Int32) &&& 0x3f).toInt64.toUInt64).toInt64)))])) _
    refine XS.lxor X0.here hx rfl (hb hby d4_28) rfl ?_
    show Steps p.tables e below (s₁.setTop (mkF m 29 #[.val (.long q1), .second, .val (.long (own_u2 q1)), .second] [(.long (((own_u2 q1) ^^^ (((own_u2 q1).toUInt64 >>> ((27 : Int32) &&& 0x3f).toInt64.toUInt64).toInt64)) ^^^ (((own_u2 q1).toUInt64 >>> ((54 : Int32) &&& 0x3f).toInt64.toUInt64).toInt64)))])) _
    refine XS.lstoreN X0.here hx rfl (hb hby d4_29) rfl (l' := #[.val (.long q1), .second, .val (.long (own_u3 q1)), .second]) rfl ?_
    show Steps p.tables e below (s₁.setTop (mkF m 30 #[.val (.long q1), .second, .val (.long (own_u3 q1)), .second] [])) _
    refine XS.lloadN X0.here hx rfl (hb hby d4_30) rfl ?_
    show Steps p.tables e below (s₁.setTop (mkF m 31 #[.val (.long q1), .second, .val (.long (own_u3 q1)), .second] [(.long (own_u3 q1))])) _
    refine X0.ldc2Long hx hown (mvT hZ (hw _ (List.mem_of_getElem? (i := 24) rfl))) (g := (mkF m 31 #[.val (.long q1), .second, .val (.long (own_u3 q1)), .second] [(.long (own_u3 q1))])) rfl (hb hby d4_31) _ ?_
    show Steps p.tables e below (s₁.setTop (mkF m 34 #[.val (.long q1), .second, .val (.long (own_u3 q1)), .second] [(.long (-7575587736534282103 : Int64)), (.long (own_u3 q1))])) _
    refine XS.lmul X0.here hx rfl (hb hby d4_34) rfl ?_
    show Steps p.tables e below (s₁.setTop (mkF m 35 #[.val (.long q1), .second, .val (.long (own_u3 q1)), .second] [(.long ((own_u3 q1) * (-7575587736534282103 : Int64)))])) _
    refine XS.lstoreN X0.here hx rfl (hb hby d4_35) rfl (l' := #[.val (.long q1), .second, .val (.long (own_u4 q1)), .second]) rfl ?_
    show Steps p.tables e below (s₁.setTop (mkF m 36 #[.val (.long q1), .second, .val (.long (own_u4 q1)), .second] [])) _
    refine XS.lloadN X0.here hx rfl (hb hby d4_36) rfl ?_
    show Steps p.tables e below (s₁.setTop (mkF m 37 #[.val (.long q1), .second, .val (.long (own_u4 q1)), .second] [(.long (own_u4 q1))])) _
    refine XS.lloadN X0.here hx rfl (hb hby d4_37) rfl ?_
    show Steps p.tables e below (s₁.setTop (mkF m 38 #[.val (.long q1), .second, .val (.long (own_u4 q1)), .second] [(.long (own_u4 q1)), (.long (own_u4 q1))])) _
    refine XS.bipush X0.here hx rfl (hb hby d4_38) ?_
    show Steps p.tables e below (s₁.setTop (mkF m 40 #[.val (.long q1), .second, .val (.long (own_u4 q1)), .second] [(.int (30 : Int32)), (.long (own_u4 q1)), (.long (own_u4 q1))])) _
    refine XS.lushr X0.here hx rfl (hb hby d4_40) rfl ?_
    show Steps p.tables e below (s₁.setTop (mkF m 41 #[.val (.long q1), .second, .val (.long (own_u4 q1)), .second] [(.long (((own_u4 q1).toUInt64 >>> ((30 : Int32) &&& 0x3f).toInt64.toUInt64).toInt64)), (.long (own_u4 q1))])) _
    refine XS.lxor X0.here hx rfl (hb hby d4_41) rfl ?_
    show Steps p.tables e below (s₁.setTop (mkF m 42 #[.val (.long q1), .second, .val (.long (own_u4 q1)), .second] [(.long ((own_u4 q1) ^^^ (((own_u4 q1).toUInt64 >>> ((30 : Int32) &&& 0x3f).toInt64.toUInt64).toInt64)))])) _
    refine XS.lloadN X0.here hx rfl (hb hby d4_42) rfl ?_
    show Steps p.tables e below (s₁.setTop (mkF m 43 #[.val (.long q1), .second, .val (.long (own_u4 q1)), .second] [(.long (own_u4 q1)), (.long ((own_u4 q1) ^^^ (((own_u4 q1).toUInt64 >>> ((30 : Int32) &&& 0x3f).toInt64.toUInt64).toInt64)))])) _
    refine XS.bipush X0.here hx rfl (hb hby d4_43) ?_
    show Steps p.tables e below (s₁.setTop (mkF m 45 #[.val (.long q1), .second, .val (.long (own_u4 q1)), .second] [(.int (60 : Int32)), (.long (own_u4 q1)), (.long ((own_u4 q1) ^^^ (((own_u4 q1).toUInt64 >>> ((30 : Int32) &&& 0x3f).toInt64.toUInt64).toInt64)))])) _
    refine XS.lushr X0.here hx rfl (hb hby d4_45) rfl ?_
    show Steps p.tables e below (s₁.setTop (mkF m 46 #[.val (.long q1), .second, .val (.long (own_u4 q1)), .second] [(.long (((own_u4 q1).toUInt64 >>> ((60 : Int32) &&& 0x3f).toInt64.toUInt64).toInt64)), (.long ((own_u4 q1) ^^^ (((own_u4 q1).toUInt64 >>> ((30 : Int32) &&& 0x3f).toInt64.toUInt64).toInt64)))])) _
    refine XS.lxor X0.here hx rfl (hb hby d4_46) rfl ?_
    show Steps p.tables e below (s₁.setTop (mkF m 47 #[.val (.long q1), .second, .val (.long (own_u4 q1)), .second] [(.long (((own_u4 q1) ^^^ (((own_u4 q1).toUInt64 >>> ((30 : Int32) &&& 0x3f).toInt64.toUInt64).toInt64)) ^^^ (((own_u4 q1).toUInt64 >>> ((60 : Int32) &&& 0x3f).toInt64.toUInt64).toInt64)))])) _
    refine XS.lstoreN X0.here hx rfl (hb hby d4_47) rfl (l' := #[.val (.long q1), .second, .val (.long (own_u5 q1)), .second]) rfl ?_
    show Steps p.tables e below (s₁.setTop (mkF m 48 #[.val (.long q1), .second, .val (.long (own_u5 q1)), .second] [])) _
    refine XS.lloadN X0.here hx rfl (hb hby d4_48) rfl ?_
    show Steps p.tables e below (s₁.setTop (mkF m 49 #[.val (.long q1), .second, .val (.long (own_u5 q1)), .second] [(.long (own_u5 q1))])) _
    exact retOut X0 hx (t := .long) (i := .lreturn) Bd.returns rfl (Or.inr (Or.inl ⟨rfl, rfl, _, rfl⟩)) (hb hby d4_49) hr
  · show Q_unmix Z q1 h0 n0 _ s₁.heap _
    rw [e0]
    exact ⟨rfl, N0, rfl⟩
theorem pd_0 : parseMethodDescriptor "(J)V" = some ⟨[.long], none⟩ := by decide +kernel
theorem pd_1 : parseMethodDescriptor "()J" = some ⟨[], some .long⟩ := by decide +kernel
theorem pd_2 : parseMethodDescriptor "(J)J" = some ⟨[.long], some .long⟩ := by decide +kernel
theorem ef_0_J (m : MethodId) (x0 : Int64) : entryFrame m #[(.long x0)] maxLocals = mkF m 0 #[.val (.long x0), .second, .unset, .unset, .unset, .unset, .unset] [] := by first | (simp [entryFrame, mkF, argsToLocals, Value.category, maxLocals]; done) | rfl
def Q_law (Z : State) (q1 : Int64) (h0 : Heap) (n0 : Nat) (v : Option Value) (h : Heap) (L : List Loc) : Prop := v = some (.int (1 : Int32)) ∧ Fr n0 L
def Road_ff (q1 : Int64) : Prop := ((own_u5 ((own_m2 q1) ^^^ (((own_m2 q1).toUInt64 >>> ((31 : Int32) &&& 0x3f).toInt64.toUInt64).toInt64))) = (q1 + (-7046029254386353131 : Int64))) ∧ ((own_u5 ((own_m2 (q1 + (-7046029254386353131 : Int64))) ^^^ (((own_m2 (q1 + (-7046029254386353131 : Int64))).toUInt64 >>> ((31 : Int32) &&& 0x3f).toInt64.toUInt64).toInt64))) = (q1 + (4354685564936845354 : Int64)))
set_option maxRecDepth 65536 in
set_option maxHeartbeats 40000000 in
theorem rm_law_ff (l : Launch) (Z : State) (a0 : Array Value) (hw : ∀ d ∈ tables_1, d.before a0 Z = true) (ws : List Jvm.Cond) (q1 : Int64) (h0 : Heap) (n0 : Nat) (Z0 : n0 ≤ h0.size) (hroad : Road_ff q1) :
    MetFree l x (head1 (Jvm.Cond.code x code maxLocals ret :: ws) room_1) (fun a U => a = #[(.long q1)] ∧ Z.Warmed39 U.vm ∧ U.heap = h0) (fun _ _ _ _ _ => True) (fun _ U o U' => ∃ v L, o = .returned v ∧ Q_law Z q1 h0 n0 v U'.heap L ∧ FrameEnd U o U' L room_1.cells room_1.slots) := by
  obtain ⟨hc0, hc1⟩ := hroad
  refine MetFree.of_bodySF (plainFor_of_name pn_com_example_outcry_outcry_SplitMix64NextLongPinLaw) hisR ?_
  intro p e s m args below meth c s₁ Bd hml0 hP hK
  obtain ⟨rfl, hZ, hh⟩ := hP
  have hx := Bd.exec
  have hby := Bd.bytes
  have hml : c.maxLocals = 7 := hml0
  have hown : s.vm.findClass "com/example/outcry/outcry/SplitMix64NextLongPinLaw" = some m.cls := findClass_of_methodNamed Bd.named
  have hnm := (name_of_methodNamed Bd.named Bd.method).1
  have X0 : Stand p l e room_1 s m #[(.long q1)] below meth c s₁ [] 0 0 := Stand.of_body Bd
  have e0 : s₁.heap = h0 := by rw [← hh, Bd.state]; rfl
  have N0 := Fr.nil n0
  have pre0 : ∀ t, Steps p.tables e below (s₁.setTop (mkF m 0 #[.val (.long q1), .second, .unset, .unset, .unset, .unset, .unset] [])) t → Steps p.tables e below (s₁.setTop (entryFrame m #[(.long q1)] maxLocals)) t := fun t k => castTop (ef_0_J m q1) k
  obtain ⟨T1, h1, X1, e1, E1, A1, D1, -, st1⟩ := newO X0 hx hZ hown (hw _ (List.mem_of_getElem? (i := 0) rfl)) (hw _ (List.mem_of_getElem? (i := 1) rfl)) (hw _ (List.mem_of_getElem? (i := 2) rfl)) e0 (g := (mkF m 0 #[.val (.long q1), .second, .unset, .unset, .unset, .unset, .unset] [])) rfl (hb hby at_0) (by decide) (by decide)
  obtain ⟨b1, g1⟩ : ∃ z, z = h0.size := ⟨_, rfl⟩
  rw [← g1] at A1 D1 st1
  have g_b1 : n0 ≤ b1 := Nat.le_trans Z0 (Nat.le_of_eq g1.symm)
  have Zs2 : n0 ≤ h1.size := Nat.le_trans Z0 E1.1
  have f3 : Fld Z h1 b1 "com/example/outcry/outcry/SplitMix64" "state" "J" (.long (0 : Int64)) := D1 (Or.inl (hw _ (List.mem_of_getElem? (i := 10) rfl))) (ty := .long) (by decide)
  obtain ⟨_, _, ⟨T4, L4, k4, n4⟩, -, X4, ⟨Lc4, hQ4, l4, y4, z4⟩, st4⟩ := X1.specialBack hx (y := (⟨"com/example/outcry/outcry/SplitMix64", "<init>", "(J)V"⟩ : MethodName)) rfl hown (mvT hZ (hw _ (List.mem_of_getElem? (i := 3) rfl))) (mvT hZ (hw _ (List.mem_of_getElem? (i := 4) rfl))) (mvT hZ (hw _ (List.mem_of_getElem? (i := 5) rfl))) (by decide) (backOf (W := 1) (rm_init l Z a0 hw [] b1 q1 h1 n0 Zs2 A1 f3 g_b1) hZ (hw _ (List.mem_of_getElem? (i := 5) rfl)) (hw _ (List.mem_of_getElem? (i := 2) rfl)) (by decide) (by decide)) (g := (mkF m 5 #[.val (.long q1), .second, .unset, .unset, .unset, .unset, .unset] [(.long q1), (.ref b1), (.ref b1)])) rfl (by rw [hml]; rfl) (Steps.refl _) (a := b1) (argsL := [(.long q1)]) (rest := [(.ref b1)]) (lenOf pd_0 rfl) rfl (by show 2 * 0 + _ ≤ _; exact Nat.le_of_eq rfl) (hb hby at_5) (fun _ _ => ⟨rfl, e1, (by decide : 1 + 0 ≤ _), (by decide : 1 + 0 ≤ _)⟩)
  dsimp only [Pt.U, Pt.locs, Pt.cells, Pt.slots] at X4 l4 y4 z4 st4 hQ4
  subst l4 y4 z4
  obtain ⟨rfl, Nq4, Kc4, fq4_0, fq4_1⟩ := hQ4
  have f6 : Fld Z T4.heap b1 "com/example/outcry/outcry/SplitMix64" "state" "J" (.long q1) := fq4_1
  have Zs7 : n0 ≤ T4.heap.size := Nat.le_trans Zs2 Kc4.1
  have N5 := Fr.app N0 Nq4
  obtain ⟨cq8, kq8, q8a, q8b, q8c⟩ := isOf hZ rfl fq4_0
  obtain ⟨_, _, ⟨T8, L8, k8, n8⟩, -, X8, ⟨Lc8, hQ8, l8, y8, z8⟩, st8⟩ := X4.virtualBack hx (y := (⟨"com/example/outcry/outcry/SplitMix64", "nextLong", "()J"⟩ : MethodName)) (z := (⟨"com/example/outcry/outcry/SplitMix64", "nextLong", "()J"⟩ : MethodName)) hown (mvT hZ (hw _ (List.mem_of_getElem? (i := 11) rfl))) (mvT hZ (hw _ (List.mem_of_getElem? (i := 12) rfl))) (notFace_of_selects (args := #[]) (mvT hZ (hw _ (List.mem_of_getElem? (i := 14) rfl)))) (mvT hZ (hw _ (List.mem_of_getElem? (i := 14) rfl))) (mvT hZ (hw _ (List.mem_of_getElem? (i := 13) rfl))) (by decide) (backOf (W := 0) (rm_next l Z a0 hw [] b1 q1 T4.heap n0 Zs7 f6 fq4_0 g_b1) hZ (hw _ (List.mem_of_getElem? (i := 15) rfl)) (hw _ (List.mem_of_getElem? (i := 2) rfl)) (by decide) (by decide)) q8a q8c (g := (mkF m 10 #[.val (.long q1), .second, .val (.ref b1), .unset, .unset, .unset, .unset] [(.ref b1)])) rfl (by rw [hml]; rfl) (Steps.refl _) (argsL := []) (rest := []) (lenOf pd_1 rfl) rfl (by show 2 * 0 + _ ≤ _; exact Nat.le_of_eq rfl) (hb hby at_10) (fun _ _ => ⟨rfl, rfl, (by decide : 1 + 0 ≤ _), (by decide : 1 + 0 ≤ _)⟩)
  dsimp only [Pt.U, Pt.locs, Pt.cells, Pt.slots] at X8 l8 y8 z8 st8 hQ8
  subst l8 y8 z8
  obtain ⟨rfl, Nq8, Kc8, fq8_0, fq8_1⟩ := hQ8
  have f10 : Fld Z T8.heap b1 "com/example/outcry/outcry/SplitMix64" "state" "J" (.long (q1 + (-7046029254386353131 : Int64))) := fq8_0
  have Zs11 : n0 ≤ T8.heap.size := Nat.le_trans Zs7 Kc8.1
  have N9 := Fr.app N5 Nq8
  obtain ⟨cq12, kq12, q12a, q12b, q12c⟩ := isOf hZ rfl fq8_1
  obtain ⟨_, _, ⟨T12, L12, k12, n12⟩, -, X12, ⟨Lc12, hQ12, l12, y12, z12⟩, st12⟩ := X8.virtualBack hx (y := (⟨"com/example/outcry/outcry/SplitMix64", "nextLong", "()J"⟩ : MethodName)) (z := (⟨"com/example/outcry/outcry/SplitMix64", "nextLong", "()J"⟩ : MethodName)) hown (mvT hZ (hw _ (List.mem_of_getElem? (i := 11) rfl))) (mvT hZ (hw _ (List.mem_of_getElem? (i := 12) rfl))) (notFace_of_selects (args := #[]) (mvT hZ (hw _ (List.mem_of_getElem? (i := 14) rfl)))) (mvT hZ (hw _ (List.mem_of_getElem? (i := 14) rfl))) (mvT hZ (hw _ (List.mem_of_getElem? (i := 13) rfl))) (by decide) (backOf (W := 0) (rm_next l Z a0 hw [] b1 (q1 + (-7046029254386353131 : Int64)) T8.heap n0 Zs11 f10 fq8_1 g_b1) hZ (hw _ (List.mem_of_getElem? (i := 15) rfl)) (hw _ (List.mem_of_getElem? (i := 2) rfl)) (by decide) (by decide)) q12a q12c (g := (mkF m 15 #[.val (.long q1), .second, .val (.ref b1), .val (.long ((own_m2 q1) ^^^ (((own_m2 q1).toUInt64 >>> ((31 : Int32) &&& 0x3f).toInt64.toUInt64).toInt64))), .second, .unset, .unset] [(.ref b1)])) rfl (by rw [hml]; rfl) (Steps.refl _) (argsL := []) (rest := []) (lenOf pd_1 rfl) rfl (by show 2 * 0 + _ ≤ _; exact Nat.le_of_eq rfl) (hb hby at_15) (fun _ _ => ⟨rfl, rfl, (by decide : 1 + 0 ≤ _), (by decide : 1 + 0 ≤ _)⟩)
  dsimp only [Pt.U, Pt.locs, Pt.cells, Pt.slots] at X12 l12 y12 z12 st12 hQ12
  subst l12 y12 z12
  obtain ⟨rfl, Nq12, Kc12, fq12_0, fq12_1⟩ := hQ12
  have f14 : Fld Z T12.heap b1 "com/example/outcry/outcry/SplitMix64" "state" "J" (.long ((q1 + (-7046029254386353131 : Int64)) + (-7046029254386353131 : Int64))) := fq12_0
  have Zs15 : n0 ≤ T12.heap.size := Nat.le_trans Zs11 Kc12.1
  have N13 := Fr.app N9 Nq12
  obtain ⟨_, _, ⟨T16, L16, k16, n16⟩, -, X16, ⟨Lc16, hQ16, l16, y16, z16⟩, st16⟩ := Jvm.LawKit.callS X12 hx (y := (⟨"com/example/outcry/outcry/SplitMix64NextLongPinLaw", "unmix", "(J)J"⟩ : MethodName)) hown (mvT hZ (hw _ (List.mem_of_getElem? (i := 19) rfl))) (mvT hZ (hw _ (List.mem_of_getElem? (i := 20) rfl))) (mvT hZ (hw _ (List.mem_of_getElem? (i := 21) rfl))) (mvT hZ (hw _ (List.mem_of_getElem? (i := 22) rfl))) (by decide) (backOf (W := 0) (rm_unmix l Z a0 hw [] ((own_m2 q1) ^^^ (((own_m2 q1).toUInt64 >>> ((31 : Int32) &&& 0x3f).toInt64.toUInt64).toInt64)) T12.heap n0 Zs15 ) hZ (hw _ (List.mem_of_getElem? (i := 22) rfl)) (hw _ (List.mem_of_getElem? (i := 21) rfl)) (by decide) (by decide)) (g := (mkF m 21 #[.val (.long q1), .second, .val (.ref b1), .val (.long ((own_m2 q1) ^^^ (((own_m2 q1).toUInt64 >>> ((31 : Int32) &&& 0x3f).toInt64.toUInt64).toInt64))), .second, .val (.long ((own_m2 (q1 + (-7046029254386353131 : Int64))) ^^^ (((own_m2 (q1 + (-7046029254386353131 : Int64))).toUInt64 >>> ((31 : Int32) &&& 0x3f).toInt64.toUInt64).toInt64))), .second] [(.long ((own_m2 q1) ^^^ (((own_m2 q1).toUInt64 >>> ((31 : Int32) &&& 0x3f).toInt64.toUInt64).toInt64)))])) rfl (by rw [hml]; rfl) (argsL := [(.long ((own_m2 q1) ^^^ (((own_m2 q1).toUInt64 >>> ((31 : Int32) &&& 0x3f).toInt64.toUInt64).toInt64)))]) (rest := []) (lenOf pd_2 rfl) rfl (by show 2 * 0 + _ ≤ _; exact Nat.le_of_eq rfl) (hb hby at_21) (fun _ _ => ⟨rfl, rfl, (by decide : 1 + 0 ≤ _), (by decide : 1 + 0 ≤ _)⟩)
  dsimp only [Pt.U, Pt.locs, Pt.cells, Pt.slots] at X16 l16 y16 z16 st16 hQ16
  subst l16 y16 z16
  obtain ⟨rfl, Nq16, e16⟩ := hQ16
  have N17 := Fr.app N13 Nq16
  obtain ⟨_, _, ⟨T18, L18, k18, n18⟩, -, X18, ⟨Lc18, hQ18, l18, y18, z18⟩, st18⟩ := Jvm.LawKit.callS X16 hx (y := (⟨"com/example/outcry/outcry/SplitMix64NextLongPinLaw", "unmix", "(J)J"⟩ : MethodName)) hown (mvT hZ (hw _ (List.mem_of_getElem? (i := 19) rfl))) (mvT hZ (hw _ (List.mem_of_getElem? (i := 20) rfl))) (mvT hZ (hw _ (List.mem_of_getElem? (i := 21) rfl))) (mvT hZ (hw _ (List.mem_of_getElem? (i := 22) rfl))) (by decide) (backOf (W := 0) (rm_unmix l Z a0 hw [] ((own_m2 (q1 + (-7046029254386353131 : Int64))) ^^^ (((own_m2 (q1 + (-7046029254386353131 : Int64))).toUInt64 >>> ((31 : Int32) &&& 0x3f).toInt64.toUInt64).toInt64)) T12.heap n0 Zs15 ) hZ (hw _ (List.mem_of_getElem? (i := 22) rfl)) (hw _ (List.mem_of_getElem? (i := 21) rfl)) (by decide) (by decide)) (g := (mkF m 35 #[.val (.long q1), .second, .val (.ref b1), .val (.long ((own_m2 q1) ^^^ (((own_m2 q1).toUInt64 >>> ((31 : Int32) &&& 0x3f).toInt64.toUInt64).toInt64))), .second, .val (.long ((own_m2 (q1 + (-7046029254386353131 : Int64))) ^^^ (((own_m2 (q1 + (-7046029254386353131 : Int64))).toUInt64 >>> ((31 : Int32) &&& 0x3f).toInt64.toUInt64).toInt64))), .second] [(.long ((own_m2 (q1 + (-7046029254386353131 : Int64))) ^^^ (((own_m2 (q1 + (-7046029254386353131 : Int64))).toUInt64 >>> ((31 : Int32) &&& 0x3f).toInt64.toUInt64).toInt64)))])) rfl (by rw [hml]; rfl) (argsL := [(.long ((own_m2 (q1 + (-7046029254386353131 : Int64))) ^^^ (((own_m2 (q1 + (-7046029254386353131 : Int64))).toUInt64 >>> ((31 : Int32) &&& 0x3f).toInt64.toUInt64).toInt64)))]) (rest := []) (lenOf pd_2 rfl) rfl (by show 2 * 0 + _ ≤ _; exact Nat.le_of_eq rfl) (hb hby at_35) (fun _ _ => ⟨rfl, e16, (by decide : 1 + 0 ≤ _), (by decide : 1 + 0 ≤ _)⟩)
  dsimp only [Pt.U, Pt.locs, Pt.cells, Pt.slots] at X18 l18 y18 z18 st18 hQ18
  subst l18 y18 z18
  obtain ⟨rfl, Nq18, e18⟩ := hQ18
  have N19 := Fr.app N17 Nq18
  obtain ⟨fs, hr, hrun, hended, hW, hsame⟩ := X18.leave (v := some (.int (1 : Int32))) (fun h => by rw [Bd.returns] at h; cases h)
  refine ⟨_, _, pre0 _ ?_, hrun, hended, _, _, rfl, ?_, ⟨_, rfl⟩, hW, hsame.mono (by decide) (by decide)⟩
  · show Steps p.tables e below (s₁.setTop (mkF m 0 #[.val (.long q1), .second, .unset, .unset, .unset, .unset, .unset] [])) _
    refine st1 _ ?_
    show Steps p.tables e below (T1.setTop (mkF m 3 #[.val (.long q1), .second, .unset, .unset, .unset, .unset, .unset] [(.ref b1)])) _
    refine XS.dup X1.here hx rfl (hb hby at_3) rfl rfl ?_
    show Steps p.tables e below (T1.setTop (mkF m 4 #[.val (.long q1), .second, .unset, .unset, .unset, .unset, .unset] [(.ref b1), (.ref b1)])) _
    refine XS.lloadN X1.here hx rfl (hb hby at_4) rfl ?_
    show Steps p.tables e below (T1.setTop (mkF m 5 #[.val (.long q1), .second, .unset, .unset, .unset, .unset, .unset] [(.long q1), (.ref b1), (.ref b1)])) _
    refine st4.trans ?_
    show Steps p.tables e below (T4.setTop (mkF m 8 #[.val (.long q1), .second, .unset, .unset, .unset, .unset, .unset] [(.ref b1)])) _
    refine XS.astoreN X4.here hx rfl (hb hby at_8) rfl rfl (l' := #[.val (.long q1), .second, .val (.ref b1), .unset, .unset, .unset, .unset]) rfl ?_
    show Steps p.tables e below (T4.setTop (mkF m 9 #[.val (.long q1), .second, .val (.ref b1), .unset, .unset, .unset, .unset] [])) _
    refine XS.aloadN X4.here hx rfl (hb hby at_9) rfl rfl ?_
    show Steps p.tables e below (T4.setTop (mkF m 10 #[.val (.long q1), .second, .val (.ref b1), .unset, .unset, .unset, .unset] [(.ref b1)])) _
    refine st8.trans ?_
    show Steps p.tables e below (T8.setTop (mkF m 13 #[.val (.long q1), .second, .val (.ref b1), .unset, .unset, .unset, .unset] [(.long ((own_m2 q1) ^^^ (((own_m2 q1).toUInt64 >>> ((31 : Int32) &&& 0x3f).toInt64.toUInt64).toInt64)))])) _
    refine XS.lstoreN X8.here hx rfl (hb hby at_13) rfl (l' := #[.val (.long q1), .second, .val (.ref b1), .val (.long ((own_m2 q1) ^^^ (((own_m2 q1).toUInt64 >>> ((31 : Int32) &&& 0x3f).toInt64.toUInt64).toInt64))), .second, .unset, .unset]) rfl ?_
    show Steps p.tables e below (T8.setTop (mkF m 14 #[.val (.long q1), .second, .val (.ref b1), .val (.long ((own_m2 q1) ^^^ (((own_m2 q1).toUInt64 >>> ((31 : Int32) &&& 0x3f).toInt64.toUInt64).toInt64))), .second, .unset, .unset] [])) _
    refine XS.aloadN X8.here hx rfl (hb hby at_14) rfl rfl ?_
    show Steps p.tables e below (T8.setTop (mkF m 15 #[.val (.long q1), .second, .val (.ref b1), .val (.long ((own_m2 q1) ^^^ (((own_m2 q1).toUInt64 >>> ((31 : Int32) &&& 0x3f).toInt64.toUInt64).toInt64))), .second, .unset, .unset] [(.ref b1)])) _
    refine st12.trans ?_
    show Steps p.tables e below (T12.setTop (mkF m 18 #[.val (.long q1), .second, .val (.ref b1), .val (.long ((own_m2 q1) ^^^ (((own_m2 q1).toUInt64 >>> ((31 : Int32) &&& 0x3f).toInt64.toUInt64).toInt64))), .second, .unset, .unset] [(.long ((own_m2 (q1 + (-7046029254386353131 : Int64))) ^^^ (((own_m2 (q1 + (-7046029254386353131 : Int64))).toUInt64 >>> ((31 : Int32) &&& 0x3f).toInt64.toUInt64).toInt64)))])) _
    refine XS.lstore X12.here hx rfl (hb hby at_18) rfl (l' := #[.val (.long q1), .second, .val (.ref b1), .val (.long ((own_m2 q1) ^^^ (((own_m2 q1).toUInt64 >>> ((31 : Int32) &&& 0x3f).toInt64.toUInt64).toInt64))), .second, .val (.long ((own_m2 (q1 + (-7046029254386353131 : Int64))) ^^^ (((own_m2 (q1 + (-7046029254386353131 : Int64))).toUInt64 >>> ((31 : Int32) &&& 0x3f).toInt64.toUInt64).toInt64))), .second]) rfl ?_
    show Steps p.tables e below (T12.setTop (mkF m 20 #[.val (.long q1), .second, .val (.ref b1), .val (.long ((own_m2 q1) ^^^ (((own_m2 q1).toUInt64 >>> ((31 : Int32) &&& 0x3f).toInt64.toUInt64).toInt64))), .second, .val (.long ((own_m2 (q1 + (-7046029254386353131 : Int64))) ^^^ (((own_m2 (q1 + (-7046029254386353131 : Int64))).toUInt64 >>> ((31 : Int32) &&& 0x3f).toInt64.toUInt64).toInt64))), .second] [])) _
    refine XS.lloadN X12.here hx rfl (hb hby at_20) rfl ?_
    show Steps p.tables e below (T12.setTop (mkF m 21 #[.val (.long q1), .second, .val (.ref b1), .val (.long ((own_m2 q1) ^^^ (((own_m2 q1).toUInt64 >>> ((31 : Int32) &&& 0x3f).toInt64.toUInt64).toInt64))), .second, .val (.long ((own_m2 (q1 + (-7046029254386353131 : Int64))) ^^^ (((own_m2 (q1 + (-7046029254386353131 : Int64))).toUInt64 >>> ((31 : Int32) &&& 0x3f).toInt64.toUInt64).toInt64))), .second] [(.long ((own_m2 q1) ^^^ (((own_m2 q1).toUInt64 >>> ((31 : Int32) &&& 0x3f).toInt64.toUInt64).toInt64)))])) _
    refine st16 _ ?_
    show Steps p.tables e below (T16.setTop (mkF m 24 #[.val (.long q1), .second, .val (.ref b1), .val (.long ((own_m2 q1) ^^^ (((own_m2 q1).toUInt64 >>> ((31 : Int32) &&& 0x3f).toInt64.toUInt64).toInt64))), .second, .val (.long ((own_m2 (q1 + (-7046029254386353131 : Int64))) ^^^ (((own_m2 (q1 + (-7046029254386353131 : Int64))).toUInt64 >>> ((31 : Int32) &&& 0x3f).toInt64.toUInt64).toInt64))), .second] [(.long (own_u5 ((own_m2 q1) ^^^ (((own_m2 q1).toUInt64 >>> ((31 : Int32) &&& 0x3f).toInt64.toUInt64).toInt64))))])) _
    refine XS.lloadN X16.here hx rfl (hb hby at_24) rfl ?_
    show Steps p.tables e below (T16.setTop (mkF m 25 #[.val (.long q1), .second, .val (.ref b1), .val (.long ((own_m2 q1) ^^^ (((own_m2 q1).toUInt64 >>> ((31 : Int32) &&& 0x3f).toInt64.toUInt64).toInt64))), .second, .val (.long ((own_m2 (q1 + (-7046029254386353131 : Int64))) ^^^ (((own_m2 (q1 + (-7046029254386353131 : Int64))).toUInt64 >>> ((31 : Int32) &&& 0x3f).toInt64.toUInt64).toInt64))), .second] [(.long q1), (.long (own_u5 ((own_m2 q1) ^^^ (((own_m2 q1).toUInt64 >>> ((31 : Int32) &&& 0x3f).toInt64.toUInt64).toInt64))))])) _
    refine X16.ldc2Long hx hown (mvT hZ (hw _ (List.mem_of_getElem? (i := 25) rfl))) (g := (mkF m 25 #[.val (.long q1), .second, .val (.ref b1), .val (.long ((own_m2 q1) ^^^ (((own_m2 q1).toUInt64 >>> ((31 : Int32) &&& 0x3f).toInt64.toUInt64).toInt64))), .second, .val (.long ((own_m2 (q1 + (-7046029254386353131 : Int64))) ^^^ (((own_m2 (q1 + (-7046029254386353131 : Int64))).toUInt64 >>> ((31 : Int32) &&& 0x3f).toInt64.toUInt64).toInt64))), .second] [(.long q1), (.long (own_u5 ((own_m2 q1) ^^^ (((own_m2 q1).toUInt64 >>> ((31 : Int32) &&& 0x3f).toInt64.toUInt64).toInt64))))])) rfl (hb hby at_25) _ ?_
    show Steps p.tables e below (T16.setTop (mkF m 28 #[.val (.long q1), .second, .val (.ref b1), .val (.long ((own_m2 q1) ^^^ (((own_m2 q1).toUInt64 >>> ((31 : Int32) &&& 0x3f).toInt64.toUInt64).toInt64))), .second, .val (.long ((own_m2 (q1 + (-7046029254386353131 : Int64))) ^^^ (((own_m2 (q1 + (-7046029254386353131 : Int64))).toUInt64 >>> ((31 : Int32) &&& 0x3f).toInt64.toUInt64).toInt64))), .second] [(.long (-7046029254386353131 : Int64)), (.long q1), (.long (own_u5 ((own_m2 q1) ^^^ (((own_m2 q1).toUInt64 >>> ((31 : Int32) &&& 0x3f).toInt64.toUInt64).toInt64))))])) _
    refine XS.ladd X16.here hx rfl (hb hby at_28) rfl ?_
    show Steps p.tables e below (T16.setTop (mkF m 29 #[.val (.long q1), .second, .val (.ref b1), .val (.long ((own_m2 q1) ^^^ (((own_m2 q1).toUInt64 >>> ((31 : Int32) &&& 0x3f).toInt64.toUInt64).toInt64))), .second, .val (.long ((own_m2 (q1 + (-7046029254386353131 : Int64))) ^^^ (((own_m2 (q1 + (-7046029254386353131 : Int64))).toUInt64 >>> ((31 : Int32) &&& 0x3f).toInt64.toUInt64).toInt64))), .second] [(.long (q1 + (-7046029254386353131 : Int64))), (.long (own_u5 ((own_m2 q1) ^^^ (((own_m2 q1).toUInt64 >>> ((31 : Int32) &&& 0x3f).toInt64.toUInt64).toInt64))))])) _
    refine XS.lcmp X16.here hx rfl (hb hby at_29) rfl ?_
    show Steps p.tables e below (T16.setTop (mkF m 30 #[.val (.long q1), .second, .val (.ref b1), .val (.long ((own_m2 q1) ^^^ (((own_m2 q1).toUInt64 >>> ((31 : Int32) &&& 0x3f).toInt64.toUInt64).toInt64))), .second, .val (.long ((own_m2 (q1 + (-7046029254386353131 : Int64))) ^^^ (((own_m2 (q1 + (-7046029254386353131 : Int64))).toUInt64 >>> ((31 : Int32) &&& 0x3f).toInt64.toUInt64).toInt64))), .second] [(.int (lcmpW (own_u5 ((own_m2 q1) ^^^ (((own_m2 q1).toUInt64 >>> ((31 : Int32) &&& 0x3f).toInt64.toUInt64).toInt64))) (q1 + (-7046029254386353131 : Int64))))])) _
    refine XS.ifNo X16.here hx rfl (hb hby at_30) rfl ((if0 _ _).trans (teq ((lw_eq _ _).mpr (hc0 : (own_u5 ((own_m2 q1) ^^^ (((own_m2 q1).toUInt64 >>> ((31 : Int32) &&& 0x3f).toInt64.toUInt64).toInt64))) = (q1 + (-7046029254386353131 : Int64))))).2) ?_
    show Steps p.tables e below (T16.setTop (mkF m 33 #[.val (.long q1), .second, .val (.ref b1), .val (.long ((own_m2 q1) ^^^ (((own_m2 q1).toUInt64 >>> ((31 : Int32) &&& 0x3f).toInt64.toUInt64).toInt64))), .second, .val (.long ((own_m2 (q1 + (-7046029254386353131 : Int64))) ^^^ (((own_m2 (q1 + (-7046029254386353131 : Int64))).toUInt64 >>> ((31 : Int32) &&& 0x3f).toInt64.toUInt64).toInt64))), .second] [])) _
    refine XS.lload X16.here hx rfl (hb hby at_33) rfl ?_
    show Steps p.tables e below (T16.setTop (mkF m 35 #[.val (.long q1), .second, .val (.ref b1), .val (.long ((own_m2 q1) ^^^ (((own_m2 q1).toUInt64 >>> ((31 : Int32) &&& 0x3f).toInt64.toUInt64).toInt64))), .second, .val (.long ((own_m2 (q1 + (-7046029254386353131 : Int64))) ^^^ (((own_m2 (q1 + (-7046029254386353131 : Int64))).toUInt64 >>> ((31 : Int32) &&& 0x3f).toInt64.toUInt64).toInt64))), .second] [(.long ((own_m2 (q1 + (-7046029254386353131 : Int64))) ^^^ (((own_m2 (q1 + (-7046029254386353131 : Int64))).toUInt64 >>> ((31 : Int32) &&& 0x3f).toInt64.toUInt64).toInt64)))])) _
    refine st18 _ ?_
    show Steps p.tables e below (T18.setTop (mkF m 38 #[.val (.long q1), .second, .val (.ref b1), .val (.long ((own_m2 q1) ^^^ (((own_m2 q1).toUInt64 >>> ((31 : Int32) &&& 0x3f).toInt64.toUInt64).toInt64))), .second, .val (.long ((own_m2 (q1 + (-7046029254386353131 : Int64))) ^^^ (((own_m2 (q1 + (-7046029254386353131 : Int64))).toUInt64 >>> ((31 : Int32) &&& 0x3f).toInt64.toUInt64).toInt64))), .second] [(.long (own_u5 ((own_m2 (q1 + (-7046029254386353131 : Int64))) ^^^ (((own_m2 (q1 + (-7046029254386353131 : Int64))).toUInt64 >>> ((31 : Int32) &&& 0x3f).toInt64.toUInt64).toInt64))))])) _
    refine XS.lloadN X18.here hx rfl (hb hby at_38) rfl ?_
    show Steps p.tables e below (T18.setTop (mkF m 39 #[.val (.long q1), .second, .val (.ref b1), .val (.long ((own_m2 q1) ^^^ (((own_m2 q1).toUInt64 >>> ((31 : Int32) &&& 0x3f).toInt64.toUInt64).toInt64))), .second, .val (.long ((own_m2 (q1 + (-7046029254386353131 : Int64))) ^^^ (((own_m2 (q1 + (-7046029254386353131 : Int64))).toUInt64 >>> ((31 : Int32) &&& 0x3f).toInt64.toUInt64).toInt64))), .second] [(.long q1), (.long (own_u5 ((own_m2 (q1 + (-7046029254386353131 : Int64))) ^^^ (((own_m2 (q1 + (-7046029254386353131 : Int64))).toUInt64 >>> ((31 : Int32) &&& 0x3f).toInt64.toUInt64).toInt64))))])) _
    refine X18.ldc2Long hx hown (mvT hZ (hw _ (List.mem_of_getElem? (i := 26) rfl))) (g := (mkF m 39 #[.val (.long q1), .second, .val (.ref b1), .val (.long ((own_m2 q1) ^^^ (((own_m2 q1).toUInt64 >>> ((31 : Int32) &&& 0x3f).toInt64.toUInt64).toInt64))), .second, .val (.long ((own_m2 (q1 + (-7046029254386353131 : Int64))) ^^^ (((own_m2 (q1 + (-7046029254386353131 : Int64))).toUInt64 >>> ((31 : Int32) &&& 0x3f).toInt64.toUInt64).toInt64))), .second] [(.long q1), (.long (own_u5 ((own_m2 (q1 + (-7046029254386353131 : Int64))) ^^^ (((own_m2 (q1 + (-7046029254386353131 : Int64))).toUInt64 >>> ((31 : Int32) &&& 0x3f).toInt64.toUInt64).toInt64))))])) rfl (hb hby at_39) _ ?_
    show Steps p.tables e below (T18.setTop (mkF m 42 #[.val (.long q1), .second, .val (.ref b1), .val (.long ((own_m2 q1) ^^^ (((own_m2 q1).toUInt64 >>> ((31 : Int32) &&& 0x3f).toInt64.toUInt64).toInt64))), .second, .val (.long ((own_m2 (q1 + (-7046029254386353131 : Int64))) ^^^ (((own_m2 (q1 + (-7046029254386353131 : Int64))).toUInt64 >>> ((31 : Int32) &&& 0x3f).toInt64.toUInt64).toInt64))), .second] [(.long (4354685564936845354 : Int64)), (.long q1), (.long (own_u5 ((own_m2 (q1 + (-7046029254386353131 : Int64))) ^^^ (((own_m2 (q1 + (-7046029254386353131 : Int64))).toUInt64 >>> ((31 : Int32) &&& 0x3f).toInt64.toUInt64).toInt64))))])) _
    refine XS.ladd X18.here hx rfl (hb hby at_42) rfl ?_
    show Steps p.tables e below (T18.setTop (mkF m 43 #[.val (.long q1), .second, .val (.ref b1), .val (.long ((own_m2 q1) ^^^ (((own_m2 q1).toUInt64 >>> ((31 : Int32) &&& 0x3f).toInt64.toUInt64).toInt64))), .second, .val (.long ((own_m2 (q1 + (-7046029254386353131 : Int64))) ^^^ (((own_m2 (q1 + (-7046029254386353131 : Int64))).toUInt64 >>> ((31 : Int32) &&& 0x3f).toInt64.toUInt64).toInt64))), .second] [(.long (q1 + (4354685564936845354 : Int64))), (.long (own_u5 ((own_m2 (q1 + (-7046029254386353131 : Int64))) ^^^ (((own_m2 (q1 + (-7046029254386353131 : Int64))).toUInt64 >>> ((31 : Int32) &&& 0x3f).toInt64.toUInt64).toInt64))))])) _
    refine XS.lcmp X18.here hx rfl (hb hby at_43) rfl ?_
    show Steps p.tables e below (T18.setTop (mkF m 44 #[.val (.long q1), .second, .val (.ref b1), .val (.long ((own_m2 q1) ^^^ (((own_m2 q1).toUInt64 >>> ((31 : Int32) &&& 0x3f).toInt64.toUInt64).toInt64))), .second, .val (.long ((own_m2 (q1 + (-7046029254386353131 : Int64))) ^^^ (((own_m2 (q1 + (-7046029254386353131 : Int64))).toUInt64 >>> ((31 : Int32) &&& 0x3f).toInt64.toUInt64).toInt64))), .second] [(.int (lcmpW (own_u5 ((own_m2 (q1 + (-7046029254386353131 : Int64))) ^^^ (((own_m2 (q1 + (-7046029254386353131 : Int64))).toUInt64 >>> ((31 : Int32) &&& 0x3f).toInt64.toUInt64).toInt64))) (q1 + (4354685564936845354 : Int64))))])) _
    refine XS.ifNo X18.here hx rfl (hb hby at_44) rfl ((if0 _ _).trans (teq ((lw_eq _ _).mpr (hc1 : (own_u5 ((own_m2 (q1 + (-7046029254386353131 : Int64))) ^^^ (((own_m2 (q1 + (-7046029254386353131 : Int64))).toUInt64 >>> ((31 : Int32) &&& 0x3f).toInt64.toUInt64).toInt64))) = (q1 + (4354685564936845354 : Int64))))).2) ?_
    show Steps p.tables e below (T18.setTop (mkF m 47 #[.val (.long q1), .second, .val (.ref b1), .val (.long ((own_m2 q1) ^^^ (((own_m2 q1).toUInt64 >>> ((31 : Int32) &&& 0x3f).toInt64.toUInt64).toInt64))), .second, .val (.long ((own_m2 (q1 + (-7046029254386353131 : Int64))) ^^^ (((own_m2 (q1 + (-7046029254386353131 : Int64))).toUInt64 >>> ((31 : Int32) &&& 0x3f).toInt64.toUInt64).toInt64))), .second] [])) _
    refine XS.iconst X18.here hx rfl (hb hby at_47) ?_
    show Steps p.tables e below (T18.setTop (mkF m 48 #[.val (.long q1), .second, .val (.ref b1), .val (.long ((own_m2 q1) ^^^ (((own_m2 q1).toUInt64 >>> ((31 : Int32) &&& 0x3f).toInt64.toUInt64).toInt64))), .second, .val (.long ((own_m2 (q1 + (-7046029254386353131 : Int64))) ^^^ (((own_m2 (q1 + (-7046029254386353131 : Int64))).toUInt64 >>> ((31 : Int32) &&& 0x3f).toInt64.toUInt64).toInt64))), .second] [(.int (1 : Int32))])) _
    refine XS.goto X18.here hx rfl (pc0 := 48) (pc' := 52) rfl (hb hby at_48) (by decide) (by decide) ?_
    show Steps p.tables e below (T18.setTop (mkF m 52 #[.val (.long q1), .second, .val (.ref b1), .val (.long ((own_m2 q1) ^^^ (((own_m2 q1).toUInt64 >>> ((31 : Int32) &&& 0x3f).toInt64.toUInt64).toInt64))), .second, .val (.long ((own_m2 (q1 + (-7046029254386353131 : Int64))) ^^^ (((own_m2 (q1 + (-7046029254386353131 : Int64))).toUInt64 >>> ((31 : Int32) &&& 0x3f).toInt64.toUInt64).toInt64))), .second] [(.int (1 : Int32))])) _
    exact retN X18 hx (t := .boolean) Bd.returns (by simp) (hb hby at_52) hr
  · show Q_law Z q1 h0 n0 _ T18.heap _
    rw [e18]
    exact ⟨rfl, N19⟩
theorem own_ush (x : Int64) (s : UInt64) (k : Nat) (hk : (s.toBitVec % 64).toNat = k) : ((x.toUInt64 >>> s).toInt64).toBitVec = x.toBitVec >>> k := by
  show (x.toUInt64 >>> s).toBitVec = _
  rw [UInt64.toBitVec_shiftRight, BitVec.ushiftRight_eq', hk]
  rfl
theorem own_bits (z : BitVec 64) (k : Nat) (hk : 64 ≤ 3 * k) : (z ^^^ (z >>> k)) ^^^ ((z ^^^ (z >>> k)) >>> k) ^^^ ((z ^^^ (z >>> k)) >>> (2 * k)) = z := by
  apply BitVec.eq_of_getLsbD_eq
  intro i hi
  simp only [BitVec.getLsbD_xor, BitVec.getLsbD_ushiftRight]
  have e1 : k + (k + i) = 2 * k + i := by omega
  have e2 : z.getLsbD (k + (2 * k + i)) = false := BitVec.getLsbD_of_ge _ _ (by omega)
  rw [e1, e2]
  cases z.getLsbD i <;> cases z.getLsbD (k + i) <;> cases z.getLsbD (2 * k + i) <;> rfl
theorem own_xs (z : Int64) (s s2 : UInt64) (k : Nat) (hk : (s.toBitVec % 64).toNat = k) (hk2 : (s2.toBitVec % 64).toNat = 2 * k) (h : 64 ≤ 3 * k) :
    ((z ^^^ ((z.toUInt64 >>> s).toInt64)) ^^^ (((z ^^^ ((z.toUInt64 >>> s).toInt64)).toUInt64 >>> s).toInt64)) ^^^ (((z ^^^ ((z.toUInt64 >>> s).toInt64)).toUInt64 >>> s2).toInt64) = z := by
  apply Int64.toBitVec_inj.mp
  rw [Int64.toBitVec_xor, Int64.toBitVec_xor, own_ush _ s k hk, own_ush _ s2 (2 * k) hk2, Int64.toBitVec_xor, own_ush _ s k hk]
  exact own_bits _ _ h
theorem own_unmix (w : Int64) : own_u5 ((own_m2 w) ^^^ (((own_m2 w).toUInt64 >>> ((31 : Int32) &&& 0x3f).toInt64.toUInt64).toInt64)) = own_m0 w := by
  have h1 : own_u1 ((own_m2 w) ^^^ (((own_m2 w).toUInt64 >>> ((31 : Int32) &&& 0x3f).toInt64.toUInt64).toInt64)) = own_m2 w := own_xs (own_m2 w) _ _ 31 (by decide) (by decide) (by decide)
  have h2 : own_u2 ((own_m2 w) ^^^ (((own_m2 w).toUInt64 >>> ((31 : Int32) &&& 0x3f).toInt64.toUInt64).toInt64)) = (own_m1 w) ^^^ (((own_m1 w).toUInt64 >>> ((27 : Int32) &&& 0x3f).toInt64.toUInt64).toInt64) := by
    rw [own_u2, h1, own_m2, Int64.mul_assoc, show (-7723592293110705685 : Int64) * 3573116690164977347 = 1 from by decide, Int64.mul_one]
  have h3 : own_u3 ((own_m2 w) ^^^ (((own_m2 w).toUInt64 >>> ((31 : Int32) &&& 0x3f).toInt64.toUInt64).toInt64)) = own_m1 w := by
    rw [own_u3, h2]; exact own_xs (own_m1 w) _ _ 27 (by decide) (by decide) (by decide)
  have h4 : own_u4 ((own_m2 w) ^^^ (((own_m2 w).toUInt64 >>> ((31 : Int32) &&& 0x3f).toInt64.toUInt64).toInt64)) = (own_m0 w) ^^^ (((own_m0 w).toUInt64 >>> ((30 : Int32) &&& 0x3f).toInt64.toUInt64).toInt64) := by
    rw [own_u4, h3, own_m1, Int64.mul_assoc, show (-4658895280553007687 : Int64) * (-7575587736534282103) = 1 from by decide, Int64.mul_one]
  rw [own_u5, h4]; exact own_xs (own_m0 w) _ _ 30 (by decide) (by decide) (by decide)
theorem own_plain (q1 : Int64) : Road_ff q1 := by
  refine ⟨own_unmix q1, ?_⟩
  rw [own_unmix, own_m0, Int64.add_assoc]
  rfl
set_option maxRecDepth 65536 in
set_option maxHeartbeats 40000000 in
theorem rm_law (l : Launch) (Z : State) (a0 : Array Value) (hw : ∀ d ∈ tables_1, d.before a0 Z = true) (ws : List Jvm.Cond) (q1 : Int64) (h0 : Heap) (n0 : Nat) (Z0 : n0 ≤ h0.size) :
    MetFree l x (head1 (Jvm.Cond.code x code maxLocals ret :: ws) room_1) (fun a U => a = #[(.long q1)] ∧ Z.Warmed39 U.vm ∧ U.heap = h0) (fun _ _ _ _ _ => True) (fun _ U o U' => ∃ v L, o = .returned v ∧ Q_law Z q1 h0 n0 v U'.heap L ∧ FrameEnd U o U' L room_1.cells room_1.slots) := by
  have h := own_plain q1
  exact rm_law_ff l Z a0 hw ws q1 h0 n0 Z0 h
set_option maxRecDepth 65536 in
set_option maxHeartbeats 40000000 in
theorem comes_1 {Post : Tables → Env → Array Value → State → Outcome → State → Prop} (hpost : ∀ tb e args s v u, (limb_1_1.after args s (.returned v) u = true ∧ limb_1_2.after args s (.returned v) u = true ∧ True) → FrameEnd s (.returned v) u (Jvm.fieldLocs frame_1_writes args s ++ Jvm.arrayLocs frame_1_arrays args s ++ Jvm.staticLocs frame_1_statics s) 16 128 → Post tb e args s (.returned v) u) :
    ArmFor flags0 classFile x code maxLocals ret World_1 tables_1 room_1 Calls_1 rest_1 Pre_1 Post := by
  intro l hfl _ _ p e ha hc hk s m args below hf hA hF happ hP
  obtain ⟨hcalls, hrest, hpre⟩ := hP
  obtain ⟨-, -, -, hnamed, -, -, -, hat⟩ := (Spec.applies_iff hf).mp happ
  obtain ⟨hg, hn⟩ := and_e (Cond.before_iff.mp (show (Jvm.Cond.and given_1 narrow_1).before args s = true from hpre))
  obtain ⟨g1, g2⟩ := and_e hg
  obtain ⟨w0, rfl⟩ : ∃ w0 : Value, args = #[w0] := by
    have hs : args.size = 1 := by simpa [Cond.value, given_1] using g1
    obtain ⟨L⟩ := args
    match L, hs with
    | [w0], _ => exact ⟨w0, rfl⟩
  have hw := fun d (hd : d ∈ tables_1) => atoms_spec (ws := Jvm.Cond.code x code maxLocals ret :: tables_1) hat d (List.mem_cons_of_mem _ hd)
  have hfit : Fit s := fun {y c} hc i hi => by
    obtain ⟨ha, rfl⟩ := Array.getElem?_eq_some_iff.mp hc
    have q := List.all_eq_true.mp ((Array.all_eq_true_iff_forall_mem.mp hF) _ (Array.getElem_mem ha)) i (List.mem_range.mpr hi)
    simpa [Array.getElem?_eq_getElem hi] using q
  obtain ⟨i0, ei0⟩ := isL_v g2
  obtain rfl : w0 = (.long i0) := Option.some.inj ei0
  obtain ⟨n, o, h1, h2, h3, _, L, rfl, ⟨rfl, N⟩, hq⟩ := rm_law l s _ hw tables_1 i0 s.heap s.heap.size (Nat.le_refl _) p e ha hc hk s m _ below hf ((Spec.applies_iff_loose hf).mp happ).1 ⟨rfl, State.Warmed39.refl s, rfl⟩ trivial
  refine ⟨n, _, h1, h2, h3, hpost _ _ _ _ _ _ ⟨Cond.after_iff.mpr rfl, Cond.after_iff.mpr (eq_i res_at (Term.int_eval (1)) rfl), trivial⟩ ⟨hq.1, hq.2.1, (hq.2.2.sift fun y hy => Or.inr (N y hy)).mono (by decide) (by decide)⟩⟩
theorem main_1_1 : Claimed_1_1 := comes_1 fun _ _ _ _ _ _ h hF => ⟨h.1, hF⟩
theorem main_1_2 : Claimed_1_2 := comes_1 fun _ _ _ _ _ _ h hF => ⟨h.2.1, hF⟩
end Jvm.Pilot.@@N@@
namespace Jvm.Pilot.@@N@@
open Jvm Jvm.ClassFile Sem Op Lib Jvm.Free Jvm.Stand Jvm.Pilot.@@N@@.Jvm.D
/-! MADE BY PROGRAM (witnessworld.py) out of the Statement's table words and the real class files: 9 classes; the members and pool entries that the words name. The judged class is class 1, her method 2. -/
namespace start1
open Jvm.ClassFile
def u (s : String) : CpInfo := .utf8 (stringToUtf16 s)
/-- a pool by its gaps: so many unusable entries, then the entry; so many at the end -/
def gap : Nat → List CpInfo → List CpInfo
  | 0, r => r
  | n + 1, r => .unusable :: gap n r
def poolList (es : List (Nat × CpInfo)) (last : Nat) : List CpInfo := es.foldr (fun e r => gap e.1 (e.2 :: r)) (gap last [])
def pool (es : List (Nat × CpInfo)) (last : Nat) : Array CpInfo := ⟨poolList es last⟩
def fileOf (pool : Array CpInfo) (this : Nat) (attrs : Array Attribute := #[]) (ms : Array MethodInfo := #[]) (fl : Nat := 33) (sup : Nat := 0) (ifs : Array Nat := #[]) (fds : Array FieldInfo := #[]) : ClassFile where
  minorVersion := 0
  majorVersion := 65
  constantPool := pool
  accessFlags := fl
  thisClass := this
  superClass := sup
  interfaces := ifs
  fields := fds
  methods := ms
  attributes := attrs
def plain (name : String) (sup : Option ClassId) : Class where
  name := name
  kind := .ordinary
  loader := none
  accessFlags := 33
  super := sup
  interfaces := #[]
  cf := none
  fields := #[]
  methods := #[]
  instanceTypes := #[]
  staticTypes := #[]
  resolved := #[]
  callSites := []
  init := .initialized
  statics := none
  mirror := none

def pool0 : Array CpInfo := pool [(5, u "<init>"), (0, u "()V"), (1, .class_ 10), (1, u "java/lang/Object")] 113

def k0c0 : Code := { maxStack := 0, maxLocals := 1, code := object_method_1_code, exceptionTable := #[], attributes := #[] }
def k0m0 : Method := { name := "<init>", desc := "()V", sig := { parameters := [], returnType := none }, accessFlags := 1, code := some k0c0 }
/-- java/lang/Object -/
def k0 : Class := { plain "java/lang/Object" none with
  accessFlags := 33
  interfaces := #[]
  cf := some (fileOf pool0 8 #[] #[{ accessFlags := 1, nameIndex := 5, descriptorIndex := 6, attributes := #[] }] 33 0 #[] #[])
  fields := #[]
  methods := #[k0m0]
  instanceTypes := #[]
  staticTypes := #[]
  resolved := Array.replicate 124 none
  statics := none }

def pool1 : Array CpInfo := pool [(2, .class_ 4), (1, u "java/lang/Object"), (0, u "<init>"), (0, u "()V"), (0, .long 3573116690164977347), (1, .long 10871156337175269513), (1, .class_ 12), (0, u "com/example/outcry/outcry/SplitMix64"), (0, .methodref 11 14), (0, .nameAndType 5 15), (0, u "(J)V"), (0, .methodref 11 17), (0, .nameAndType 18 19), (0, u "nextLong"), (0, u "()J"), (0, .methodref 21 22), (0, .class_ 23), (0, .nameAndType 24 25), (0, u "com/example/outcry/outcry/SplitMix64NextLongPinLaw"), (0, u "unmix"), (0, u "(J)J"), (0, .long 11400714819323198485), (1, .long 4354685564936845354), (1, u "GAMMA"), (0, u "J"), (3, u "law"), (0, u "(J)Z")] 3

def k1m0 : Method := { name := "<init>", desc := "()V", sig := { parameters := [], returnType := none }, accessFlags := 1, code := none }
def k1c1 : Code := { maxStack := 5, maxLocals := 4, code := method_2_code, exceptionTable := #[], attributes := #[] }
def k1m1 : Method := { name := "unmix", desc := "(J)J", sig := { parameters := [.long], returnType := some .long }, accessFlags := 10, code := some k1c1 }
def k1c2 : Code := { maxStack := 6, maxLocals := 7, code := code, exceptionTable := #[], attributes := #[] }
def k1m2 : Method := { name := "law", desc := "(J)Z", sig := { parameters := [.long], returnType := some .boolean }, accessFlags := 9, code := some k1c2 }
/-- com/example/outcry/outcry/SplitMix64NextLongPinLaw -/
def k1 : Class := { plain "com/example/outcry/outcry/SplitMix64NextLongPinLaw" (some 0) with
  accessFlags := 49
  interfaces := #[]
  cf := some (fileOf pool1 21 #[] #[{ accessFlags := 1, nameIndex := 5, descriptorIndex := 6, attributes := #[] }, { accessFlags := 10, nameIndex := 24, descriptorIndex := 25, attributes := #[] }, { accessFlags := 9, nameIndex := 35, descriptorIndex := 36, attributes := #[] }] 49 2 #[] #[{ accessFlags := 26, nameIndex := 30, descriptorIndex := 31, attributes := #[] }])
  fields := #[{ name := "GAMMA", type := .long, accessFlags := 26, slot := 0, constantValue := 0 }]
  methods := #[k1m0, k1m1, k1m2]
  instanceTypes := #[]
  staticTypes := #[.long]
  resolved := Array.replicate 40 none
  statics := none }

def pool2 : Array CpInfo := pool [(1, .methodref 2 3), (0, .class_ 4), (0, .nameAndType 5 6), (0, u "java/lang/Object"), (0, u "<init>"), (0, u "()V"), (0, .fieldref 8 9), (0, .class_ 10), (0, .nameAndType 11 12), (0, u "com/example/outcry/outcry/SplitMix64"), (0, u "state"), (0, u "J"), (0, .long 11400714819323198485), (1, .long 13787848793156543929), (1, .long 10723151780598845931), (16, u "nextLong"), (0, u "()J"), (20, u "GAMMA"), (1, u "UNIT"), (0, u "D"), (0, u "(J)V")] 23

def k2c0 : Code := { maxStack := 3, maxLocals := 3, code := prog_18_method_1_code, exceptionTable := #[], attributes := #[] }
def k2m0 : Method := { name := "<init>", desc := "(J)V", sig := { parameters := [.long], returnType := none }, accessFlags := 0, code := some k2c0 }
def k2c1 : Code := { maxStack := 5, maxLocals := 3, code := prog_18_method_2_code, exceptionTable := #[], attributes := #[] }
def k2m1 : Method := { name := "nextLong", desc := "()J", sig := { parameters := [], returnType := some .long }, accessFlags := 0, code := some k2c1 }
/-- com/example/outcry/outcry/SplitMix64 -/
def k2 : Class := { plain "com/example/outcry/outcry/SplitMix64" (some 0) with
  accessFlags := 48
  interfaces := #[]
  cf := some (fileOf pool2 8 #[] #[{ accessFlags := 0, nameIndex := 5, descriptorIndex := 60, attributes := #[] }, { accessFlags := 0, nameIndex := 34, descriptorIndex := 35, attributes := #[] }] 48 2 #[] #[{ accessFlags := 26, nameIndex := 56, descriptorIndex := 12, attributes := #[] }, { accessFlags := 26, nameIndex := 58, descriptorIndex := 59, attributes := #[] }, { accessFlags := 2, nameIndex := 11, descriptorIndex := 12, attributes := #[] }])
  fields := #[{ name := "GAMMA", type := .long, accessFlags := 26, slot := 0, constantValue := 0 }, { name := "UNIT", type := .double, accessFlags := 26, slot := 1, constantValue := 0 }, { name := "state", type := .long, accessFlags := 2, slot := 0, constantValue := 0 }]
  methods := #[k2m0, k2m1]
  instanceTypes := #[.long]
  staticTypes := #[.long, .double]
  resolved := Array.replicate 84 none
  statics := none }

def pool3 : Array CpInfo := pool [(1, u "java/lang/Cloneable"), (0, .class_ 1), (0, u "java/lang/Object"), (0, .class_ 3)] 3

/-- java/lang/Cloneable -/
def k3 : Class := { plain "java/lang/Cloneable" (some 0) with
  accessFlags := 1537
  interfaces := #[]
  cf := some (fileOf pool3 2 #[] #[] 1537 4 #[] #[])
  fields := #[]
  methods := #[]
  instanceTypes := #[]
  staticTypes := #[]
  resolved := Array.replicate 8 none
  statics := none }

def pool4 : Array CpInfo := pool [(1, u "java/io/Serializable"), (0, .class_ 1), (0, u "java/lang/Object"), (0, .class_ 3)] 3

/-- java/io/Serializable -/
def k4 : Class := { plain "java/io/Serializable" (some 0) with
  accessFlags := 1537
  interfaces := #[]
  cf := some (fileOf pool4 2 #[] #[] 1537 4 #[] #[])
  fields := #[]
  methods := #[]
  instanceTypes := #[]
  staticTypes := #[]
  resolved := Array.replicate 8 none
  statics := none }

/-- the primitive byte -/
def k5 : Class := { plain "byte" none with kind := .primitive 'B', accessFlags := 0x411 }
/-- [B -/
def k6 : Class := { plain "[B" (some 0) with kind := .array 5 .byte, interfaces := #[3, 4], accessFlags := 1041 }

/-- the primitive int -/
def k7 : Class := { plain "int" none with kind := .primitive 'I', accessFlags := 0x411 }
/-- [I -/
def k8 : Class := { plain "[I" (some 0) with kind := .array 7 .int, interfaces := #[3, 4], accessFlags := 1041 }

def heap : Heap := #[]
def classes : Array Class := #[k0, k1, k2, k3, k4, k5, k6, k7, k8]
def interned : List (Array UInt16 × Addr) := []
def slotsUsed : Nat := 0
def theMethod : MethodId := ⟨1, 2⟩
def args0 : Array Value := #[.long 5]
def aboutOver (below : List Frame) : State where
  vm := { classes := classes, interned := interned.toArray }
  heap := heap
  slotsUsed := slotsUsed
  threads := #[{ frames := .invoking theMethod args0 :: below }]
def below0 : List Frame := [.native { method := ⟨0, 0⟩, args := #[] }]
def about1 : State := aboutOver below0
def p0 : Program := .bare "" "" ""
def e0 : Env := launch0.env 0 0 0
theorem w_frames : about1.frames = Frame.invoking theMethod args0 :: below0 := rfl
set_option maxRecDepth 65536 in
theorem w_args : argsFit about1.vm theMethod args0 = true := by decide +kernel
set_option maxRecDepth 65536 in
theorem w_heap : heapFits about1 = true := by decide +kernel
set_option maxRecDepth 65536 in
theorem w_runnable : about1.curStatus? = some .runnable := by decide +kernel
set_option maxRecDepth 65536 in
theorem w_alone : about1.alone = true := by decide +kernel
set_option maxRecDepth 65536 in
theorem w_named : about1.methodNamed? x = some theMethod := by decide +kernel
set_option maxRecDepth 65536 in
theorem w_hears : about1.hears theMethod below0 = true := by decide +kernel
set_option maxRecDepth 65536 in
theorem w_ripe : about1.ripe theMethod args0 below0 = true := by decide +kernel
theorem w_running : about1.status = .running := rfl
set_option maxRecDepth 65536 in
theorem w_room : about1.hasRoom e0.platform room_1 = true :=
  launch0.hasRoom_least _ room_1 (by decide +kernel) (by decide +kernel) (by decide +kernel) (by decide +kernel) (by decide +kernel) (by decide +kernel)
theorem allAtoms_all (ts : List Jvm.Cond) (a : Array Jvm.Value) (st : Jvm.State) : (allAtoms ts).before a st = ts.all (fun c => c.before a st) := by
  induction ts with
  | nil => rfl
  | cons c t ih =>
    show (Jvm.Cond.and c (allAtoms t)).before a st = _
    rw [Jvm.Cond.before_and, ih, List.all_cons]
def words1 : List Jvm.Cond := Jvm.Cond.code x code maxLocals ret :: tables_1
/-- a 'code' word, met by the world's own term for the bytes: nothing is compared byte by byte -/
theorem code_word {y : MethodName} {bytes : ByteArray} {mx : Nat} {rt : Option FieldType} {a : Array Value} {s : State} {m : MethodId} {meth : Method} {c : Code} (h1 : s.methodNamed? y = some m) (h2 : s.vm.method? m = some meth) (h3 : meth.code = some c) (h4 : c.code = bytes)
    (h5 : (c.maxLocals == mx && c.exceptionTable.isEmpty && decide (c.maxStack ≤ mostOperands) && decide (meth.sig.returnType = rt) && !meth.locks && decide (parseMethodDescriptor y.desc = some meth.sig)) = true) : (Jvm.Cond.code y bytes mx rt).before a s = true := by
  simp only [Bool.and_eq_true, beq_iff_eq, Bool.not_eq_true', decide_eq_true_eq] at h5
  obtain ⟨⟨⟨⟨⟨g1, g2⟩, g3⟩, g4⟩, g5⟩, g6⟩ := h5
  simp [Cond.before, Cond.holds, Cond.value, h1, h2, h3, h4, g1, g2, g3, g4, g5, g6]
def isCode : Jvm.Cond → Bool
  | .code _ _ _ _ => true
  | _ => false
theorem all_split {L : List Jvm.Cond} {P : Jvm.Cond → Bool} (h1 : L.all (fun c => isCode c || P c) = true) (h2 : ∀ c ∈ L.filter isCode, P c = true) : L.all P = true := by
  refine List.all_eq_true.mpr fun c hc => ?_
  have h := List.all_eq_true.mp h1 c hc
  rcases Bool.eq_false_or_eq_true (isCode c) with hi | hi
  · exact h2 c (List.mem_filter.mpr ⟨hc, hi⟩)
  · simpa [hi] using h
set_option maxRecDepth 65536 in
theorem w_c0 : (Jvm.Cond.code x code maxLocals ret).before args0 about1 = true := code_word (m := ⟨1, 2⟩) (meth := k1m2) (c := k1c2) (by decide +kernel) rfl rfl rfl (by decide +kernel)
set_option maxRecDepth 65536 in
theorem w_c1 : (Jvm.Cond.code ({ cls := "com/example/outcry/outcry/SplitMix64", name := "<init>", desc := "(J)V" } : Jvm.MethodName) prog_18_method_1_code (3 : Nat) (Option.none : Option Jvm.ClassFile.FieldType)).before args0 about1 = true := code_word (m := ⟨2, 0⟩) (meth := k2m0) (c := k2c0) (by decide +kernel) rfl rfl rfl (by decide +kernel)
set_option maxRecDepth 65536 in
theorem w_c2 : (Jvm.Cond.code ({ cls := "java/lang/Object", name := "<init>", desc := "()V" } : Jvm.MethodName) object_method_1_code (1 : Nat) (Option.none : Option Jvm.ClassFile.FieldType)).before args0 about1 = true := code_word (m := ⟨0, 0⟩) (meth := k0m0) (c := k0c0) (by decide +kernel) rfl rfl rfl (by decide +kernel)
set_option maxRecDepth 65536 in
theorem w_c3 : (Jvm.Cond.code ({ cls := "com/example/outcry/outcry/SplitMix64", name := "nextLong", desc := "()J" } : Jvm.MethodName) prog_18_method_2_code (3 : Nat) (Option.some Jvm.ClassFile.FieldType.long)).before args0 about1 = true := code_word (m := ⟨2, 1⟩) (meth := k2m1) (c := k2c1) (by decide +kernel) rfl rfl rfl (by decide +kernel)
set_option maxRecDepth 65536 in
theorem w_c4 : (Jvm.Cond.code ({ cls := "com/example/outcry/outcry/SplitMix64NextLongPinLaw", name := "unmix", desc := "(J)J" } : Jvm.MethodName) method_2_code (4 : Nat) (Option.some Jvm.ClassFile.FieldType.long)).before args0 about1 = true := code_word (m := ⟨1, 1⟩) (meth := k1m1) (c := k1c1) (by decide +kernel) rfl rfl rfl (by decide +kernel)
def codes1 : List Jvm.Cond := [Jvm.Cond.code x code maxLocals ret, Jvm.Cond.code ({ cls := "com/example/outcry/outcry/SplitMix64", name := "<init>", desc := "(J)V" } : Jvm.MethodName) prog_18_method_1_code (3 : Nat) (Option.none : Option Jvm.ClassFile.FieldType), Jvm.Cond.code ({ cls := "java/lang/Object", name := "<init>", desc := "()V" } : Jvm.MethodName) object_method_1_code (1 : Nat) (Option.none : Option Jvm.ClassFile.FieldType), Jvm.Cond.code ({ cls := "com/example/outcry/outcry/SplitMix64", name := "nextLong", desc := "()J" } : Jvm.MethodName) prog_18_method_2_code (3 : Nat) (Option.some Jvm.ClassFile.FieldType.long), Jvm.Cond.code ({ cls := "com/example/outcry/outcry/SplitMix64NextLongPinLaw", name := "unmix", desc := "(J)J" } : Jvm.MethodName) method_2_code (4 : Nat) (Option.some Jvm.ClassFile.FieldType.long)]
set_option maxRecDepth 65536 in
theorem codes_eq : words1.filter isCode = codes1 := rfl
theorem w_codes : ∀ c ∈ words1.filter isCode, c.before args0 about1 = true := by
  rw [codes_eq]
  intro c hc
  simp only [codes1, List.mem_cons, List.not_mem_nil, or_false] at hc
  rcases hc with rfl | rfl | rfl | rfl | rfl
  · exact w_c0
  · exact w_c1
  · exact w_c2
  · exact w_c3
  · exact w_c4
set_option maxRecDepth 65536 in
theorem w_t1 : (words1.take 24).all (fun c => isCode c || c.before args0 about1) = true := by decide +kernel
set_option maxRecDepth 65536 in
theorem w_t2 : (words1.drop 24).all (fun c => isCode c || c.before args0 about1) = true := by decide +kernel
theorem w_tables : (allAtoms (Jvm.Cond.code x code maxLocals ret :: tables_1)).before args0 about1 = true := by
  rw [allAtoms_all]
  show words1.all (fun c => c.before args0 about1) = true
  refine all_split ?_ w_codes
  rw [← List.take_append_drop 24 words1, List.all_append, w_t1, w_t2]
  rfl
set_option maxRecDepth 65536 in
theorem w_case : (Jvm.Cond.and given_1 narrow_1).before args0 about1 = true := by decide +kernel
theorem w_applies : (headSpec (Jvm.Cond.code x code maxLocals ret :: tables_1) room_1).applies x e0.platform about1 = true :=
  (Spec.applies_iff w_frames).mpr ⟨w_running, w_runnable, w_alone, w_named, w_hears, w_ripe, w_room, w_tables⟩
theorem atStart : AtStart classFile x code maxLocals ret World_1 tables_1 room_1 Calls_1 rest_1 Pre_1 launch0 p0 e0 about1 theMethod args0 below0 :=
  ⟨lists_1, trivial, launch0.admits_env _ _ _, launch0.least_env, fairChoices_fair.cas, fairChoices_fair.clock, w_frames, w_args, w_heap, w_applies, trivial, trivial, w_case⟩
end start1
theorem witness_1 : WitnessClaimed_1 := ⟨start1.p0, start1.e0, start1.about1, start1.theMethod, start1.args0, start1.below0, start1.atStart⟩
end Jvm.Pilot.@@N@@
