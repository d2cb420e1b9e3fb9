import JvmDerived
import JvmDerived.Pilot.@@N@@Statement
import JvmDerived.Pilot.@@N@@Code
set_option linter.unusedVariables false
set_option linter.unusedSimpArgs false
namespace Jvm.RoadKit
open Sem ClassFile Op Lib Jvm.Stand Jvm.Free Jvm.LawKit
section New
variable {p : Program} {l : Launch} {e : Env} {R : Room} {s : State} {m : MethodId} {args : Array Value} {below : List Frame} {meth : Method} {c : Code} {T : State} {locs : List Loc} {cells slots : Nat}
theorem retI (X : Stand p l e R s m args below meth c T locs cells slots) (hx : p.tables.exec = Jvm.exec) {pc : Nat} {Ls : Array Slot} {z : Int32} {rest : List Value} (hret : meth.sig.returnType = some .int) (hd : decode c.code pc = .ok (.ireturn, 1)) {fs : List Frame}
    (hl : ∀ (f : JFrame) (acts : List Action), f.method = m → f.locked = none → f.entered = [] → (doReturn e (T.setTop f) acts (some (.int z))).1 = T.setFrames fs) : Steps p.tables e below (T.setTop (mkF m pc Ls (.int z :: rest))) (T.setFrames fs) := by
  have hm' : T.vm.method? m = some meth := X.method'
  have hn : narrow .int (.int z) = .int z := rfl
  show Steps p.tables e below (T.setTop { method := m, pc := pc, locals := Ls, stack := _ :: rest, locked := none }) _
  jvm_step X.here [X.here.top, hx, hd, hm', hret, hn]
  first | (intro acts; rw [hl _ acts rfl rfl rfl]) | rw [hl _ _ rfl rfl rfl]
  exact Steps.refl _
end New
end Jvm.RoadKit
namespace Jvm.Pilot.@@N@@
open Jvm Jvm.ClassFile Sem Op Lib Jvm.Free Jvm.Stand Jvm.LawKit Jvm.RoadKit Bundle Jvm.Pilot.@@N@@.Jvm.D
theorem own_lmod (x y : Int64) (hx : 0 ≤ x.toInt) : (x % y).toInt = x.toInt % y.toInt := by
  rw [Int64.toInt_mod]; exact Int.tmod_eq_emod_of_nonneg hx
theorem own_imod (x y : Int32) (hx : 0 ≤ x.toInt) : (x % y).toInt = x.toInt % y.toInt := by
  rw [Int32.toInt_mod]; exact Int.tmod_eq_emod_of_nonneg hx
theorem own_lmod_rng (x y : Int64) (hx : 0 ≤ x.toInt) (hy : 0 < y.toInt) : 0 ≤ (x % y).toInt ∧ (x % y).toInt < y.toInt := by
  rw [own_lmod x y hx]; exact ⟨Int.emod_nonneg _ (by omega), Int.emod_lt_of_pos _ hy⟩
theorem own_imod_rng (x y : Int32) (hx : 0 ≤ x.toInt) (hy : 0 < y.toInt) : 0 ≤ (x % y).toInt ∧ (x % y).toInt < y.toInt := by
  rw [own_imod x y hx]; exact ⟨Int.emod_nonneg _ (by omega), Int.emod_lt_of_pos _ hy⟩
theorem own_mI (x : Int32) : 0 ≤ (x &&& (2147483647 : Int32)).toInt ∧ (x &&& (2147483647 : Int32)).toInt ≤ 2147483647 := by
  have h := c_and x 2147483647 (by decide)
  have e : (2147483647 : Int32).toInt = 2147483647 := by decide
  omega
theorem own_mL (x : Int64) : 0 ≤ (x &&& (9223372036854775807 : Int64)).toInt ∧ (x &&& (9223372036854775807 : Int64)).toInt ≤ 9223372036854775807 := by
  have h := (c_andSL x 9223372036854775807).2.2 (by decide)
  have := rng64 (x &&& (9223372036854775807 : Int64))
  omega
theorem own_nz32 {x : Int32} (h : 0 < x.toInt) : ¬ (x = (0 : Int32)) := fun e => by subst e; revert h; decide
theorem own_nz64 {x : Int64} (h : 0 < x.toInt) : ¬ (x = (0 : Int64)) := fun e => by subst e; revert h; decide
theorem own_lt32 {x y : Int32} : x < y ↔ x.toInt < y.toInt := Int32.lt_iff_toInt_lt
theorem own_lt64 {x y : Int64} : x < y ↔ x.toInt < y.toInt := Int64.lt_iff_toInt_lt
theorem own_eq32 {x y : Int32} (h : x.toInt = y.toInt) : x = y := Int32.toInt_inj.mp h
theorem own_eq64 {x y : Int64} (h : x.toInt = y.toInt) : x = y := Int64.toInt_inj.mp h
theorem d1_0 : decode prog_6_method_2_code 0 = .ok (.iload_n 1, 1) := by decide +kernel
theorem d1_1 : decode prog_6_method_2_code 1 = .ok (.i2l, 1) := by decide +kernel
theorem d1_2 : decode prog_6_method_2_code 2 = .ok (.lstore_n 2, 1) := by decide +kernel
theorem d1_3 : decode prog_6_method_2_code 3 = .ok (.lload_n 2, 1) := by decide +kernel
theorem d1_4 : decode prog_6_method_2_code 4 = .ok (.lload_n 2, 1) := by decide +kernel
theorem d1_5 : decode prog_6_method_2_code 5 = .ok (.lconst 1, 1) := by decide +kernel
theorem d1_6 : decode prog_6_method_2_code 6 = .ok (.ladd, 1) := by decide +kernel
theorem d1_7 : decode prog_6_method_2_code 7 = .ok (.lmul, 1) := by decide +kernel
theorem d1_8 : decode prog_6_method_2_code 8 = .ok (.ldc2_w 7, 3) := by decide +kernel
theorem d1_11 : decode prog_6_method_2_code 11 = .ok (.ldiv, 1) := by decide +kernel
theorem d1_12 : decode prog_6_method_2_code 12 = .ok (.lload_n 2, 1) := by decide +kernel
theorem d1_13 : decode prog_6_method_2_code 13 = .ok (.iload_n 0, 1) := by decide +kernel
theorem d1_14 : decode prog_6_method_2_code 14 = .ok (.i2l, 1) := by decide +kernel
theorem d1_15 : decode prog_6_method_2_code 15 = .ok (.lload_n 2, 1) := by decide +kernel
theorem d1_16 : decode prog_6_method_2_code 16 = .ok (.lsub, 1) := by decide +kernel
theorem d1_17 : decode prog_6_method_2_code 17 = .ok (.lconst 1, 1) := by decide +kernel
theorem d1_18 : decode prog_6_method_2_code 18 = .ok (.lsub, 1) := by decide +kernel
theorem d1_19 : decode prog_6_method_2_code 19 = .ok (.lmul, 1) := by decide +kernel
theorem d1_20 : decode prog_6_method_2_code 20 = .ok (.ladd, 1) := by decide +kernel
theorem d1_21 : decode prog_6_method_2_code 21 = .ok (.lreturn, 1) := by decide +kernel
theorem pn_com_example_trawl_trawl_gen_PreferentialAttachment : plainName "com/example/trawl/trawl/gen/PreferentialAttachment" = true := by first | (simp [plainName, overriddenIn]; done) | decide +kernel
theorem ef_1_II (m : MethodId) (x0 : Int32) (x1 : Int32) : entryFrame m #[(.int x0), (.int x1)] 4 = mkF m 0 #[.val (.int x0), .val (.int x1), .unset, .unset] [] := by first | (simp [entryFrame, mkF, argsToLocals, Value.category]; done) | rfl
def Q_link (Z : State) (p1 : Int32) (p2 : Int32) (h0 : Heap) (n0 : Nat) (v : Option Value) (h : Heap) (L : List Loc) : Prop := v = some (.long ((((p2.toInt64) * ((p2.toInt64) + (1 : Int64))) / (2 : Int64)) + ((p2.toInt64) * (((p1.toInt64) - (p2.toInt64)) - (1 : Int64))))) ∧ Fr n0 L ∧ h = h0
set_option maxRecDepth 65536 in
set_option maxHeartbeats 40000000 in
theorem rm_link (l : Launch) (Z : State) (a0 : Array Value) (hw : ∀ d ∈ tables_1, d.before a0 Z = true) (ws : List Jvm.Cond) (p1 : Int32) (p2 : Int32) (h0 : Heap) (n0 : Nat) (Z0 : n0 ≤ h0.size) :
    MetFree l (⟨"com/example/trawl/trawl/gen/PreferentialAttachment", "linkCount", "(II)J"⟩ : MethodName) (head1 (Jvm.Cond.code (⟨"com/example/trawl/trawl/gen/PreferentialAttachment", "linkCount", "(II)J"⟩ : MethodName) prog_6_method_2_code 4 (some .long) :: ws) ({ frames := 0, cells := 0, slots := 0, locals := 0 } : Room)) (fun a U => a = #[(.int p1), (.int p2)] ∧ Z.Warmed39 U.vm ∧ U.heap = h0) (fun _ _ _ _ _ => True) (fun _ U o U' => ∃ v L, o = .returned v ∧ Q_link Z p1 p2 h0 n0 v U'.heap L ∧ FrameEnd U o U' L ({ frames := 0, cells := 0, slots := 0, locals := 0 } : Room).cells ({ frames := 0, cells := 0, slots := 0, locals := 0 } : Room).slots) := by
  refine MetFree.of_bodySF (plainFor_of_name pn_com_example_trawl_trawl_gen_PreferentialAttachment) hisR ?_
  intro p e s m args below meth c s₁ Bd hml0 hP hK
  obtain ⟨rfl, hZ, hh⟩ := hP
  have hx := Bd.exec
  have hby := Bd.bytes
  have hml : c.maxLocals = 4 := hml0
  have hown : s.vm.findClass "com/example/trawl/trawl/gen/PreferentialAttachment" = some m.cls := findClass_of_methodNamed Bd.named
  have hnm := (name_of_methodNamed Bd.named Bd.method).1
  have X0 : Stand p l e ({ frames := 0, cells := 0, slots := 0, locals := 0 } : Room) s m #[(.int p1), (.int p2)] below meth c s₁ [] 0 0 := Stand.of_body Bd
  have e0 : s₁.heap = h0 := by rw [← hh, Bd.state]; rfl
  have N0 := Fr.nil n0
  have pre0 : ∀ t, Steps p.tables e below (s₁.setTop (mkF m 0 #[.val (.int p1), .val (.int p2), .unset, .unset] [])) t → Steps p.tables e below (s₁.setTop (entryFrame m #[(.int p1), (.int p2)] 4)) t := fun t k => castTop (ef_1_II m p1 p2) k
  obtain ⟨fs, hr, hrun, hended, hW, hsame⟩ := X0.leave (v := some (.long ((((p2.toInt64) * ((p2.toInt64) + (1 : Int64))) / (2 : Int64)) + ((p2.toInt64) * (((p1.toInt64) - (p2.toInt64)) - (1 : Int64)))))) (fun h => by rw [Bd.returns] at h; cases h)
  refine ⟨_, _, pre0 _ ?_, hrun, hended, _, _, rfl, ?_, ⟨_, rfl⟩, hW, hsame.mono (by decide) (by decide)⟩
  · show Steps p.tables e below (s₁.setTop (mkF m 0 #[.val (.int p1), .val (.int p2), .unset, .unset] [])) _
    refine XS.iloadN X0.here hx rfl (hb hby d1_0) rfl ?_
    show Steps p.tables e below (s₁.setTop (mkF m 1 #[.val (.int p1), .val (.int p2), .unset, .unset] [(.int p2)])) _
    refine XS.i2l X0.here hx rfl (hb hby d1_1) rfl ?_
    show Steps p.tables e below (s₁.setTop (mkF m 2 #[.val (.int p1), .val (.int p2), .unset, .unset] [(.long (p2.toInt64))])) _
    refine XS.lstoreN X0.here hx rfl (hb hby d1_2) rfl (l' := #[.val (.int p1), .val (.int p2), .val (.long (p2.toInt64)), .second]) rfl ?_
    show Steps p.tables e below (s₁.setTop (mkF m 3 #[.val (.int p1), .val (.int p2), .val (.long (p2.toInt64)), .second] [])) _
    refine XS.lloadN X0.here hx rfl (hb hby d1_3) rfl ?_
    show Steps p.tables e below (s₁.setTop (mkF m 4 #[.val (.int p1), .val (.int p2), .val (.long (p2.toInt64)), .second] [(.long (p2.toInt64))])) _
    refine XS.lloadN X0.here hx rfl (hb hby d1_4) rfl ?_
    show Steps p.tables e below (s₁.setTop (mkF m 5 #[.val (.int p1), .val (.int p2), .val (.long (p2.toInt64)), .second] [(.long (p2.toInt64)), (.long (p2.toInt64))])) _
    refine XS.lconst X0.here hx rfl (hb hby d1_5) ?_
    show Steps p.tables e below (s₁.setTop (mkF m 6 #[.val (.int p1), .val (.int p2), .val (.long (p2.toInt64)), .second] [(.long (1 : Int64)), (.long (p2.toInt64)), (.long (p2.toInt64))])) _
    refine XS.ladd X0.here hx rfl (hb hby d1_6) rfl ?_
    show Steps p.tables e below (s₁.setTop (mkF m 7 #[.val (.int p1), .val (.int p2), .val (.long (p2.toInt64)), .second] [(.long ((p2.toInt64) + (1 : Int64))), (.long (p2.toInt64))])) _
    refine XS.lmul X0.here hx rfl (hb hby d1_7) rfl ?_
    show Steps p.tables e below (s₁.setTop (mkF m 8 #[.val (.int p1), .val (.int p2), .val (.long (p2.toInt64)), .second] [(.long ((p2.toInt64) * ((p2.toInt64) + (1 : Int64))))])) _
    refine X0.ldc2Long hx hown (mvT hZ (hw _ (List.mem_of_getElem? (i := 7) rfl))) (g := (mkF m 8 #[.val (.int p1), .val (.int p2), .val (.long (p2.toInt64)), .second] [(.long ((p2.toInt64) * ((p2.toInt64) + (1 : Int64))))])) rfl (hb hby d1_8) _ ?_
    show Steps p.tables e below (s₁.setTop (mkF m 11 #[.val (.int p1), .val (.int p2), .val (.long (p2.toInt64)), .second] [(.long (2 : Int64)), (.long ((p2.toInt64) * ((p2.toInt64) + (1 : Int64))))])) _
    refine XS.ldiv X0.here hx rfl (hb hby d1_11) rfl (by decide) ?_
    show Steps p.tables e below (s₁.setTop (mkF m 12 #[.val (.int p1), .val (.int p2), .val (.long (p2.toInt64)), .second] [(.long (((p2.toInt64) * ((p2.toInt64) + (1 : Int64))) / (2 : Int64)))])) _
    refine XS.lloadN X0.here hx rfl (hb hby d1_12) rfl ?_
    show Steps p.tables e below (s₁.setTop (mkF m 13 #[.val (.int p1), .val (.int p2), .val (.long (p2.toInt64)), .second] [(.long (p2.toInt64)), (.long (((p2.toInt64) * ((p2.toInt64) + (1 : Int64))) / (2 : Int64)))])) _
    refine XS.iloadN X0.here hx rfl (hb hby d1_13) rfl ?_
    show Steps p.tables e below (s₁.setTop (mkF m 14 #[.val (.int p1), .val (.int p2), .val (.long (p2.toInt64)), .second] [(.int p1), (.long (p2.toInt64)), (.long (((p2.toInt64) * ((p2.toInt64) + (1 : Int64))) / (2 : Int64)))])) _
    refine XS.i2l X0.here hx rfl (hb hby d1_14) rfl ?_
    show Steps p.tables e below (s₁.setTop (mkF m 15 #[.val (.int p1), .val (.int p2), .val (.long (p2.toInt64)), .second] [(.long (p1.toInt64)), (.long (p2.toInt64)), (.long (((p2.toInt64) * ((p2.toInt64) + (1 : Int64))) / (2 : Int64)))])) _
    refine XS.lloadN X0.here hx rfl (hb hby d1_15) rfl ?_
    show Steps p.tables e below (s₁.setTop (mkF m 16 #[.val (.int p1), .val (.int p2), .val (.long (p2.toInt64)), .second] [(.long (p2.toInt64)), (.long (p1.toInt64)), (.long (p2.toInt64)), (.long (((p2.toInt64) * ((p2.toInt64) + (1 : Int64))) / (2 : Int64)))])) _
    refine XS.lsub X0.here hx rfl (hb hby d1_16) rfl ?_
    show Steps p.tables e below (s₁.setTop (mkF m 17 #[.val (.int p1), .val (.int p2), .val (.long (p2.toInt64)), .second] [(.long ((p1.toInt64) - (p2.toInt64))), (.long (p2.toInt64)), (.long (((p2.toInt64) * ((p2.toInt64) + (1 : Int64))) / (2 : Int64)))])) _
    refine XS.lconst X0.here hx rfl (hb hby d1_17) ?_
    show Steps p.tables e below (s₁.setTop (mkF m 18 #[.val (.int p1), .val (.int p2), .val (.long (p2.toInt64)), .second] [(.long (1 : Int64)), (.long ((p1.toInt64) - (p2.toInt64))), (.long (p2.toInt64)), (.long (((p2.toInt64) * ((p2.toInt64) + (1 : Int64))) / (2 : Int64)))])) _
    refine XS.lsub X0.here hx rfl (hb hby d1_18) rfl ?_
    show Steps p.tables e below (s₁.setTop (mkF m 19 #[.val (.int p1), .val (.int p2), .val (.long (p2.toInt64)), .second] [(.long (((p1.toInt64) - (p2.toInt64)) - (1 : Int64))), (.long (p2.toInt64)), (.long (((p2.toInt64) * ((p2.toInt64) + (1 : Int64))) / (2 : Int64)))])) _
    refine XS.lmul X0.here hx rfl (hb hby d1_19) rfl ?_
    show Steps p.tables e below (s₁.setTop (mkF m 20 #[.val (.int p1), .val (.int p2), .val (.long (p2.toInt64)), .second] [(.long ((p2.toInt64) * (((p1.toInt64) - (p2.toInt64)) - (1 : Int64)))), (.long (((p2.toInt64) * ((p2.toInt64) + (1 : Int64))) / (2 : Int64)))])) _
    refine XS.ladd X0.here hx rfl (hb hby d1_20) rfl ?_
    show Steps p.tables e below (s₁.setTop (mkF m 21 #[.val (.int p1), .val (.int p2), .val (.long (p2.toInt64)), .second] [(.long ((((p2.toInt64) * ((p2.toInt64) + (1 : Int64))) / (2 : Int64)) + ((p2.toInt64) * (((p1.toInt64) - (p2.toInt64)) - (1 : Int64)))))])) _
    exact retOut X0 hx (t := .long) (i := .lreturn) Bd.returns rfl (Or.inr (Or.inl ⟨rfl, rfl, _, rfl⟩)) (hb hby d1_21) hr
  · show Q_link Z p1 p2 h0 n0 _ s₁.heap _
    rw [e0]
    exact ⟨rfl, N0, rfl⟩
def own_links (p1 : Int32) : Int32 := ((1 : Int32) + ((p1 &&& (2147483647 : Int32)) % (2147483646 : Int32)))
def own_peers (p1 : Int32) (p2 : Int32) : Int32 := (((own_links p1) + (1 : Int32)) + ((p2 &&& (2147483647 : Int32)) % ((2147483647 : Int32) - (own_links p1))))
theorem pd_0 : parseMethodDescriptor "(II)J" = some ⟨[.int, .int], some .long⟩ := by decide +kernel
theorem pn_com_example_trawl_trawl_gen_PreferentialAttachmentLinkCountPinLaw : plainName "com/example/trawl/trawl/gen/PreferentialAttachmentLinkCountPinLaw" = true := by first | (simp [plainName, overriddenIn]; done) | decide +kernel
theorem ef_0_II (m : MethodId) (x0 : Int32) (x1 : Int32) : entryFrame m #[(.int x0), (.int x1)] maxLocals = mkF m 0 #[.val (.int x0), .val (.int x1), .unset, .unset, .unset, .unset, .unset, .unset, .unset, .unset, .unset, .unset] [] := by first | (simp [entryFrame, mkF, argsToLocals, Value.category, maxLocals]; done) | rfl
def Q_law (Z : State) (p1 : Int32) (p2 : Int32) (h0 : Heap) (n0 : Nat) (v : Option Value) (h : Heap) (L : List Loc) : Prop := v = some (.int (1 : Int32)) ∧ Fr n0 L
def Road_tt (p1 : Int32) (p2 : Int32) : Prop := (¬ (((2147483647 : Int32) - (own_links p1)) = (0 : Int32))) ∧ ((((((own_links p1).toInt64) * (((own_links p1).toInt64) + (1 : Int64))) / (2 : Int64)) + (((own_links p1).toInt64) * ((((own_peers p1 p2).toInt64) - ((own_links p1).toInt64)) - (1 : Int64)))) = ((((own_links p1).toInt64) * ((own_peers p1 p2).toInt64)) - ((((own_links p1).toInt64) * (((own_links p1).toInt64) + (1 : Int64))) / (2 : Int64)))) ∧ (¬ ((own_peers p1 p2) < (2147483647 : Int32)))
set_option maxRecDepth 65536 in
set_option maxHeartbeats 40000000 in
theorem rm_law_tt (l : Launch) (Z : State) (a0 : Array Value) (hw : ∀ d ∈ tables_1, d.before a0 Z = true) (ws : List Jvm.Cond) (p1 : Int32) (p2 : Int32) (h0 : Heap) (n0 : Nat) (Z0 : n0 ≤ h0.size) (hroad : Road_tt p1 p2) :
    MetFree l x (head1 (Jvm.Cond.code x code maxLocals ret :: ws) room_1) (fun a U => a = #[(.int p1), (.int p2)] ∧ Z.Warmed39 U.vm ∧ U.heap = h0) (fun _ _ _ _ _ => True) (fun _ U o U' => ∃ v L, o = .returned v ∧ Q_law Z p1 p2 h0 n0 v U'.heap L ∧ FrameEnd U o U' L room_1.cells room_1.slots) := by
  obtain ⟨hnz0, hc0, hc1⟩ := hroad
  refine MetFree.of_bodySF (plainFor_of_name pn_com_example_trawl_trawl_gen_PreferentialAttachmentLinkCountPinLaw) hisR ?_
  intro p e s m args below meth c s₁ Bd hml0 hP hK
  obtain ⟨rfl, hZ, hh⟩ := hP
  have hx := Bd.exec
  have hby := Bd.bytes
  have hml : c.maxLocals = 12 := hml0
  have hown : s.vm.findClass "com/example/trawl/trawl/gen/PreferentialAttachmentLinkCountPinLaw" = some m.cls := findClass_of_methodNamed Bd.named
  have hnm := (name_of_methodNamed Bd.named Bd.method).1
  have X0 : Stand p l e room_1 s m #[(.int p1), (.int p2)] below meth c s₁ [] 0 0 := Stand.of_body Bd
  have e0 : s₁.heap = h0 := by rw [← hh, Bd.state]; rfl
  have N0 := Fr.nil n0
  have pre0 : ∀ t, Steps p.tables e below (s₁.setTop (mkF m 0 #[.val (.int p1), .val (.int p2), .unset, .unset, .unset, .unset, .unset, .unset, .unset, .unset, .unset, .unset] [])) t → Steps p.tables e below (s₁.setTop (entryFrame m #[(.int p1), (.int p2)] maxLocals)) t := fun t k => castTop (ef_0_II m p1 p2) k
  obtain ⟨_, _, ⟨T1, L1, k1, n1⟩, -, X1, ⟨Lc1, hQ1, l1, y1, z1⟩, st1⟩ := Jvm.LawKit.callS X0 hx (y := (⟨"com/example/trawl/trawl/gen/PreferentialAttachment", "linkCount", "(II)J"⟩ : MethodName)) hown (mvT hZ (hw _ (List.mem_of_getElem? (i := 3) rfl))) (mvT hZ (hw _ (List.mem_of_getElem? (i := 4) rfl))) (mvT hZ (hw _ (List.mem_of_getElem? (i := 5) rfl))) (mvT hZ (hw _ (List.mem_of_getElem? (i := 6) rfl))) (by decide) (backOf (W := 0) (rm_link l Z a0 hw [] (own_peers p1 p2) (own_links p1) h0 n0 Z0 ) hZ (hw _ (List.mem_of_getElem? (i := 6) rfl)) (hw _ (List.mem_of_getElem? (i := 5) rfl)) (by decide) (by decide)) (g := (mkF m 53 #[.val (.int p1), .val (.int p2), .val (.int (own_links p1)), .val (.int (own_peers p1 p2)), .val (.long ((own_links p1).toInt64)), .second, .val (.long ((own_peers p1 p2).toInt64)), .second, .val (.long ((((own_links p1).toInt64) * ((own_peers p1 p2).toInt64)) - ((((own_links p1).toInt64) * (((own_links p1).toInt64) + (1 : Int64))) / (2 : Int64)))), .second, .unset, .unset] [(.int (own_links p1)), (.int (own_peers p1 p2))])) rfl (by rw [hml]; rfl) (argsL := [(.int (own_peers p1 p2)), (.int (own_links p1))]) (rest := []) (lenOf pd_0 rfl) rfl (by show 2 * 0 + _ ≤ _; exact Nat.le_of_eq rfl) (hb hby at_53) (fun _ _ => ⟨rfl, e0, (by decide : 0 + 0 ≤ _), (by decide : 0 + 0 ≤ _)⟩)
  dsimp only [Pt.U, Pt.locs, Pt.cells, Pt.slots] at X1 l1 y1 z1 st1 hQ1
  subst l1 y1 z1
  obtain ⟨rfl, Nq1, e1⟩ := hQ1
  have N2 := Fr.app N0 Nq1
  obtain ⟨fs, hr, hrun, hended, hW, hsame⟩ := X1.leave (v := some (.int (1 : Int32))) (fun h => by rw [Bd.returns] at h; cases h)
  refine ⟨_, _, pre0 _ ?_, hrun, hended, _, _, rfl, ?_, ⟨_, rfl⟩, hW, hsame.mono (by decide) (by decide)⟩
  · show Steps p.tables e below (s₁.setTop (mkF m 0 #[.val (.int p1), .val (.int p2), .unset, .unset, .unset, .unset, .unset, .unset, .unset, .unset, .unset, .unset] [])) _
    refine XS.iconst X0.here hx rfl (hb hby at_0) ?_
    show Steps p.tables e below (s₁.setTop (mkF m 1 #[.val (.int p1), .val (.int p2), .unset, .unset, .unset, .unset, .unset, .unset, .unset, .unset, .unset, .unset] [(.int (1 : Int32))])) _
    refine XS.iloadN X0.here hx rfl (hb hby at_1) rfl ?_
    show Steps p.tables e below (s₁.setTop (mkF m 2 #[.val (.int p1), .val (.int p2), .unset, .unset, .unset, .unset, .unset, .unset, .unset, .unset, .unset, .unset] [(.int p1), (.int (1 : Int32))])) _
    refine X0.ldcInt hx hown (mvT hZ (hw _ (List.mem_of_getElem? (i := 0) rfl))) (g := (mkF m 2 #[.val (.int p1), .val (.int p2), .unset, .unset, .unset, .unset, .unset, .unset, .unset, .unset, .unset, .unset] [(.int p1), (.int (1 : Int32))])) rfl (hb hby at_2) _ ?_
    show Steps p.tables e below (s₁.setTop (mkF m 4 #[.val (.int p1), .val (.int p2), .unset, .unset, .unset, .unset, .unset, .unset, .unset, .unset, .unset, .unset] [(.int (2147483647 : Int32)), (.int p1), (.int (1 : Int32))])) _
    refine XS.iand X0.here hx rfl (hb hby at_4) rfl ?_
    show Steps p.tables e below (s₁.setTop (mkF m 5 #[.val (.int p1), .val (.int p2), .unset, .unset, .unset, .unset, .unset, .unset, .unset, .unset, .unset, .unset] [(.int (p1 &&& (2147483647 : Int32))), (.int (1 : Int32))])) _
    refine X0.ldcInt hx hown (mvT hZ (hw _ (List.mem_of_getElem? (i := 1) rfl))) (g := (mkF m 5 #[.val (.int p1), .val (.int p2), .unset, .unset, .unset, .unset, .unset, .unset, .unset, .unset, .unset, .unset] [(.int (p1 &&& (2147483647 : Int32))), (.int (1 : Int32))])) rfl (hb hby at_5) _ ?_
    show Steps p.tables e below (s₁.setTop (mkF m 7 #[.val (.int p1), .val (.int p2), .unset, .unset, .unset, .unset, .unset, .unset, .unset, .unset, .unset, .unset] [(.int (2147483646 : Int32)), (.int (p1 &&& (2147483647 : Int32))), (.int (1 : Int32))])) _
    refine iremM X0 hx rfl (hb hby at_7) rfl (by decide) ?_
    show Steps p.tables e below (s₁.setTop (mkF m 8 #[.val (.int p1), .val (.int p2), .unset, .unset, .unset, .unset, .unset, .unset, .unset, .unset, .unset, .unset] [(.int ((p1 &&& (2147483647 : Int32)) % (2147483646 : Int32))), (.int (1 : Int32))])) _
    refine XS.iadd X0.here hx rfl (hb hby at_8) rfl ?_
    show Steps p.tables e below (s₁.setTop (mkF m 9 #[.val (.int p1), .val (.int p2), .unset, .unset, .unset, .unset, .unset, .unset, .unset, .unset, .unset, .unset] [(.int ((1 : Int32) + ((p1 &&& (2147483647 : Int32)) % (2147483646 : Int32))))])) _
    refine XS.istoreN X0.here hx rfl (hb hby at_9) rfl (l' := #[.val (.int p1), .val (.int p2), .val (.int (own_links p1)), .unset, .unset, .unset, .unset, .unset, .unset, .unset, .unset, .unset]) rfl ?_
    show Steps p.tables e below (s₁.setTop (mkF m 10 #[.val (.int p1), .val (.int p2), .val (.int (own_links p1)), .unset, .unset, .unset, .unset, .unset, .unset, .unset, .unset, .unset] [])) _
    refine XS.iloadN X0.here hx rfl (hb hby at_10) rfl ?_
    show Steps p.tables e below (s₁.setTop (mkF m 11 #[.val (.int p1), .val (.int p2), .val (.int (own_links p1)), .unset, .unset, .unset, .unset, .unset, .unset, .unset, .unset, .unset] [(.int (own_links p1))])) _
    refine XS.iconst X0.here hx rfl (hb hby at_11) ?_
    show Steps p.tables e below (s₁.setTop (mkF m 12 #[.val (.int p1), .val (.int p2), .val (.int (own_links p1)), .unset, .unset, .unset, .unset, .unset, .unset, .unset, .unset, .unset] [(.int (1 : Int32)), (.int (own_links p1))])) _
    refine XS.iadd X0.here hx rfl (hb hby at_12) rfl ?_
    show Steps p.tables e below (s₁.setTop (mkF m 13 #[.val (.int p1), .val (.int p2), .val (.int (own_links p1)), .unset, .unset, .unset, .unset, .unset, .unset, .unset, .unset, .unset] [(.int ((own_links p1) + (1 : Int32)))])) _
    refine XS.iloadN X0.here hx rfl (hb hby at_13) rfl ?_
    show Steps p.tables e below (s₁.setTop (mkF m 14 #[.val (.int p1), .val (.int p2), .val (.int (own_links p1)), .unset, .unset, .unset, .unset, .unset, .unset, .unset, .unset, .unset] [(.int p2), (.int ((own_links p1) + (1 : Int32)))])) _
    refine X0.ldcInt hx hown (mvT hZ (hw _ (List.mem_of_getElem? (i := 0) rfl))) (g := (mkF m 14 #[.val (.int p1), .val (.int p2), .val (.int (own_links p1)), .unset, .unset, .unset, .unset, .unset, .unset, .unset, .unset, .unset] [(.int p2), (.int ((own_links p1) + (1 : Int32)))])) rfl (hb hby at_14) _ ?_
    show Steps p.tables e below (s₁.setTop (mkF m 16 #[.val (.int p1), .val (.int p2), .val (.int (own_links p1)), .unset, .unset, .unset, .unset, .unset, .unset, .unset, .unset, .unset] [(.int (2147483647 : Int32)), (.int p2), (.int ((own_links p1) + (1 : Int32)))])) _
    refine XS.iand X0.here hx rfl (hb hby at_16) rfl ?_
    show Steps p.tables e below (s₁.setTop (mkF m 17 #[.val (.int p1), .val (.int p2), .val (.int (own_links p1)), .unset, .unset, .unset, .unset, .unset, .unset, .unset, .unset, .unset] [(.int (p2 &&& (2147483647 : Int32))), (.int ((own_links p1) + (1 : Int32)))])) _
    refine X0.ldcInt hx hown (mvT hZ (hw _ (List.mem_of_getElem? (i := 0) rfl))) (g := (mkF m 17 #[.val (.int p1), .val (.int p2), .val (.int (own_links p1)), .unset, .unset, .unset, .unset, .unset, .unset, .unset, .unset, .unset] [(.int (p2 &&& (2147483647 : Int32))), (.int ((own_links p1) + (1 : Int32)))])) rfl (hb hby at_17) _ ?_
    show Steps p.tables e below (s₁.setTop (mkF m 19 #[.val (.int p1), .val (.int p2), .val (.int (own_links p1)), .unset, .unset, .unset, .unset, .unset, .unset, .unset, .unset, .unset] [(.int (2147483647 : Int32)), (.int (p2 &&& (2147483647 : Int32))), (.int ((own_links p1) + (1 : Int32)))])) _
    refine XS.iloadN X0.here hx rfl (hb hby at_19) rfl ?_
    show Steps p.tables e below (s₁.setTop (mkF m 20 #[.val (.int p1), .val (.int p2), .val (.int (own_links p1)), .unset, .unset, .unset, .unset, .unset, .unset, .unset, .unset, .unset] [(.int (own_links p1)), (.int (2147483647 : Int32)), (.int (p2 &&& (2147483647 : Int32))), (.int ((own_links p1) + (1 : Int32)))])) _
    refine XS.isub X0.here hx rfl (hb hby at_20) rfl ?_
    show Steps p.tables e below (s₁.setTop (mkF m 21 #[.val (.int p1), .val (.int p2), .val (.int (own_links p1)), .unset, .unset, .unset, .unset, .unset, .unset, .unset, .unset, .unset] [(.int ((2147483647 : Int32) - (own_links p1))), (.int (p2 &&& (2147483647 : Int32))), (.int ((own_links p1) + (1 : Int32)))])) _
    refine iremM X0 hx rfl (hb hby at_21) rfl hnz0 ?_
    show Steps p.tables e below (s₁.setTop (mkF m 22 #[.val (.int p1), .val (.int p2), .val (.int (own_links p1)), .unset, .unset, .unset, .unset, .unset, .unset, .unset, .unset, .unset] [(.int ((p2 &&& (2147483647 : Int32)) % ((2147483647 : Int32) - (own_links p1)))), (.int ((own_links p1) + (1 : Int32)))])) _
    refine XS.iadd X0.here hx rfl (hb hby at_22) rfl ?_
    show Steps p.tables e below (s₁.setTop (mkF m 23 #[.val (.int p1), .val (.int p2), .val (.int (own_links p1)), .unset, .unset, .unset, .unset, .unset, .unset, .unset, .unset, .unset] [(.int (((own_links p1) + (1 : Int32)) + ((p2 &&& (2147483647 : Int32)) % ((2147483647 : Int32) - (own_links p1)))))])) _
    refine XS.istoreN X0.here hx rfl (hb hby at_23) rfl (l' := #[.val (.int p1), .val (.int p2), .val (.int (own_links p1)), .val (.int (own_peers p1 p2)), .unset, .unset, .unset, .unset, .unset, .unset, .unset, .unset]) rfl ?_
    show Steps p.tables e below (s₁.setTop (mkF m 24 #[.val (.int p1), .val (.int p2), .val (.int (own_links p1)), .val (.int (own_peers p1 p2)), .unset, .unset, .unset, .unset, .unset, .unset, .unset, .unset] [])) _
    refine XS.iloadN X0.here hx rfl (hb hby at_24) rfl ?_
    show Steps p.tables e below (s₁.setTop (mkF m 25 #[.val (.int p1), .val (.int p2), .val (.int (own_links p1)), .val (.int (own_peers p1 p2)), .unset, .unset, .unset, .unset, .unset, .unset, .unset, .unset] [(.int (own_links p1))])) _
    refine XS.i2l X0.here hx rfl (hb hby at_25) rfl ?_
    show Steps p.tables e below (s₁.setTop (mkF m 26 #[.val (.int p1), .val (.int p2), .val (.int (own_links p1)), .val (.int (own_peers p1 p2)), .unset, .unset, .unset, .unset, .unset, .unset, .unset, .unset] [(.long ((own_links p1).toInt64))])) _
    refine XS.lstore X0.here hx rfl (hb hby at_26) rfl (l' := #[.val (.int p1), .val (.int p2), .val (.int (own_links p1)), .val (.int (own_peers p1 p2)), .val (.long ((own_links p1).toInt64)), .second, .unset, .unset, .unset, .unset, .unset, .unset]) rfl ?_
    show Steps p.tables e below (s₁.setTop (mkF m 28 #[.val (.int p1), .val (.int p2), .val (.int (own_links p1)), .val (.int (own_peers p1 p2)), .val (.long ((own_links p1).toInt64)), .second, .unset, .unset, .unset, .unset, .unset, .unset] [])) _
    refine XS.iloadN X0.here hx rfl (hb hby at_28) rfl ?_
    show Steps p.tables e below (s₁.setTop (mkF m 29 #[.val (.int p1), .val (.int p2), .val (.int (own_links p1)), .val (.int (own_peers p1 p2)), .val (.long ((own_links p1).toInt64)), .second, .unset, .unset, .unset, .unset, .unset, .unset] [(.int (own_peers p1 p2))])) _
    refine XS.i2l X0.here hx rfl (hb hby at_29) rfl ?_
    show Steps p.tables e below (s₁.setTop (mkF m 30 #[.val (.int p1), .val (.int p2), .val (.int (own_links p1)), .val (.int (own_peers p1 p2)), .val (.long ((own_links p1).toInt64)), .second, .unset, .unset, .unset, .unset, .unset, .unset] [(.long ((own_peers p1 p2).toInt64))])) _
    refine XS.lstore X0.here hx rfl (hb hby at_30) rfl (l' := #[.val (.int p1), .val (.int p2), .val (.int (own_links p1)), .val (.int (own_peers p1 p2)), .val (.long ((own_links p1).toInt64)), .second, .val (.long ((own_peers p1 p2).toInt64)), .second, .unset, .unset, .unset, .unset]) rfl ?_
    show Steps p.tables e below (s₁.setTop (mkF m 32 #[.val (.int p1), .val (.int p2), .val (.int (own_links p1)), .val (.int (own_peers p1 p2)), .val (.long ((own_links p1).toInt64)), .second, .val (.long ((own_peers p1 p2).toInt64)), .second, .unset, .unset, .unset, .unset] [])) _
    refine XS.lload X0.here hx rfl (hb hby at_32) rfl ?_
    show Steps p.tables e below (s₁.setTop (mkF m 34 #[.val (.int p1), .val (.int p2), .val (.int (own_links p1)), .val (.int (own_peers p1 p2)), .val (.long ((own_links p1).toInt64)), .second, .val (.long ((own_peers p1 p2).toInt64)), .second, .unset, .unset, .unset, .unset] [(.long ((own_links p1).toInt64))])) _
    refine XS.lload X0.here hx rfl (hb hby at_34) rfl ?_
    show Steps p.tables e below (s₁.setTop (mkF m 36 #[.val (.int p1), .val (.int p2), .val (.int (own_links p1)), .val (.int (own_peers p1 p2)), .val (.long ((own_links p1).toInt64)), .second, .val (.long ((own_peers p1 p2).toInt64)), .second, .unset, .unset, .unset, .unset] [(.long ((own_peers p1 p2).toInt64)), (.long ((own_links p1).toInt64))])) _
    refine XS.lmul X0.here hx rfl (hb hby at_36) rfl ?_
    show Steps p.tables e below (s₁.setTop (mkF m 37 #[.val (.int p1), .val (.int p2), .val (.int (own_links p1)), .val (.int (own_peers p1 p2)), .val (.long ((own_links p1).toInt64)), .second, .val (.long ((own_peers p1 p2).toInt64)), .second, .unset, .unset, .unset, .unset] [(.long (((own_links p1).toInt64) * ((own_peers p1 p2).toInt64)))])) _
    refine XS.lload X0.here hx rfl (hb hby at_37) rfl ?_
    show Steps p.tables e below (s₁.setTop (mkF m 39 #[.val (.int p1), .val (.int p2), .val (.int (own_links p1)), .val (.int (own_peers p1 p2)), .val (.long ((own_links p1).toInt64)), .second, .val (.long ((own_peers p1 p2).toInt64)), .second, .unset, .unset, .unset, .unset] [(.long ((own_links p1).toInt64)), (.long (((own_links p1).toInt64) * ((own_peers p1 p2).toInt64)))])) _
    refine XS.lload X0.here hx rfl (hb hby at_39) rfl ?_
    show Steps p.tables e below (s₁.setTop (mkF m 41 #[.val (.int p1), .val (.int p2), .val (.int (own_links p1)), .val (.int (own_peers p1 p2)), .val (.long ((own_links p1).toInt64)), .second, .val (.long ((own_peers p1 p2).toInt64)), .second, .unset, .unset, .unset, .unset] [(.long ((own_links p1).toInt64)), (.long ((own_links p1).toInt64)), (.long (((own_links p1).toInt64) * ((own_peers p1 p2).toInt64)))])) _
    refine XS.lconst X0.here hx rfl (hb hby at_41) ?_
    show Steps p.tables e below (s₁.setTop (mkF m 42 #[.val (.int p1), .val (.int p2), .val (.int (own_links p1)), .val (.int (own_peers p1 p2)), .val (.long ((own_links p1).toInt64)), .second, .val (.long ((own_peers p1 p2).toInt64)), .second, .unset, .unset, .unset, .unset] [(.long (1 : Int64)), (.long ((own_links p1).toInt64)), (.long ((own_links p1).toInt64)), (.long (((own_links p1).toInt64) * ((own_peers p1 p2).toInt64)))])) _
    refine XS.ladd X0.here hx rfl (hb hby at_42) rfl ?_
    show Steps p.tables e below (s₁.setTop (mkF m 43 #[.val (.int p1), .val (.int p2), .val (.int (own_links p1)), .val (.int (own_peers p1 p2)), .val (.long ((own_links p1).toInt64)), .second, .val (.long ((own_peers p1 p2).toInt64)), .second, .unset, .unset, .unset, .unset] [(.long (((own_links p1).toInt64) + (1 : Int64))), (.long ((own_links p1).toInt64)), (.long (((own_links p1).toInt64) * ((own_peers p1 p2).toInt64)))])) _
    refine XS.lmul X0.here hx rfl (hb hby at_43) rfl ?_
    show Steps p.tables e below (s₁.setTop (mkF m 44 #[.val (.int p1), .val (.int p2), .val (.int (own_links p1)), .val (.int (own_peers p1 p2)), .val (.long ((own_links p1).toInt64)), .second, .val (.long ((own_peers p1 p2).toInt64)), .second, .unset, .unset, .unset, .unset] [(.long (((own_links p1).toInt64) * (((own_links p1).toInt64) + (1 : Int64)))), (.long (((own_links p1).toInt64) * ((own_peers p1 p2).toInt64)))])) _
    refine X0.ldc2Long hx hown (mvT hZ (hw _ (List.mem_of_getElem? (i := 2) rfl))) (g := (mkF m 44 #[.val (.int p1), .val (.int p2), .val (.int (own_links p1)), .val (.int (own_peers p1 p2)), .val (.long ((own_links p1).toInt64)), .second, .val (.long ((own_peers p1 p2).toInt64)), .second, .unset, .unset, .unset, .unset] [(.long (((own_links p1).toInt64) * (((own_links p1).toInt64) + (1 : Int64)))), (.long (((own_links p1).toInt64) * ((own_peers p1 p2).toInt64)))])) rfl (hb hby at_44) _ ?_
    show Steps p.tables e below (s₁.setTop (mkF m 47 #[.val (.int p1), .val (.int p2), .val (.int (own_links p1)), .val (.int (own_peers p1 p2)), .val (.long ((own_links p1).toInt64)), .second, .val (.long ((own_peers p1 p2).toInt64)), .second, .unset, .unset, .unset, .unset] [(.long (2 : Int64)), (.long (((own_links p1).toInt64) * (((own_links p1).toInt64) + (1 : Int64)))), (.long (((own_links p1).toInt64) * ((own_peers p1 p2).toInt64)))])) _
    refine XS.ldiv X0.here hx rfl (hb hby at_47) rfl (by decide) ?_
    show Steps p.tables e below (s₁.setTop (mkF m 48 #[.val (.int p1), .val (.int p2), .val (.int (own_links p1)), .val (.int (own_peers p1 p2)), .val (.long ((own_links p1).toInt64)), .second, .val (.long ((own_peers p1 p2).toInt64)), .second, .unset, .unset, .unset, .unset] [(.long ((((own_links p1).toInt64) * (((own_links p1).toInt64) + (1 : Int64))) / (2 : Int64))), (.long (((own_links p1).toInt64) * ((own_peers p1 p2).toInt64)))])) _
    refine XS.lsub X0.here hx rfl (hb hby at_48) rfl ?_
    show Steps p.tables e below (s₁.setTop (mkF m 49 #[.val (.int p1), .val (.int p2), .val (.int (own_links p1)), .val (.int (own_peers p1 p2)), .val (.long ((own_links p1).toInt64)), .second, .val (.long ((own_peers p1 p2).toInt64)), .second, .unset, .unset, .unset, .unset] [(.long ((((own_links p1).toInt64) * ((own_peers p1 p2).toInt64)) - ((((own_links p1).toInt64) * (((own_links p1).toInt64) + (1 : Int64))) / (2 : Int64))))])) _
    refine XS.lstore X0.here hx rfl (hb hby at_49) rfl (l' := #[.val (.int p1), .val (.int p2), .val (.int (own_links p1)), .val (.int (own_peers p1 p2)), .val (.long ((own_links p1).toInt64)), .second, .val (.long ((own_peers p1 p2).toInt64)), .second, .val (.long ((((own_links p1).toInt64) * ((own_peers p1 p2).toInt64)) - ((((own_links p1).toInt64) * (((own_links p1).toInt64) + (1 : Int64))) / (2 : Int64)))), .second, .unset, .unset]) rfl ?_
    show Steps p.tables e below (s₁.setTop (mkF m 51 #[.val (.int p1), .val (.int p2), .val (.int (own_links p1)), .val (.int (own_peers p1 p2)), .val (.long ((own_links p1).toInt64)), .second, .val (.long ((own_peers p1 p2).toInt64)), .second, .val (.long ((((own_links p1).toInt64) * ((own_peers p1 p2).toInt64)) - ((((own_links p1).toInt64) * (((own_links p1).toInt64) + (1 : Int64))) / (2 : Int64)))), .second, .unset, .unset] [])) _
    refine XS.iloadN X0.here hx rfl (hb hby at_51) rfl ?_
    show Steps p.tables e below (s₁.setTop (mkF m 52 #[.val (.int p1), .val (.int p2), .val (.int (own_links p1)), .val (.int (own_peers p1 p2)), .val (.long ((own_links p1).toInt64)), .second, .val (.long ((own_peers p1 p2).toInt64)), .second, .val (.long ((((own_links p1).toInt64) * ((own_peers p1 p2).toInt64)) - ((((own_links p1).toInt64) * (((own_links p1).toInt64) + (1 : Int64))) / (2 : Int64)))), .second, .unset, .unset] [(.int (own_peers p1 p2))])) _
    refine XS.iloadN X0.here hx rfl (hb hby at_52) rfl ?_
    show Steps p.tables e below (s₁.setTop (mkF m 53 #[.val (.int p1), .val (.int p2), .val (.int (own_links p1)), .val (.int (own_peers p1 p2)), .val (.long ((own_links p1).toInt64)), .second, .val (.long ((own_peers p1 p2).toInt64)), .second, .val (.long ((((own_links p1).toInt64) * ((own_peers p1 p2).toInt64)) - ((((own_links p1).toInt64) * (((own_links p1).toInt64) + (1 : Int64))) / (2 : Int64)))), .second, .unset, .unset] [(.int (own_links p1)), (.int (own_peers p1 p2))])) _
    refine st1 _ ?_
    show Steps p.tables e below (T1.setTop (mkF m 56 #[.val (.int p1), .val (.int p2), .val (.int (own_links p1)), .val (.int (own_peers p1 p2)), .val (.long ((own_links p1).toInt64)), .second, .val (.long ((own_peers p1 p2).toInt64)), .second, .val (.long ((((own_links p1).toInt64) * ((own_peers p1 p2).toInt64)) - ((((own_links p1).toInt64) * (((own_links p1).toInt64) + (1 : Int64))) / (2 : Int64)))), .second, .unset, .unset] [(.long (((((own_links p1).toInt64) * (((own_links p1).toInt64) + (1 : Int64))) / (2 : Int64)) + (((own_links p1).toInt64) * ((((own_peers p1 p2).toInt64) - ((own_links p1).toInt64)) - (1 : Int64)))))])) _
    refine XS.lstore X1.here hx rfl (hb hby at_56) rfl (l' := #[.val (.int p1), .val (.int p2), .val (.int (own_links p1)), .val (.int (own_peers p1 p2)), .val (.long ((own_links p1).toInt64)), .second, .val (.long ((own_peers p1 p2).toInt64)), .second, .val (.long ((((own_links p1).toInt64) * ((own_peers p1 p2).toInt64)) - ((((own_links p1).toInt64) * (((own_links p1).toInt64) + (1 : Int64))) / (2 : Int64)))), .second, .val (.long (((((own_links p1).toInt64) * (((own_links p1).toInt64) + (1 : Int64))) / (2 : Int64)) + (((own_links p1).toInt64) * ((((own_peers p1 p2).toInt64) - ((own_links p1).toInt64)) - (1 : Int64))))), .second]) rfl ?_
    show Steps p.tables e below (T1.setTop (mkF m 58 #[.val (.int p1), .val (.int p2), .val (.int (own_links p1)), .val (.int (own_peers p1 p2)), .val (.long ((own_links p1).toInt64)), .second, .val (.long ((own_peers p1 p2).toInt64)), .second, .val (.long ((((own_links p1).toInt64) * ((own_peers p1 p2).toInt64)) - ((((own_links p1).toInt64) * (((own_links p1).toInt64) + (1 : Int64))) / (2 : Int64)))), .second, .val (.long (((((own_links p1).toInt64) * (((own_links p1).toInt64) + (1 : Int64))) / (2 : Int64)) + (((own_links p1).toInt64) * ((((own_peers p1 p2).toInt64) - ((own_links p1).toInt64)) - (1 : Int64))))), .second] [])) _
    refine XS.lload X1.here hx rfl (hb hby at_58) rfl ?_
    show Steps p.tables e below (T1.setTop (mkF m 60 #[.val (.int p1), .val (.int p2), .val (.int (own_links p1)), .val (.int (own_peers p1 p2)), .val (.long ((own_links p1).toInt64)), .second, .val (.long ((own_peers p1 p2).toInt64)), .second, .val (.long ((((own_links p1).toInt64) * ((own_peers p1 p2).toInt64)) - ((((own_links p1).toInt64) * (((own_links p1).toInt64) + (1 : Int64))) / (2 : Int64)))), .second, .val (.long (((((own_links p1).toInt64) * (((own_links p1).toInt64) + (1 : Int64))) / (2 : Int64)) + (((own_links p1).toInt64) * ((((own_peers p1 p2).toInt64) - ((own_links p1).toInt64)) - (1 : Int64))))), .second] [(.long (((((own_links p1).toInt64) * (((own_links p1).toInt64) + (1 : Int64))) / (2 : Int64)) + (((own_links p1).toInt64) * ((((own_peers p1 p2).toInt64) - ((own_links p1).toInt64)) - (1 : Int64)))))])) _
    refine XS.lload X1.here hx rfl (hb hby at_60) rfl ?_
    show Steps p.tables e below (T1.setTop (mkF m 62 #[.val (.int p1), .val (.int p2), .val (.int (own_links p1)), .val (.int (own_peers p1 p2)), .val (.long ((own_links p1).toInt64)), .second, .val (.long ((own_peers p1 p2).toInt64)), .second, .val (.long ((((own_links p1).toInt64) * ((own_peers p1 p2).toInt64)) - ((((own_links p1).toInt64) * (((own_links p1).toInt64) + (1 : Int64))) / (2 : Int64)))), .second, .val (.long (((((own_links p1).toInt64) * (((own_links p1).toInt64) + (1 : Int64))) / (2 : Int64)) + (((own_links p1).toInt64) * ((((own_peers p1 p2).toInt64) - ((own_links p1).toInt64)) - (1 : Int64))))), .second] [(.long ((((own_links p1).toInt64) * ((own_peers p1 p2).toInt64)) - ((((own_links p1).toInt64) * (((own_links p1).toInt64) + (1 : Int64))) / (2 : Int64)))), (.long (((((own_links p1).toInt64) * (((own_links p1).toInt64) + (1 : Int64))) / (2 : Int64)) + (((own_links p1).toInt64) * ((((own_peers p1 p2).toInt64) - ((own_links p1).toInt64)) - (1 : Int64)))))])) _
    refine XS.lcmp X1.here hx rfl (hb hby at_62) rfl ?_
    show Steps p.tables e below (T1.setTop (mkF m 63 #[.val (.int p1), .val (.int p2), .val (.int (own_links p1)), .val (.int (own_peers p1 p2)), .val (.long ((own_links p1).toInt64)), .second, .val (.long ((own_peers p1 p2).toInt64)), .second, .val (.long ((((own_links p1).toInt64) * ((own_peers p1 p2).toInt64)) - ((((own_links p1).toInt64) * (((own_links p1).toInt64) + (1 : Int64))) / (2 : Int64)))), .second, .val (.long (((((own_links p1).toInt64) * (((own_links p1).toInt64) + (1 : Int64))) / (2 : Int64)) + (((own_links p1).toInt64) * ((((own_peers p1 p2).toInt64) - ((own_links p1).toInt64)) - (1 : Int64))))), .second] [(.int (lcmpW (((((own_links p1).toInt64) * (((own_links p1).toInt64) + (1 : Int64))) / (2 : Int64)) + (((own_links p1).toInt64) * ((((own_peers p1 p2).toInt64) - ((own_links p1).toInt64)) - (1 : Int64)))) ((((own_links p1).toInt64) * ((own_peers p1 p2).toInt64)) - ((((own_links p1).toInt64) * (((own_links p1).toInt64) + (1 : Int64))) / (2 : Int64)))))])) _
    refine XS.ifYes X1.here hx rfl (pc0 := 63) (pc' := 68) rfl (hb hby at_63) rfl ((if0 _ _).trans (teq ((lw_eq _ _).mpr (hc0 : (((((own_links p1).toInt64) * (((own_links p1).toInt64) + (1 : Int64))) / (2 : Int64)) + (((own_links p1).toInt64) * ((((own_peers p1 p2).toInt64) - ((own_links p1).toInt64)) - (1 : Int64)))) = ((((own_links p1).toInt64) * ((own_peers p1 p2).toInt64)) - ((((own_links p1).toInt64) * (((own_links p1).toInt64) + (1 : Int64))) / (2 : Int64)))))).1) (by decide) (by decide) ?_
    show Steps p.tables e below (T1.setTop (mkF m 68 #[.val (.int p1), .val (.int p2), .val (.int (own_links p1)), .val (.int (own_peers p1 p2)), .val (.long ((own_links p1).toInt64)), .second, .val (.long ((own_peers p1 p2).toInt64)), .second, .val (.long ((((own_links p1).toInt64) * ((own_peers p1 p2).toInt64)) - ((((own_links p1).toInt64) * (((own_links p1).toInt64) + (1 : Int64))) / (2 : Int64)))), .second, .val (.long (((((own_links p1).toInt64) * (((own_links p1).toInt64) + (1 : Int64))) / (2 : Int64)) + (((own_links p1).toInt64) * ((((own_peers p1 p2).toInt64) - ((own_links p1).toInt64)) - (1 : Int64))))), .second] [])) _
    refine XS.iloadN X1.here hx rfl (hb hby at_68) rfl ?_
    show Steps p.tables e below (T1.setTop (mkF m 69 #[.val (.int p1), .val (.int p2), .val (.int (own_links p1)), .val (.int (own_peers p1 p2)), .val (.long ((own_links p1).toInt64)), .second, .val (.long ((own_peers p1 p2).toInt64)), .second, .val (.long ((((own_links p1).toInt64) * ((own_peers p1 p2).toInt64)) - ((((own_links p1).toInt64) * (((own_links p1).toInt64) + (1 : Int64))) / (2 : Int64)))), .second, .val (.long (((((own_links p1).toInt64) * (((own_links p1).toInt64) + (1 : Int64))) / (2 : Int64)) + (((own_links p1).toInt64) * ((((own_peers p1 p2).toInt64) - ((own_links p1).toInt64)) - (1 : Int64))))), .second] [(.int (own_peers p1 p2))])) _
    refine X1.ldcInt hx hown (mvT hZ (hw _ (List.mem_of_getElem? (i := 0) rfl))) (g := (mkF m 69 #[.val (.int p1), .val (.int p2), .val (.int (own_links p1)), .val (.int (own_peers p1 p2)), .val (.long ((own_links p1).toInt64)), .second, .val (.long ((own_peers p1 p2).toInt64)), .second, .val (.long ((((own_links p1).toInt64) * ((own_peers p1 p2).toInt64)) - ((((own_links p1).toInt64) * (((own_links p1).toInt64) + (1 : Int64))) / (2 : Int64)))), .second, .val (.long (((((own_links p1).toInt64) * (((own_links p1).toInt64) + (1 : Int64))) / (2 : Int64)) + (((own_links p1).toInt64) * ((((own_peers p1 p2).toInt64) - ((own_links p1).toInt64)) - (1 : Int64))))), .second] [(.int (own_peers p1 p2))])) rfl (hb hby at_69) _ ?_
    show Steps p.tables e below (T1.setTop (mkF m 71 #[.val (.int p1), .val (.int p2), .val (.int (own_links p1)), .val (.int (own_peers p1 p2)), .val (.long ((own_links p1).toInt64)), .second, .val (.long ((own_peers p1 p2).toInt64)), .second, .val (.long ((((own_links p1).toInt64) * ((own_peers p1 p2).toInt64)) - ((((own_links p1).toInt64) * (((own_links p1).toInt64) + (1 : Int64))) / (2 : Int64)))), .second, .val (.long (((((own_links p1).toInt64) * (((own_links p1).toInt64) + (1 : Int64))) / (2 : Int64)) + (((own_links p1).toInt64) * ((((own_peers p1 p2).toInt64) - ((own_links p1).toInt64)) - (1 : Int64))))), .second] [(.int (2147483647 : Int32)), (.int (own_peers p1 p2))])) _
    refine XS.icmpYes X1.here hx rfl (pc0 := 71) (pc' := 92) rfl (hb hby at_71) rfl (flt hc1).2.1 (by decide) (by decide) ?_
    show Steps p.tables e below (T1.setTop (mkF m 92 #[.val (.int p1), .val (.int p2), .val (.int (own_links p1)), .val (.int (own_peers p1 p2)), .val (.long ((own_links p1).toInt64)), .second, .val (.long ((own_peers p1 p2).toInt64)), .second, .val (.long ((((own_links p1).toInt64) * ((own_peers p1 p2).toInt64)) - ((((own_links p1).toInt64) * (((own_links p1).toInt64) + (1 : Int64))) / (2 : Int64)))), .second, .val (.long (((((own_links p1).toInt64) * (((own_links p1).toInt64) + (1 : Int64))) / (2 : Int64)) + (((own_links p1).toInt64) * ((((own_peers p1 p2).toInt64) - ((own_links p1).toInt64)) - (1 : Int64))))), .second] [])) _
    refine XS.iconst X1.here hx rfl (hb hby at_92) ?_
    show Steps p.tables e below (T1.setTop (mkF m 93 #[.val (.int p1), .val (.int p2), .val (.int (own_links p1)), .val (.int (own_peers p1 p2)), .val (.long ((own_links p1).toInt64)), .second, .val (.long ((own_peers p1 p2).toInt64)), .second, .val (.long ((((own_links p1).toInt64) * ((own_peers p1 p2).toInt64)) - ((((own_links p1).toInt64) * (((own_links p1).toInt64) + (1 : Int64))) / (2 : Int64)))), .second, .val (.long (((((own_links p1).toInt64) * (((own_links p1).toInt64) + (1 : Int64))) / (2 : Int64)) + (((own_links p1).toInt64) * ((((own_peers p1 p2).toInt64) - ((own_links p1).toInt64)) - (1 : Int64))))), .second] [(.int (1 : Int32))])) _
    exact retN X1 hx (t := .boolean) Bd.returns (by simp) (hb hby at_93) hr
  · show Q_law Z p1 p2 h0 n0 _ T1.heap _
    rw [e1]
    exact ⟨rfl, N2⟩
def Road_tft (p1 : Int32) (p2 : Int32) : Prop := (¬ (((2147483647 : Int32) - (own_links p1)) = (0 : Int32))) ∧ ((((((own_links p1).toInt64) * (((own_links p1).toInt64) + (1 : Int64))) / (2 : Int64)) + (((own_links p1).toInt64) * ((((own_peers p1 p2).toInt64) - ((own_links p1).toInt64)) - (1 : Int64)))) = ((((own_links p1).toInt64) * ((own_peers p1 p2).toInt64)) - ((((own_links p1).toInt64) * (((own_links p1).toInt64) + (1 : Int64))) / (2 : Int64)))) ∧ ((own_peers p1 p2) < (2147483647 : Int32)) ∧ ((((((own_links p1).toInt64) * (((own_links p1).toInt64) + (1 : Int64))) / (2 : Int64)) + (((own_links p1).toInt64) * (((((own_peers p1 p2) + (1 : Int32)).toInt64) - ((own_links p1).toInt64)) - (1 : Int64)))) = ((((((own_links p1).toInt64) * (((own_links p1).toInt64) + (1 : Int64))) / (2 : Int64)) + (((own_links p1).toInt64) * ((((own_peers p1 p2).toInt64) - ((own_links p1).toInt64)) - (1 : Int64)))) + ((own_links p1).toInt64)))
set_option maxRecDepth 65536 in
set_option maxHeartbeats 40000000 in
theorem rm_law_tft (l : Launch) (Z : State) (a0 : Array Value) (hw : ∀ d ∈ tables_1, d.before a0 Z = true) (ws : List Jvm.Cond) (p1 : Int32) (p2 : Int32) (h0 : Heap) (n0 : Nat) (Z0 : n0 ≤ h0.size) (hroad : Road_tft p1 p2) :
    MetFree l x (head1 (Jvm.Cond.code x code maxLocals ret :: ws) room_1) (fun a U => a = #[(.int p1), (.int p2)] ∧ Z.Warmed39 U.vm ∧ U.heap = h0) (fun _ _ _ _ _ => True) (fun _ U o U' => ∃ v L, o = .returned v ∧ Q_law Z p1 p2 h0 n0 v U'.heap L ∧ FrameEnd U o U' L room_1.cells room_1.slots) := by
  obtain ⟨hnz0, hc0, hc1, hc2⟩ := hroad
  refine MetFree.of_bodySF (plainFor_of_name pn_com_example_trawl_trawl_gen_PreferentialAttachmentLinkCountPinLaw) hisR ?_
  intro p e s m args below meth c s₁ Bd hml0 hP hK
  obtain ⟨rfl, hZ, hh⟩ := hP
  have hx := Bd.exec
  have hby := Bd.bytes
  have hml : c.maxLocals = 12 := hml0
  have hown : s.vm.findClass "com/example/trawl/trawl/gen/PreferentialAttachmentLinkCountPinLaw" = some m.cls := findClass_of_methodNamed Bd.named
  have hnm := (name_of_methodNamed Bd.named Bd.method).1
  have X0 : Stand p l e room_1 s m #[(.int p1), (.int p2)] below meth c s₁ [] 0 0 := Stand.of_body Bd
  have e0 : s₁.heap = h0 := by rw [← hh, Bd.state]; rfl
  have N0 := Fr.nil n0
  have pre0 : ∀ t, Steps p.tables e below (s₁.setTop (mkF m 0 #[.val (.int p1), .val (.int p2), .unset, .unset, .unset, .unset, .unset, .unset, .unset, .unset, .unset, .unset] [])) t → Steps p.tables e below (s₁.setTop (entryFrame m #[(.int p1), (.int p2)] maxLocals)) t := fun t k => castTop (ef_0_II m p1 p2) k
  obtain ⟨_, _, ⟨T1, L1, k1, n1⟩, -, X1, ⟨Lc1, hQ1, l1, y1, z1⟩, st1⟩ := Jvm.LawKit.callS X0 hx (y := (⟨"com/example/trawl/trawl/gen/PreferentialAttachment", "linkCount", "(II)J"⟩ : MethodName)) hown (mvT hZ (hw _ (List.mem_of_getElem? (i := 3) rfl))) (mvT hZ (hw _ (List.mem_of_getElem? (i := 4) rfl))) (mvT hZ (hw _ (List.mem_of_getElem? (i := 5) rfl))) (mvT hZ (hw _ (List.mem_of_getElem? (i := 6) rfl))) (by decide) (backOf (W := 0) (rm_link l Z a0 hw [] (own_peers p1 p2) (own_links p1) h0 n0 Z0 ) hZ (hw _ (List.mem_of_getElem? (i := 6) rfl)) (hw _ (List.mem_of_getElem? (i := 5) rfl)) (by decide) (by decide)) (g := (mkF m 53 #[.val (.int p1), .val (.int p2), .val (.int (own_links p1)), .val (.int (own_peers p1 p2)), .val (.long ((own_links p1).toInt64)), .second, .val (.long ((own_peers p1 p2).toInt64)), .second, .val (.long ((((own_links p1).toInt64) * ((own_peers p1 p2).toInt64)) - ((((own_links p1).toInt64) * (((own_links p1).toInt64) + (1 : Int64))) / (2 : Int64)))), .second, .unset, .unset] [(.int (own_links p1)), (.int (own_peers p1 p2))])) rfl (by rw [hml]; rfl) (argsL := [(.int (own_peers p1 p2)), (.int (own_links p1))]) (rest := []) (lenOf pd_0 rfl) rfl (by show 2 * 0 + _ ≤ _; exact Nat.le_of_eq rfl) (hb hby at_53) (fun _ _ => ⟨rfl, e0, (by decide : 0 + 0 ≤ _), (by decide : 0 + 0 ≤ _)⟩)
  dsimp only [Pt.U, Pt.locs, Pt.cells, Pt.slots] at X1 l1 y1 z1 st1 hQ1
  subst l1 y1 z1
  obtain ⟨rfl, Nq1, e1⟩ := hQ1
  have N2 := Fr.app N0 Nq1
  obtain ⟨_, _, ⟨T3, L3, k3, n3⟩, -, X3, ⟨Lc3, hQ3, l3, y3, z3⟩, st3⟩ := Jvm.LawKit.callS X1 hx (y := (⟨"com/example/trawl/trawl/gen/PreferentialAttachment", "linkCount", "(II)J"⟩ : MethodName)) hown (mvT hZ (hw _ (List.mem_of_getElem? (i := 3) rfl))) (mvT hZ (hw _ (List.mem_of_getElem? (i := 4) rfl))) (mvT hZ (hw _ (List.mem_of_getElem? (i := 5) rfl))) (mvT hZ (hw _ (List.mem_of_getElem? (i := 6) rfl))) (by decide) (backOf (W := 0) (rm_link l Z a0 hw [] ((own_peers p1 p2) + (1 : Int32)) (own_links p1) h0 n0 Z0 ) hZ (hw _ (List.mem_of_getElem? (i := 6) rfl)) (hw _ (List.mem_of_getElem? (i := 5) rfl)) (by decide) (by decide)) (g := (mkF m 78 #[.val (.int p1), .val (.int p2), .val (.int (own_links p1)), .val (.int (own_peers p1 p2)), .val (.long ((own_links p1).toInt64)), .second, .val (.long ((own_peers p1 p2).toInt64)), .second, .val (.long ((((own_links p1).toInt64) * ((own_peers p1 p2).toInt64)) - ((((own_links p1).toInt64) * (((own_links p1).toInt64) + (1 : Int64))) / (2 : Int64)))), .second, .val (.long (((((own_links p1).toInt64) * (((own_links p1).toInt64) + (1 : Int64))) / (2 : Int64)) + (((own_links p1).toInt64) * ((((own_peers p1 p2).toInt64) - ((own_links p1).toInt64)) - (1 : Int64))))), .second] [(.int (own_links p1)), (.int ((own_peers p1 p2) + (1 : Int32)))])) rfl (by rw [hml]; rfl) (argsL := [(.int ((own_peers p1 p2) + (1 : Int32))), (.int (own_links p1))]) (rest := []) (lenOf pd_0 rfl) rfl (by show 2 * 0 + _ ≤ _; exact Nat.le_of_eq rfl) (hb hby at_78) (fun _ _ => ⟨rfl, e1, (by decide : 0 + 0 ≤ _), (by decide : 0 + 0 ≤ _)⟩)
  dsimp only [Pt.U, Pt.locs, Pt.cells, Pt.slots] at X3 l3 y3 z3 st3 hQ3
  subst l3 y3 z3
  obtain ⟨rfl, Nq3, e3⟩ := hQ3
  have N4 := Fr.app N2 Nq3
  obtain ⟨fs, hr, hrun, hended, hW, hsame⟩ := X3.leave (v := some (.int (1 : Int32))) (fun h => by rw [Bd.returns] at h; cases h)
  refine ⟨_, _, pre0 _ ?_, hrun, hended, _, _, rfl, ?_, ⟨_, rfl⟩, hW, hsame.mono (by decide) (by decide)⟩
  · show Steps p.tables e below (s₁.setTop (mkF m 0 #[.val (.int p1), .val (.int p2), .unset, .unset, .unset, .unset, .unset, .unset, .unset, .unset, .unset, .unset] [])) _
    refine XS.iconst X0.here hx rfl (hb hby at_0) ?_
    show Steps p.tables e below (s₁.setTop (mkF m 1 #[.val (.int p1), .val (.int p2), .unset, .unset, .unset, .unset, .unset, .unset, .unset, .unset, .unset, .unset] [(.int (1 : Int32))])) _
    refine XS.iloadN X0.here hx rfl (hb hby at_1) rfl ?_
    show Steps p.tables e below (s₁.setTop (mkF m 2 #[.val (.int p1), .val (.int p2), .unset, .unset, .unset, .unset, .unset, .unset, .unset, .unset, .unset, .unset] [(.int p1), (.int (1 : Int32))])) _
    refine X0.ldcInt hx hown (mvT hZ (hw _ (List.mem_of_getElem? (i := 0) rfl))) (g := (mkF m 2 #[.val (.int p1), .val (.int p2), .unset, .unset, .unset, .unset, .unset, .unset, .unset, .unset, .unset, .unset] [(.int p1), (.int (1 : Int32))])) rfl (hb hby at_2) _ ?_
    show Steps p.tables e below (s₁.setTop (mkF m 4 #[.val (.int p1), .val (.int p2), .unset, .unset, .unset, .unset, .unset, .unset, .unset, .unset, .unset, .unset] [(.int (2147483647 : Int32)), (.int p1), (.int (1 : Int32))])) _
    refine XS.iand X0.here hx rfl (hb hby at_4) rfl ?_
    show Steps p.tables e below (s₁.setTop (mkF m 5 #[.val (.int p1), .val (.int p2), .unset, .unset, .unset, .unset, .unset, .unset, .unset, .unset, .unset, .unset] [(.int (p1 &&& (2147483647 : Int32))), (.int (1 : Int32))])) _
    refine X0.ldcInt hx hown (mvT hZ (hw _ (List.mem_of_getElem? (i := 1) rfl))) (g := (mkF m 5 #[.val (.int p1), .val (.int p2), .unset, .unset, .unset, .unset, .unset, .unset, .unset, .unset, .unset, .unset] [(.int (p1 &&& (2147483647 : Int32))), (.int (1 : Int32))])) rfl (hb hby at_5) _ ?_
    show Steps p.tables e below (s₁.setTop (mkF m 7 #[.val (.int p1), .val (.int p2), .unset, .unset, .unset, .unset, .unset, .unset, .unset, .unset, .unset, .unset] [(.int (2147483646 : Int32)), (.int (p1 &&& (2147483647 : Int32))), (.int (1 : Int32))])) _
    refine iremM X0 hx rfl (hb hby at_7) rfl (by decide) ?_
    show Steps p.tables e below (s₁.setTop (mkF m 8 #[.val (.int p1), .val (.int p2), .unset, .unset, .unset, .unset, .unset, .unset, .unset, .unset, .unset, .unset] [(.int ((p1 &&& (2147483647 : Int32)) % (2147483646 : Int32))), (.int (1 : Int32))])) _
    refine XS.iadd X0.here hx rfl (hb hby at_8) rfl ?_
    show Steps p.tables e below (s₁.setTop (mkF m 9 #[.val (.int p1), .val (.int p2), .unset, .unset, .unset, .unset, .unset, .unset, .unset, .unset, .unset, .unset] [(.int ((1 : Int32) + ((p1 &&& (2147483647 : Int32)) % (2147483646 : Int32))))])) _
    refine XS.istoreN X0.here hx rfl (hb hby at_9) rfl (l' := #[.val (.int p1), .val (.int p2), .val (.int (own_links p1)), .unset, .unset, .unset, .unset, .unset, .unset, .unset, .unset, .unset]) rfl ?_
    show Steps p.tables e below (s₁.setTop (mkF m 10 #[.val (.int p1), .val (.int p2), .val (.int (own_links p1)), .unset, .unset, .unset, .unset, .unset, .unset, .unset, .unset, .unset] [])) _
    refine XS.iloadN X0.here hx rfl (hb hby at_10) rfl ?_
    show Steps p.tables e below (s₁.setTop (mkF m 11 #[.val (.int p1), .val (.int p2), .val (.int (own_links p1)), .unset, .unset, .unset, .unset, .unset, .unset, .unset, .unset, .unset] [(.int (own_links p1))])) _
    refine XS.iconst X0.here hx rfl (hb hby at_11) ?_
    show Steps p.tables e below (s₁.setTop (mkF m 12 #[.val (.int p1), .val (.int p2), .val (.int (own_links p1)), .unset, .unset, .unset, .unset, .unset, .unset, .unset, .unset, .unset] [(.int (1 : Int32)), (.int (own_links p1))])) _
    refine XS.iadd X0.here hx rfl (hb hby at_12) rfl ?_
    show Steps p.tables e below (s₁.setTop (mkF m 13 #[.val (.int p1), .val (.int p2), .val (.int (own_links p1)), .unset, .unset, .unset, .unset, .unset, .unset, .unset, .unset, .unset] [(.int ((own_links p1) + (1 : Int32)))])) _
    refine XS.iloadN X0.here hx rfl (hb hby at_13) rfl ?_
    show Steps p.tables e below (s₁.setTop (mkF m 14 #[.val (.int p1), .val (.int p2), .val (.int (own_links p1)), .unset, .unset, .unset, .unset, .unset, .unset, .unset, .unset, .unset] [(.int p2), (.int ((own_links p1) + (1 : Int32)))])) _
    refine X0.ldcInt hx hown (mvT hZ (hw _ (List.mem_of_getElem? (i := 0) rfl))) (g := (mkF m 14 #[.val (.int p1), .val (.int p2), .val (.int (own_links p1)), .unset, .unset, .unset, .unset, .unset, .unset, .unset, .unset, .unset] [(.int p2), (.int ((own_links p1) + (1 : Int32)))])) rfl (hb hby at_14) _ ?_
    show Steps p.tables e below (s₁.setTop (mkF m 16 #[.val (.int p1), .val (.int p2), .val (.int (own_links p1)), .unset, .unset, .unset, .unset, .unset, .unset, .unset, .unset, .unset] [(.int (2147483647 : Int32)), (.int p2), (.int ((own_links p1) + (1 : Int32)))])) _
    refine XS.iand X0.here hx rfl (hb hby at_16) rfl ?_
    show Steps p.tables e below (s₁.setTop (mkF m 17 #[.val (.int p1), .val (.int p2), .val (.int (own_links p1)), .unset, .unset, .unset, .unset, .unset, .unset, .unset, .unset, .unset] [(.int (p2 &&& (2147483647 : Int32))), (.int ((own_links p1) + (1 : Int32)))])) _
    refine X0.ldcInt hx hown (mvT hZ (hw _ (List.mem_of_getElem? (i := 0) rfl))) (g := (mkF m 17 #[.val (.int p1), .val (.int p2), .val (.int (own_links p1)), .unset, .unset, .unset, .unset, .unset, .unset, .unset, .unset, .unset] [(.int (p2 &&& (2147483647 : Int32))), (.int ((own_links p1) + (1 : Int32)))])) rfl (hb hby at_17) _ ?_
    show Steps p.tables e below (s₁.setTop (mkF m 19 #[.val (.int p1), .val (.int p2), .val (.int (own_links p1)), .unset, .unset, .unset, .unset, .unset, .unset, .unset, .unset, .unset] [(.int (2147483647 : Int32)), (.int (p2 &&& (2147483647 : Int32))), (.int ((own_links p1) + (1 : Int32)))])) _
    refine XS.iloadN X0.here hx rfl (hb hby at_19) rfl ?_
    show Steps p.tables e below (s₁.setTop (mkF m 20 #[.val (.int p1), .val (.int p2), .val (.int (own_links p1)), .unset, .unset, .unset, .unset, .unset, .unset, .unset, .unset, .unset] [(.int (own_links p1)), (.int (2147483647 : Int32)), (.int (p2 &&& (2147483647 : Int32))), (.int ((own_links p1) + (1 : Int32)))])) _
    refine XS.isub X0.here hx rfl (hb hby at_20) rfl ?_
    show Steps p.tables e below (s₁.setTop (mkF m 21 #[.val (.int p1), .val (.int p2), .val (.int (own_links p1)), .unset, .unset, .unset, .unset, .unset, .unset, .unset, .unset, .unset] [(.int ((2147483647 : Int32) - (own_links p1))), (.int (p2 &&& (2147483647 : Int32))), (.int ((own_links p1) + (1 : Int32)))])) _
    refine iremM X0 hx rfl (hb hby at_21) rfl hnz0 ?_
    show Steps p.tables e below (s₁.setTop (mkF m 22 #[.val (.int p1), .val (.int p2), .val (.int (own_links p1)), .unset, .unset, .unset, .unset, .unset, .unset, .unset, .unset, .unset] [(.int ((p2 &&& (2147483647 : Int32)) % ((2147483647 : Int32) - (own_links p1)))), (.int ((own_links p1) + (1 : Int32)))])) _
    refine XS.iadd X0.here hx rfl (hb hby at_22) rfl ?_
    show Steps p.tables e below (s₁.setTop (mkF m 23 #[.val (.int p1), .val (.int p2), .val (.int (own_links p1)), .unset, .unset, .unset, .unset, .unset, .unset, .unset, .unset, .unset] [(.int (((own_links p1) + (1 : Int32)) + ((p2 &&& (2147483647 : Int32)) % ((2147483647 : Int32) - (own_links p1)))))])) _
    refine XS.istoreN X0.here hx rfl (hb hby at_23) rfl (l' := #[.val (.int p1), .val (.int p2), .val (.int (own_links p1)), .val (.int (own_peers p1 p2)), .unset, .unset, .unset, .unset, .unset, .unset, .unset, .unset]) rfl ?_
    show Steps p.tables e below (s₁.setTop (mkF m 24 #[.val (.int p1), .val (.int p2), .val (.int (own_links p1)), .val (.int (own_peers p1 p2)), .unset, .unset, .unset, .unset, .unset, .unset, .unset, .unset] [])) _
    refine XS.iloadN X0.here hx rfl (hb hby at_24) rfl ?_
    show Steps p.tables e below (s₁.setTop (mkF m 25 #[.val (.int p1), .val (.int p2), .val (.int (own_links p1)), .val (.int (own_peers p1 p2)), .unset, .unset, .unset, .unset, .unset, .unset, .unset, .unset] [(.int (own_links p1))])) _
    refine XS.i2l X0.here hx rfl (hb hby at_25) rfl ?_
    show Steps p.tables e below (s₁.setTop (mkF m 26 #[.val (.int p1), .val (.int p2), .val (.int (own_links p1)), .val (.int (own_peers p1 p2)), .unset, .unset, .unset, .unset, .unset, .unset, .unset, .unset] [(.long ((own_links p1).toInt64))])) _
    refine XS.lstore X0.here hx rfl (hb hby at_26) rfl (l' := #[.val (.int p1), .val (.int p2), .val (.int (own_links p1)), .val (.int (own_peers p1 p2)), .val (.long ((own_links p1).toInt64)), .second, .unset, .unset, .unset, .unset, .unset, .unset]) rfl ?_
    show Steps p.tables e below (s₁.setTop (mkF m 28 #[.val (.int p1), .val (.int p2), .val (.int (own_links p1)), .val (.int (own_peers p1 p2)), .val (.long ((own_links p1).toInt64)), .second, .unset, .unset, .unset, .unset, .unset, .unset] [])) _
    refine XS.iloadN X0.here hx rfl (hb hby at_28) rfl ?_
    show Steps p.tables e below (s₁.setTop (mkF m 29 #[.val (.int p1), .val (.int p2), .val (.int (own_links p1)), .val (.int (own_peers p1 p2)), .val (.long ((own_links p1).toInt64)), .second, .unset, .unset, .unset, .unset, .unset, .unset] [(.int (own_peers p1 p2))])) _
    refine XS.i2l X0.here hx rfl (hb hby at_29) rfl ?_
    show Steps p.tables e below (s₁.setTop (mkF m 30 #[.val (.int p1), .val (.int p2), .val (.int (own_links p1)), .val (.int (own_peers p1 p2)), .val (.long ((own_links p1).toInt64)), .second, .unset, .unset, .unset, .unset, .unset, .unset] [(.long ((own_peers p1 p2).toInt64))])) _
    refine XS.lstore X0.here hx rfl (hb hby at_30) rfl (l' := #[.val (.int p1), .val (.int p2), .val (.int (own_links p1)), .val (.int (own_peers p1 p2)), .val (.long ((own_links p1).toInt64)), .second, .val (.long ((own_peers p1 p2).toInt64)), .second, .unset, .unset, .unset, .unset]) rfl ?_
    show Steps p.tables e below (s₁.setTop (mkF m 32 #[.val (.int p1), .val (.int p2), .val (.int (own_links p1)), .val (.int (own_peers p1 p2)), .val (.long ((own_links p1).toInt64)), .second, .val (.long ((own_peers p1 p2).toInt64)), .second, .unset, .unset, .unset, .unset] [])) _
    refine XS.lload X0.here hx rfl (hb hby at_32) rfl ?_
    show Steps p.tables e below (s₁.setTop (mkF m 34 #[.val (.int p1), .val (.int p2), .val (.int (own_links p1)), .val (.int (own_peers p1 p2)), .val (.long ((own_links p1).toInt64)), .second, .val (.long ((own_peers p1 p2).toInt64)), .second, .unset, .unset, .unset, .unset] [(.long ((own_links p1).toInt64))])) _
    refine XS.lload X0.here hx rfl (hb hby at_34) rfl ?_
    show Steps p.tables e below (s₁.setTop (mkF m 36 #[.val (.int p1), .val (.int p2), .val (.int (own_links p1)), .val (.int (own_peers p1 p2)), .val (.long ((own_links p1).toInt64)), .second, .val (.long ((own_peers p1 p2).toInt64)), .second, .unset, .unset, .unset, .unset] [(.long ((own_peers p1 p2).toInt64)), (.long ((own_links p1).toInt64))])) _
    refine XS.lmul X0.here hx rfl (hb hby at_36) rfl ?_
    show Steps p.tables e below (s₁.setTop (mkF m 37 #[.val (.int p1), .val (.int p2), .val (.int (own_links p1)), .val (.int (own_peers p1 p2)), .val (.long ((own_links p1).toInt64)), .second, .val (.long ((own_peers p1 p2).toInt64)), .second, .unset, .unset, .unset, .unset] [(.long (((own_links p1).toInt64) * ((own_peers p1 p2).toInt64)))])) _
    refine XS.lload X0.here hx rfl (hb hby at_37) rfl ?_
    show Steps p.tables e below (s₁.setTop (mkF m 39 #[.val (.int p1), .val (.int p2), .val (.int (own_links p1)), .val (.int (own_peers p1 p2)), .val (.long ((own_links p1).toInt64)), .second, .val (.long ((own_peers p1 p2).toInt64)), .second, .unset, .unset, .unset, .unset] [(.long ((own_links p1).toInt64)), (.long (((own_links p1).toInt64) * ((own_peers p1 p2).toInt64)))])) _
    refine XS.lload X0.here hx rfl (hb hby at_39) rfl ?_
    show Steps p.tables e below (s₁.setTop (mkF m 41 #[.val (.int p1), .val (.int p2), .val (.int (own_links p1)), .val (.int (own_peers p1 p2)), .val (.long ((own_links p1).toInt64)), .second, .val (.long ((own_peers p1 p2).toInt64)), .second, .unset, .unset, .unset, .unset] [(.long ((own_links p1).toInt64)), (.long ((own_links p1).toInt64)), (.long (((own_links p1).toInt64) * ((own_peers p1 p2).toInt64)))])) _
    refine XS.lconst X0.here hx rfl (hb hby at_41) ?_
    show Steps p.tables e below (s₁.setTop (mkF m 42 #[.val (.int p1), .val (.int p2), .val (.int (own_links p1)), .val (.int (own_peers p1 p2)), .val (.long ((own_links p1).toInt64)), .second, .val (.long ((own_peers p1 p2).toInt64)), .second, .unset, .unset, .unset, .unset] [(.long (1 : Int64)), (.long ((own_links p1).toInt64)), (.long ((own_links p1).toInt64)), (.long (((own_links p1).toInt64) * ((own_peers p1 p2).toInt64)))])) _
    refine XS.ladd X0.here hx rfl (hb hby at_42) rfl ?_
    show Steps p.tables e below (s₁.setTop (mkF m 43 #[.val (.int p1), .val (.int p2), .val (.int (own_links p1)), .val (.int (own_peers p1 p2)), .val (.long ((own_links p1).toInt64)), .second, .val (.long ((own_peers p1 p2).toInt64)), .second, .unset, .unset, .unset, .unset] [(.long (((own_links p1).toInt64) + (1 : Int64))), (.long ((own_links p1).toInt64)), (.long (((own_links p1).toInt64) * ((own_peers p1 p2).toInt64)))])) _
    refine XS.lmul X0.here hx rfl (hb hby at_43) rfl ?_
    show Steps p.tables e below (s₁.setTop (mkF m 44 #[.val (.int p1), .val (.int p2), .val (.int (own_links p1)), .val (.int (own_peers p1 p2)), .val (.long ((own_links p1).toInt64)), .second, .val (.long ((own_peers p1 p2).toInt64)), .second, .unset, .unset, .unset, .unset] [(.long (((own_links p1).toInt64) * (((own_links p1).toInt64) + (1 : Int64)))), (.long (((own_links p1).toInt64) * ((own_peers p1 p2).toInt64)))])) _
    refine X0.ldc2Long hx hown (mvT hZ (hw _ (List.mem_of_getElem? (i := 2) rfl))) (g := (mkF m 44 #[.val (.int p1), .val (.int p2), .val (.int (own_links p1)), .val (.int (own_peers p1 p2)), .val (.long ((own_links p1).toInt64)), .second, .val (.long ((own_peers p1 p2).toInt64)), .second, .unset, .unset, .unset, .unset] [(.long (((own_links p1).toInt64) * (((own_links p1).toInt64) + (1 : Int64)))), (.long (((own_links p1).toInt64) * ((own_peers p1 p2).toInt64)))])) rfl (hb hby at_44) _ ?_
    show Steps p.tables e below (s₁.setTop (mkF m 47 #[.val (.int p1), .val (.int p2), .val (.int (own_links p1)), .val (.int (own_peers p1 p2)), .val (.long ((own_links p1).toInt64)), .second, .val (.long ((own_peers p1 p2).toInt64)), .second, .unset, .unset, .unset, .unset] [(.long (2 : Int64)), (.long (((own_links p1).toInt64) * (((own_links p1).toInt64) + (1 : Int64)))), (.long (((own_links p1).toInt64) * ((own_peers p1 p2).toInt64)))])) _
    refine XS.ldiv X0.here hx rfl (hb hby at_47) rfl (by decide) ?_
    show Steps p.tables e below (s₁.setTop (mkF m 48 #[.val (.int p1), .val (.int p2), .val (.int (own_links p1)), .val (.int (own_peers p1 p2)), .val (.long ((own_links p1).toInt64)), .second, .val (.long ((own_peers p1 p2).toInt64)), .second, .unset, .unset, .unset, .unset] [(.long ((((own_links p1).toInt64) * (((own_links p1).toInt64) + (1 : Int64))) / (2 : Int64))), (.long (((own_links p1).toInt64) * ((own_peers p1 p2).toInt64)))])) _
    refine XS.lsub X0.here hx rfl (hb hby at_48) rfl ?_
    show Steps p.tables e below (s₁.setTop (mkF m 49 #[.val (.int p1), .val (.int p2), .val (.int (own_links p1)), .val (.int (own_peers p1 p2)), .val (.long ((own_links p1).toInt64)), .second, .val (.long ((own_peers p1 p2).toInt64)), .second, .unset, .unset, .unset, .unset] [(.long ((((own_links p1).toInt64) * ((own_peers p1 p2).toInt64)) - ((((own_links p1).toInt64) * (((own_links p1).toInt64) + (1 : Int64))) / (2 : Int64))))])) _
    refine XS.lstore X0.here hx rfl (hb hby at_49) rfl (l' := #[.val (.int p1), .val (.int p2), .val (.int (own_links p1)), .val (.int (own_peers p1 p2)), .val (.long ((own_links p1).toInt64)), .second, .val (.long ((own_peers p1 p2).toInt64)), .second, .val (.long ((((own_links p1).toInt64) * ((own_peers p1 p2).toInt64)) - ((((own_links p1).toInt64) * (((own_links p1).toInt64) + (1 : Int64))) / (2 : Int64)))), .second, .unset, .unset]) rfl ?_
    show Steps p.tables e below (s₁.setTop (mkF m 51 #[.val (.int p1), .val (.int p2), .val (.int (own_links p1)), .val (.int (own_peers p1 p2)), .val (.long ((own_links p1).toInt64)), .second, .val (.long ((own_peers p1 p2).toInt64)), .second, .val (.long ((((own_links p1).toInt64) * ((own_peers p1 p2).toInt64)) - ((((own_links p1).toInt64) * (((own_links p1).toInt64) + (1 : Int64))) / (2 : Int64)))), .second, .unset, .unset] [])) _
    refine XS.iloadN X0.here hx rfl (hb hby at_51) rfl ?_
    show Steps p.tables e below (s₁.setTop (mkF m 52 #[.val (.int p1), .val (.int p2), .val (.int (own_links p1)), .val (.int (own_peers p1 p2)), .val (.long ((own_links p1).toInt64)), .second, .val (.long ((own_peers p1 p2).toInt64)), .second, .val (.long ((((own_links p1).toInt64) * ((own_peers p1 p2).toInt64)) - ((((own_links p1).toInt64) * (((own_links p1).toInt64) + (1 : Int64))) / (2 : Int64)))), .second, .unset, .unset] [(.int (own_peers p1 p2))])) _
    refine XS.iloadN X0.here hx rfl (hb hby at_52) rfl ?_
    show Steps p.tables e below (s₁.setTop (mkF m 53 #[.val (.int p1), .val (.int p2), .val (.int (own_links p1)), .val (.int (own_peers p1 p2)), .val (.long ((own_links p1).toInt64)), .second, .val (.long ((own_peers p1 p2).toInt64)), .second, .val (.long ((((own_links p1).toInt64) * ((own_peers p1 p2).toInt64)) - ((((own_links p1).toInt64) * (((own_links p1).toInt64) + (1 : Int64))) / (2 : Int64)))), .second, .unset, .unset] [(.int (own_links p1)), (.int (own_peers p1 p2))])) _
    refine st1 _ ?_
    show Steps p.tables e below (T1.setTop (mkF m 56 #[.val (.int p1), .val (.int p2), .val (.int (own_links p1)), .val (.int (own_peers p1 p2)), .val (.long ((own_links p1).toInt64)), .second, .val (.long ((own_peers p1 p2).toInt64)), .second, .val (.long ((((own_links p1).toInt64) * ((own_peers p1 p2).toInt64)) - ((((own_links p1).toInt64) * (((own_links p1).toInt64) + (1 : Int64))) / (2 : Int64)))), .second, .unset, .unset] [(.long (((((own_links p1).toInt64) * (((own_links p1).toInt64) + (1 : Int64))) / (2 : Int64)) + (((own_links p1).toInt64) * ((((own_peers p1 p2).toInt64) - ((own_links p1).toInt64)) - (1 : Int64)))))])) _
    refine XS.lstore X1.here hx rfl (hb hby at_56) rfl (l' := #[.val (.int p1), .val (.int p2), .val (.int (own_links p1)), .val (.int (own_peers p1 p2)), .val (.long ((own_links p1).toInt64)), .second, .val (.long ((own_peers p1 p2).toInt64)), .second, .val (.long ((((own_links p1).toInt64) * ((own_peers p1 p2).toInt64)) - ((((own_links p1).toInt64) * (((own_links p1).toInt64) + (1 : Int64))) / (2 : Int64)))), .second, .val (.long (((((own_links p1).toInt64) * (((own_links p1).toInt64) + (1 : Int64))) / (2 : Int64)) + (((own_links p1).toInt64) * ((((own_peers p1 p2).toInt64) - ((own_links p1).toInt64)) - (1 : Int64))))), .second]) rfl ?_
    show Steps p.tables e below (T1.setTop (mkF m 58 #[.val (.int p1), .val (.int p2), .val (.int (own_links p1)), .val (.int (own_peers p1 p2)), .val (.long ((own_links p1).toInt64)), .second, .val (.long ((own_peers p1 p2).toInt64)), .second, .val (.long ((((own_links p1).toInt64) * ((own_peers p1 p2).toInt64)) - ((((own_links p1).toInt64) * (((own_links p1).toInt64) + (1 : Int64))) / (2 : Int64)))), .second, .val (.long (((((own_links p1).toInt64) * (((own_links p1).toInt64) + (1 : Int64))) / (2 : Int64)) + (((own_links p1).toInt64) * ((((own_peers p1 p2).toInt64) - ((own_links p1).toInt64)) - (1 : Int64))))), .second] [])) _
    refine XS.lload X1.here hx rfl (hb hby at_58) rfl ?_
    show Steps p.tables e below (T1.setTop (mkF m 60 #[.val (.int p1), .val (.int p2), .val (.int (own_links p1)), .val (.int (own_peers p1 p2)), .val (.long ((own_links p1).toInt64)), .second, .val (.long ((own_peers p1 p2).toInt64)), .second, .val (.long ((((own_links p1).toInt64) * ((own_peers p1 p2).toInt64)) - ((((own_links p1).toInt64) * (((own_links p1).toInt64) + (1 : Int64))) / (2 : Int64)))), .second, .val (.long (((((own_links p1).toInt64) * (((own_links p1).toInt64) + (1 : Int64))) / (2 : Int64)) + (((own_links p1).toInt64) * ((((own_peers p1 p2).toInt64) - ((own_links p1).toInt64)) - (1 : Int64))))), .second] [(.long (((((own_links p1).toInt64) * (((own_links p1).toInt64) + (1 : Int64))) / (2 : Int64)) + (((own_links p1).toInt64) * ((((own_peers p1 p2).toInt64) - ((own_links p1).toInt64)) - (1 : Int64)))))])) _
    refine XS.lload X1.here hx rfl (hb hby at_60) rfl ?_
    show Steps p.tables e below (T1.setTop (mkF m 62 #[.val (.int p1), .val (.int p2), .val (.int (own_links p1)), .val (.int (own_peers p1 p2)), .val (.long ((own_links p1).toInt64)), .second, .val (.long ((own_peers p1 p2).toInt64)), .second, .val (.long ((((own_links p1).toInt64) * ((own_peers p1 p2).toInt64)) - ((((own_links p1).toInt64) * (((own_links p1).toInt64) + (1 : Int64))) / (2 : Int64)))), .second, .val (.long (((((own_links p1).toInt64) * (((own_links p1).toInt64) + (1 : Int64))) / (2 : Int64)) + (((own_links p1).toInt64) * ((((own_peers p1 p2).toInt64) - ((own_links p1).toInt64)) - (1 : Int64))))), .second] [(.long ((((own_links p1).toInt64) * ((own_peers p1 p2).toInt64)) - ((((own_links p1).toInt64) * (((own_links p1).toInt64) + (1 : Int64))) / (2 : Int64)))), (.long (((((own_links p1).toInt64) * (((own_links p1).toInt64) + (1 : Int64))) / (2 : Int64)) + (((own_links p1).toInt64) * ((((own_peers p1 p2).toInt64) - ((own_links p1).toInt64)) - (1 : Int64)))))])) _
    refine XS.lcmp X1.here hx rfl (hb hby at_62) rfl ?_
    show Steps p.tables e below (T1.setTop (mkF m 63 #[.val (.int p1), .val (.int p2), .val (.int (own_links p1)), .val (.int (own_peers p1 p2)), .val (.long ((own_links p1).toInt64)), .second, .val (.long ((own_peers p1 p2).toInt64)), .second, .val (.long ((((own_links p1).toInt64) * ((own_peers p1 p2).toInt64)) - ((((own_links p1).toInt64) * (((own_links p1).toInt64) + (1 : Int64))) / (2 : Int64)))), .second, .val (.long (((((own_links p1).toInt64) * (((own_links p1).toInt64) + (1 : Int64))) / (2 : Int64)) + (((own_links p1).toInt64) * ((((own_peers p1 p2).toInt64) - ((own_links p1).toInt64)) - (1 : Int64))))), .second] [(.int (lcmpW (((((own_links p1).toInt64) * (((own_links p1).toInt64) + (1 : Int64))) / (2 : Int64)) + (((own_links p1).toInt64) * ((((own_peers p1 p2).toInt64) - ((own_links p1).toInt64)) - (1 : Int64)))) ((((own_links p1).toInt64) * ((own_peers p1 p2).toInt64)) - ((((own_links p1).toInt64) * (((own_links p1).toInt64) + (1 : Int64))) / (2 : Int64)))))])) _
    refine XS.ifYes X1.here hx rfl (pc0 := 63) (pc' := 68) rfl (hb hby at_63) rfl ((if0 _ _).trans (teq ((lw_eq _ _).mpr (hc0 : (((((own_links p1).toInt64) * (((own_links p1).toInt64) + (1 : Int64))) / (2 : Int64)) + (((own_links p1).toInt64) * ((((own_peers p1 p2).toInt64) - ((own_links p1).toInt64)) - (1 : Int64)))) = ((((own_links p1).toInt64) * ((own_peers p1 p2).toInt64)) - ((((own_links p1).toInt64) * (((own_links p1).toInt64) + (1 : Int64))) / (2 : Int64)))))).1) (by decide) (by decide) ?_
    show Steps p.tables e below (T1.setTop (mkF m 68 #[.val (.int p1), .val (.int p2), .val (.int (own_links p1)), .val (.int (own_peers p1 p2)), .val (.long ((own_links p1).toInt64)), .second, .val (.long ((own_peers p1 p2).toInt64)), .second, .val (.long ((((own_links p1).toInt64) * ((own_peers p1 p2).toInt64)) - ((((own_links p1).toInt64) * (((own_links p1).toInt64) + (1 : Int64))) / (2 : Int64)))), .second, .val (.long (((((own_links p1).toInt64) * (((own_links p1).toInt64) + (1 : Int64))) / (2 : Int64)) + (((own_links p1).toInt64) * ((((own_peers p1 p2).toInt64) - ((own_links p1).toInt64)) - (1 : Int64))))), .second] [])) _
    refine XS.iloadN X1.here hx rfl (hb hby at_68) rfl ?_
    show Steps p.tables e below (T1.setTop (mkF m 69 #[.val (.int p1), .val (.int p2), .val (.int (own_links p1)), .val (.int (own_peers p1 p2)), .val (.long ((own_links p1).toInt64)), .second, .val (.long ((own_peers p1 p2).toInt64)), .second, .val (.long ((((own_links p1).toInt64) * ((own_peers p1 p2).toInt64)) - ((((own_links p1).toInt64) * (((own_links p1).toInt64) + (1 : Int64))) / (2 : Int64)))), .second, .val (.long (((((own_links p1).toInt64) * (((own_links p1).toInt64) + (1 : Int64))) / (2 : Int64)) + (((own_links p1).toInt64) * ((((own_peers p1 p2).toInt64) - ((own_links p1).toInt64)) - (1 : Int64))))), .second] [(.int (own_peers p1 p2))])) _
    refine X1.ldcInt hx hown (mvT hZ (hw _ (List.mem_of_getElem? (i := 0) rfl))) (g := (mkF m 69 #[.val (.int p1), .val (.int p2), .val (.int (own_links p1)), .val (.int (own_peers p1 p2)), .val (.long ((own_links p1).toInt64)), .second, .val (.long ((own_peers p1 p2).toInt64)), .second, .val (.long ((((own_links p1).toInt64) * ((own_peers p1 p2).toInt64)) - ((((own_links p1).toInt64) * (((own_links p1).toInt64) + (1 : Int64))) / (2 : Int64)))), .second, .val (.long (((((own_links p1).toInt64) * (((own_links p1).toInt64) + (1 : Int64))) / (2 : Int64)) + (((own_links p1).toInt64) * ((((own_peers p1 p2).toInt64) - ((own_links p1).toInt64)) - (1 : Int64))))), .second] [(.int (own_peers p1 p2))])) rfl (hb hby at_69) _ ?_
    show Steps p.tables e below (T1.setTop (mkF m 71 #[.val (.int p1), .val (.int p2), .val (.int (own_links p1)), .val (.int (own_peers p1 p2)), .val (.long ((own_links p1).toInt64)), .second, .val (.long ((own_peers p1 p2).toInt64)), .second, .val (.long ((((own_links p1).toInt64) * ((own_peers p1 p2).toInt64)) - ((((own_links p1).toInt64) * (((own_links p1).toInt64) + (1 : Int64))) / (2 : Int64)))), .second, .val (.long (((((own_links p1).toInt64) * (((own_links p1).toInt64) + (1 : Int64))) / (2 : Int64)) + (((own_links p1).toInt64) * ((((own_peers p1 p2).toInt64) - ((own_links p1).toInt64)) - (1 : Int64))))), .second] [(.int (2147483647 : Int32)), (.int (own_peers p1 p2))])) _
    refine XS.icmpNo X1.here hx rfl (hb hby at_71) rfl (tlt hc1).2.1 ?_
    show Steps p.tables e below (T1.setTop (mkF m 74 #[.val (.int p1), .val (.int p2), .val (.int (own_links p1)), .val (.int (own_peers p1 p2)), .val (.long ((own_links p1).toInt64)), .second, .val (.long ((own_peers p1 p2).toInt64)), .second, .val (.long ((((own_links p1).toInt64) * ((own_peers p1 p2).toInt64)) - ((((own_links p1).toInt64) * (((own_links p1).toInt64) + (1 : Int64))) / (2 : Int64)))), .second, .val (.long (((((own_links p1).toInt64) * (((own_links p1).toInt64) + (1 : Int64))) / (2 : Int64)) + (((own_links p1).toInt64) * ((((own_peers p1 p2).toInt64) - ((own_links p1).toInt64)) - (1 : Int64))))), .second] [])) _
    refine XS.iloadN X1.here hx rfl (hb hby at_74) rfl ?_
    show Steps p.tables e below (T1.setTop (mkF m 75 #[.val (.int p1), .val (.int p2), .val (.int (own_links p1)), .val (.int (own_peers p1 p2)), .val (.long ((own_links p1).toInt64)), .second, .val (.long ((own_peers p1 p2).toInt64)), .second, .val (.long ((((own_links p1).toInt64) * ((own_peers p1 p2).toInt64)) - ((((own_links p1).toInt64) * (((own_links p1).toInt64) + (1 : Int64))) / (2 : Int64)))), .second, .val (.long (((((own_links p1).toInt64) * (((own_links p1).toInt64) + (1 : Int64))) / (2 : Int64)) + (((own_links p1).toInt64) * ((((own_peers p1 p2).toInt64) - ((own_links p1).toInt64)) - (1 : Int64))))), .second] [(.int (own_peers p1 p2))])) _
    refine XS.iconst X1.here hx rfl (hb hby at_75) ?_
    show Steps p.tables e below (T1.setTop (mkF m 76 #[.val (.int p1), .val (.int p2), .val (.int (own_links p1)), .val (.int (own_peers p1 p2)), .val (.long ((own_links p1).toInt64)), .second, .val (.long ((own_peers p1 p2).toInt64)), .second, .val (.long ((((own_links p1).toInt64) * ((own_peers p1 p2).toInt64)) - ((((own_links p1).toInt64) * (((own_links p1).toInt64) + (1 : Int64))) / (2 : Int64)))), .second, .val (.long (((((own_links p1).toInt64) * (((own_links p1).toInt64) + (1 : Int64))) / (2 : Int64)) + (((own_links p1).toInt64) * ((((own_peers p1 p2).toInt64) - ((own_links p1).toInt64)) - (1 : Int64))))), .second] [(.int (1 : Int32)), (.int (own_peers p1 p2))])) _
    refine XS.iadd X1.here hx rfl (hb hby at_76) rfl ?_
    show Steps p.tables e below (T1.setTop (mkF m 77 #[.val (.int p1), .val (.int p2), .val (.int (own_links p1)), .val (.int (own_peers p1 p2)), .val (.long ((own_links p1).toInt64)), .second, .val (.long ((own_peers p1 p2).toInt64)), .second, .val (.long ((((own_links p1).toInt64) * ((own_peers p1 p2).toInt64)) - ((((own_links p1).toInt64) * (((own_links p1).toInt64) + (1 : Int64))) / (2 : Int64)))), .second, .val (.long (((((own_links p1).toInt64) * (((own_links p1).toInt64) + (1 : Int64))) / (2 : Int64)) + (((own_links p1).toInt64) * ((((own_peers p1 p2).toInt64) - ((own_links p1).toInt64)) - (1 : Int64))))), .second] [(.int ((own_peers p1 p2) + (1 : Int32)))])) _
    refine XS.iloadN X1.here hx rfl (hb hby at_77) rfl ?_
    show Steps p.tables e below (T1.setTop (mkF m 78 #[.val (.int p1), .val (.int p2), .val (.int (own_links p1)), .val (.int (own_peers p1 p2)), .val (.long ((own_links p1).toInt64)), .second, .val (.long ((own_peers p1 p2).toInt64)), .second, .val (.long ((((own_links p1).toInt64) * ((own_peers p1 p2).toInt64)) - ((((own_links p1).toInt64) * (((own_links p1).toInt64) + (1 : Int64))) / (2 : Int64)))), .second, .val (.long (((((own_links p1).toInt64) * (((own_links p1).toInt64) + (1 : Int64))) / (2 : Int64)) + (((own_links p1).toInt64) * ((((own_peers p1 p2).toInt64) - ((own_links p1).toInt64)) - (1 : Int64))))), .second] [(.int (own_links p1)), (.int ((own_peers p1 p2) + (1 : Int32)))])) _
    refine st3 _ ?_
    show Steps p.tables e below (T3.setTop (mkF m 81 #[.val (.int p1), .val (.int p2), .val (.int (own_links p1)), .val (.int (own_peers p1 p2)), .val (.long ((own_links p1).toInt64)), .second, .val (.long ((own_peers p1 p2).toInt64)), .second, .val (.long ((((own_links p1).toInt64) * ((own_peers p1 p2).toInt64)) - ((((own_links p1).toInt64) * (((own_links p1).toInt64) + (1 : Int64))) / (2 : Int64)))), .second, .val (.long (((((own_links p1).toInt64) * (((own_links p1).toInt64) + (1 : Int64))) / (2 : Int64)) + (((own_links p1).toInt64) * ((((own_peers p1 p2).toInt64) - ((own_links p1).toInt64)) - (1 : Int64))))), .second] [(.long (((((own_links p1).toInt64) * (((own_links p1).toInt64) + (1 : Int64))) / (2 : Int64)) + (((own_links p1).toInt64) * (((((own_peers p1 p2) + (1 : Int32)).toInt64) - ((own_links p1).toInt64)) - (1 : Int64)))))])) _
    refine XS.lload X3.here hx rfl (hb hby at_81) rfl ?_
    show Steps p.tables e below (T3.setTop (mkF m 83 #[.val (.int p1), .val (.int p2), .val (.int (own_links p1)), .val (.int (own_peers p1 p2)), .val (.long ((own_links p1).toInt64)), .second, .val (.long ((own_peers p1 p2).toInt64)), .second, .val (.long ((((own_links p1).toInt64) * ((own_peers p1 p2).toInt64)) - ((((own_links p1).toInt64) * (((own_links p1).toInt64) + (1 : Int64))) / (2 : Int64)))), .second, .val (.long (((((own_links p1).toInt64) * (((own_links p1).toInt64) + (1 : Int64))) / (2 : Int64)) + (((own_links p1).toInt64) * ((((own_peers p1 p2).toInt64) - ((own_links p1).toInt64)) - (1 : Int64))))), .second] [(.long (((((own_links p1).toInt64) * (((own_links p1).toInt64) + (1 : Int64))) / (2 : Int64)) + (((own_links p1).toInt64) * ((((own_peers p1 p2).toInt64) - ((own_links p1).toInt64)) - (1 : Int64))))), (.long (((((own_links p1).toInt64) * (((own_links p1).toInt64) + (1 : Int64))) / (2 : Int64)) + (((own_links p1).toInt64) * (((((own_peers p1 p2) + (1 : Int32)).toInt64) - ((own_links p1).toInt64)) - (1 : Int64)))))])) _
    refine XS.lload X3.here hx rfl (hb hby at_83) rfl ?_
    show Steps p.tables e below (T3.setTop (mkF m 85 #[.val (.int p1), .val (.int p2), .val (.int (own_links p1)), .val (.int (own_peers p1 p2)), .val (.long ((own_links p1).toInt64)), .second, .val (.long ((own_peers p1 p2).toInt64)), .second, .val (.long ((((own_links p1).toInt64) * ((own_peers p1 p2).toInt64)) - ((((own_links p1).toInt64) * (((own_links p1).toInt64) + (1 : Int64))) / (2 : Int64)))), .second, .val (.long (((((own_links p1).toInt64) * (((own_links p1).toInt64) + (1 : Int64))) / (2 : Int64)) + (((own_links p1).toInt64) * ((((own_peers p1 p2).toInt64) - ((own_links p1).toInt64)) - (1 : Int64))))), .second] [(.long ((own_links p1).toInt64)), (.long (((((own_links p1).toInt64) * (((own_links p1).toInt64) + (1 : Int64))) / (2 : Int64)) + (((own_links p1).toInt64) * ((((own_peers p1 p2).toInt64) - ((own_links p1).toInt64)) - (1 : Int64))))), (.long (((((own_links p1).toInt64) * (((own_links p1).toInt64) + (1 : Int64))) / (2 : Int64)) + (((own_links p1).toInt64) * (((((own_peers p1 p2) + (1 : Int32)).toInt64) - ((own_links p1).toInt64)) - (1 : Int64)))))])) _
    refine XS.ladd X3.here hx rfl (hb hby at_85) rfl ?_
    show Steps p.tables e below (T3.setTop (mkF m 86 #[.val (.int p1), .val (.int p2), .val (.int (own_links p1)), .val (.int (own_peers p1 p2)), .val (.long ((own_links p1).toInt64)), .second, .val (.long ((own_peers p1 p2).toInt64)), .second, .val (.long ((((own_links p1).toInt64) * ((own_peers p1 p2).toInt64)) - ((((own_links p1).toInt64) * (((own_links p1).toInt64) + (1 : Int64))) / (2 : Int64)))), .second, .val (.long (((((own_links p1).toInt64) * (((own_links p1).toInt64) + (1 : Int64))) / (2 : Int64)) + (((own_links p1).toInt64) * ((((own_peers p1 p2).toInt64) - ((own_links p1).toInt64)) - (1 : Int64))))), .second] [(.long ((((((own_links p1).toInt64) * (((own_links p1).toInt64) + (1 : Int64))) / (2 : Int64)) + (((own_links p1).toInt64) * ((((own_peers p1 p2).toInt64) - ((own_links p1).toInt64)) - (1 : Int64)))) + ((own_links p1).toInt64))), (.long (((((own_links p1).toInt64) * (((own_links p1).toInt64) + (1 : Int64))) / (2 : Int64)) + (((own_links p1).toInt64) * (((((own_peers p1 p2) + (1 : Int32)).toInt64) - ((own_links p1).toInt64)) - (1 : Int64)))))])) _
    refine XS.lcmp X3.here hx rfl (hb hby at_86) rfl ?_
    show Steps p.tables e below (T3.setTop (mkF m 87 #[.val (.int p1), .val (.int p2), .val (.int (own_links p1)), .val (.int (own_peers p1 p2)), .val (.long ((own_links p1).toInt64)), .second, .val (.long ((own_peers p1 p2).toInt64)), .second, .val (.long ((((own_links p1).toInt64) * ((own_peers p1 p2).toInt64)) - ((((own_links p1).toInt64) * (((own_links p1).toInt64) + (1 : Int64))) / (2 : Int64)))), .second, .val (.long (((((own_links p1).toInt64) * (((own_links p1).toInt64) + (1 : Int64))) / (2 : Int64)) + (((own_links p1).toInt64) * ((((own_peers p1 p2).toInt64) - ((own_links p1).toInt64)) - (1 : Int64))))), .second] [(.int (lcmpW (((((own_links p1).toInt64) * (((own_links p1).toInt64) + (1 : Int64))) / (2 : Int64)) + (((own_links p1).toInt64) * (((((own_peers p1 p2) + (1 : Int32)).toInt64) - ((own_links p1).toInt64)) - (1 : Int64)))) ((((((own_links p1).toInt64) * (((own_links p1).toInt64) + (1 : Int64))) / (2 : Int64)) + (((own_links p1).toInt64) * ((((own_peers p1 p2).toInt64) - ((own_links p1).toInt64)) - (1 : Int64)))) + ((own_links p1).toInt64))))])) _
    refine XS.ifYes X3.here hx rfl (pc0 := 87) (pc' := 92) rfl (hb hby at_87) rfl ((if0 _ _).trans (teq ((lw_eq _ _).mpr (hc2 : (((((own_links p1).toInt64) * (((own_links p1).toInt64) + (1 : Int64))) / (2 : Int64)) + (((own_links p1).toInt64) * (((((own_peers p1 p2) + (1 : Int32)).toInt64) - ((own_links p1).toInt64)) - (1 : Int64)))) = ((((((own_links p1).toInt64) * (((own_links p1).toInt64) + (1 : Int64))) / (2 : Int64)) + (((own_links p1).toInt64) * ((((own_peers p1 p2).toInt64) - ((own_links p1).toInt64)) - (1 : Int64)))) + ((own_links p1).toInt64))))).1) (by decide) (by decide) ?_
    show Steps p.tables e below (T3.setTop (mkF m 92 #[.val (.int p1), .val (.int p2), .val (.int (own_links p1)), .val (.int (own_peers p1 p2)), .val (.long ((own_links p1).toInt64)), .second, .val (.long ((own_peers p1 p2).toInt64)), .second, .val (.long ((((own_links p1).toInt64) * ((own_peers p1 p2).toInt64)) - ((((own_links p1).toInt64) * (((own_links p1).toInt64) + (1 : Int64))) / (2 : Int64)))), .second, .val (.long (((((own_links p1).toInt64) * (((own_links p1).toInt64) + (1 : Int64))) / (2 : Int64)) + (((own_links p1).toInt64) * ((((own_peers p1 p2).toInt64) - ((own_links p1).toInt64)) - (1 : Int64))))), .second] [])) _
    refine XS.iconst X3.here hx rfl (hb hby at_92) ?_
    show Steps p.tables e below (T3.setTop (mkF m 93 #[.val (.int p1), .val (.int p2), .val (.int (own_links p1)), .val (.int (own_peers p1 p2)), .val (.long ((own_links p1).toInt64)), .second, .val (.long ((own_peers p1 p2).toInt64)), .second, .val (.long ((((own_links p1).toInt64) * ((own_peers p1 p2).toInt64)) - ((((own_links p1).toInt64) * (((own_links p1).toInt64) + (1 : Int64))) / (2 : Int64)))), .second, .val (.long (((((own_links p1).toInt64) * (((own_links p1).toInt64) + (1 : Int64))) / (2 : Int64)) + (((own_links p1).toInt64) * ((((own_peers p1 p2).toInt64) - ((own_links p1).toInt64)) - (1 : Int64))))), .second] [(.int (1 : Int32))])) _
    exact retN X3 hx (t := .boolean) Bd.returns (by simp) (hb hby at_93) hr
  · show Q_law Z p1 p2 h0 n0 _ T3.heap _
    rw [e3]
    exact ⟨rfl, N4⟩
theorem own_links_rng (p1 : Int32) : 1 ≤ (own_links p1).toInt ∧ (own_links p1).toInt ≤ 2147483646 := by
  have e1 := own_mI p1
  have e2 := own_imod_rng (p1 &&& 2147483647) 2147483646 e1.1 (by decide)
  have e3 := c_iadd 1 ((p1 &&& 2147483647) % 2147483646)
  have e4 := rng32 (1 + ((p1 &&& 2147483647) % 2147483646))
  have e5 : (2147483646 : Int32).toInt = 2147483646 := by decide
  have e6 : (1 : Int32).toInt = 1 := by decide
  unfold own_links
  omega
theorem own_peers_rng (p1 p2 : Int32) : 0 < ((2147483647 : Int32) - own_links p1).toInt ∧ (own_links p1).toInt + 1 ≤ (own_peers p1 p2).toInt := by
  have l := own_links_rng p1
  have e1 := own_mI p2
  have e2 := c_isub 2147483647 (own_links p1)
  have e3 := rng32 ((2147483647 : Int32) - own_links p1)
  have e5 : (2147483647 : Int32).toInt = 2147483647 := by decide
  have e6 : (1 : Int32).toInt = 1 := by decide
  have e7 : 0 < ((2147483647 : Int32) - own_links p1).toInt := by omega
  have e8 := own_imod_rng (p2 &&& 2147483647) ((2147483647 : Int32) - own_links p1) e1.1 e7
  have e9 := c_iadd (own_links p1) 1
  have e10 := rng32 (own_links p1 + 1)
  have e11 := c_iadd (own_links p1 + 1) ((p2 &&& 2147483647) % ((2147483647 : Int32) - own_links p1))
  have e12 := rng32 ((own_links p1 + 1) + ((p2 &&& 2147483647) % ((2147483647 : Int32) - own_links p1)))
  refine ⟨e7, ?_⟩
  unfold own_peers
  omega
theorem own_half (l : Int64) (h1 : 0 ≤ l.toInt) (h2 : l.toInt ≤ 2147483647) : l * (l + 1) / 2 + l * (l + 1) / 2 = l * (l + 1) := by
  have e1 := c_ladd l 1
  have r1 := rng64 (l + 1)
  have o1 : (1 : Int64).toInt = 1 := by decide
  have e2 : (l + 1).toInt = l.toInt + 1 := by omega
  have e3 := c_lmul l (l + 1)
  have r3 := rng64 (l * (l + 1))
  rw [e2] at e3
  have b1 : l.toInt * (l.toInt + 1) ≤ 2147483647 * 2147483648 := Int.mul_le_mul (by omega) (by omega) (by omega) (by omega)
  have b2 : 0 ≤ l.toInt * (l.toInt + 1) := Int.mul_nonneg h1 (by omega)
  have e4 : (l * (l + 1)).toInt = l.toInt * (l.toInt + 1) := by omega
  have e5 := (c_ldiv (l * (l + 1)) 2 2 (by decide) (by decide)).1 (by omega)
  have e6 : l.toInt * (l.toInt + 1) % 2 = 0 := by
    rw [Int.mul_emod]
    rcases (by omega : l.toInt % 2 = 0 ∨ l.toInt % 2 = 1) with h | h
    · rw [h]; simp
    · rw [show (l.toInt + 1) % 2 = 0 by omega]; simp
  have e7 := c_ladd (l * (l + 1) / 2) (l * (l + 1) / 2)
  have r7 := rng64 (l * (l + 1) / 2 + l * (l + 1) / 2)
  apply own_eq64
  omega
theorem own_ring (l p T : Int64) (h : T + T = l * (l + 1)) : T + l * (p - l - 1) = l * p - T := by grind
theorem own_ring2 (l p T : Int64) : T + l * (p + 1 - l - 1) = T + l * (p - l - 1) + l := by grind
theorem own_plain (p1 p2 : Int32) : Road_tt p1 p2 ∨ Road_tft p1 p2 := by
  have l := own_links_rng p1
  have q := own_peers_rng p1 p2
  have i1 := c_i2l (own_links p1)
  have hh := own_half (own_links p1).toInt64 (by omega) (by omega)
  have k1 : ¬ (((2147483647 : Int32) - (own_links p1)) = (0 : Int32)) := own_nz32 q.1
  have k2 := own_ring (own_links p1).toInt64 (own_peers p1 p2).toInt64 _ hh
  by_cases c : own_peers p1 p2 < (2147483647 : Int32)
  · right
    have c' := own_lt32.mp c
    have e5 : (2147483647 : Int32).toInt = 2147483647 := by decide
    have e6 : (1 : Int32).toInt = 1 := by decide
    have a1 := c_iadd (own_peers p1 p2) 1
    have a2 := rng32 (own_peers p1 p2 + 1)
    have a3 := c_i2l (own_peers p1 p2)
    have a4 := c_i2l (own_peers p1 p2 + 1)
    have a5 := c_ladd (own_peers p1 p2).toInt64 1
    have a6 := rng64 ((own_peers p1 p2).toInt64 + 1)
    have e7 : (1 : Int64).toInt = 1 := by decide
    have a7 : (own_peers p1 p2 + 1).toInt64 = (own_peers p1 p2).toInt64 + 1 := own_eq64 (by omega)
    refine ⟨k1, k2, c, ?_⟩
    rw [a7]
    exact own_ring2 _ _ _
  · exact Or.inl ⟨k1, k2, c⟩
set_option maxRecDepth 65536 in
set_option maxHeartbeats 40000000 in
theorem rm_law (l : Launch) (Z : State) (a0 : Array Value) (hw : ∀ d ∈ tables_1, d.before a0 Z = true) (ws : List Jvm.Cond) (p1 : Int32) (p2 : Int32) (h0 : Heap) (n0 : Nat) (Z0 : n0 ≤ h0.size) :
    MetFree l x (head1 (Jvm.Cond.code x code maxLocals ret :: ws) room_1) (fun a U => a = #[(.int p1), (.int p2)] ∧ Z.Warmed39 U.vm ∧ U.heap = h0) (fun _ _ _ _ _ => True) (fun _ U o U' => ∃ v L, o = .returned v ∧ Q_law Z p1 p2 h0 n0 v U'.heap L ∧ FrameEnd U o U' L room_1.cells room_1.slots) := by
  rcases own_plain p1 p2 with h | h
  · exact rm_law_tt l Z a0 hw ws p1 p2 h0 n0 Z0 h
  · exact rm_law_tft l Z a0 hw ws p1 p2 h0 n0 Z0 h
set_option maxRecDepth 65536 in
set_option maxHeartbeats 40000000 in
theorem comes_1 {Post : Tables → Env → Array Value → State → Outcome → State → Prop} (hpost : ∀ tb e args s v u, (limb_1_1.after args s (.returned v) u = true ∧ limb_1_2.after args s (.returned v) u = true ∧ True) → FrameEnd s (.returned v) u (Jvm.fieldLocs frame_1_writes args s ++ Jvm.arrayLocs frame_1_arrays args s ++ Jvm.staticLocs frame_1_statics s) 0 0 → Post tb e args s (.returned v) u) :
    ArmFor flags0 classFile x code maxLocals ret World_1 tables_1 room_1 Calls_1 rest_1 Pre_1 Post := by
  intro l hfl _ _ p e ha hc hk s m args below hf hA hF happ hP
  obtain ⟨hcalls, hrest, hpre⟩ := hP
  obtain ⟨-, -, -, hnamed, -, -, -, hat⟩ := (Spec.applies_iff hf).mp happ
  obtain ⟨hg, hn⟩ := and_e (Cond.before_iff.mp (show (Jvm.Cond.and given_1 narrow_1).before args s = true from hpre))
  obtain ⟨g1, g2⟩ := and_e hg
  obtain ⟨g3, g4⟩ := and_e g2
  obtain ⟨w0, w1, rfl⟩ : ∃ w0 w1 : Value, args = #[w0, w1] := by
    have hs : args.size = 2 := by simpa [Cond.value, given_1] using g1
    obtain ⟨L⟩ := args
    match L, hs with
    | [w0, w1], _ => exact ⟨w0, w1, rfl⟩
  have hw := fun d (hd : d ∈ tables_1) => atoms_spec (ws := Jvm.Cond.code x code maxLocals ret :: tables_1) hat d (List.mem_cons_of_mem _ hd)
  have hfit : Fit s := fun {y c} hc i hi => by
    obtain ⟨ha, rfl⟩ := Array.getElem?_eq_some_iff.mp hc
    have q := List.all_eq_true.mp ((Array.all_eq_true_iff_forall_mem.mp hF) _ (Array.getElem_mem ha)) i (List.mem_range.mpr hi)
    simpa [Array.getElem?_eq_getElem hi] using q
  obtain ⟨i0, ei0⟩ := is_v g3
  obtain rfl : w0 = (.int i0) := Option.some.inj ei0
  obtain ⟨i1, ei1⟩ := is_v g4
  obtain rfl : w1 = (.int i1) := Option.some.inj ei1
  obtain ⟨n, o, h1, h2, h3, _, L, rfl, ⟨rfl, N⟩, hq⟩ := rm_law l s _ hw tables_1 i0 i1 s.heap s.heap.size (Nat.le_refl _) p e ha hc hk s m _ below hf ((Spec.applies_iff_loose hf).mp happ).1 ⟨rfl, State.Warmed39.refl s, rfl⟩ trivial
  refine ⟨n, _, h1, h2, h3, hpost _ _ _ _ _ _ ⟨Cond.after_iff.mpr rfl, Cond.after_iff.mpr (eq_i res_at (Term.int_eval (1)) rfl), trivial⟩ ⟨hq.1, hq.2.1, (hq.2.2.sift fun y hy => Or.inr (N y hy)).mono (by decide) (by decide)⟩⟩
theorem main_1_1 : Claimed_1_1 := comes_1 fun _ _ _ _ _ _ h hF => ⟨h.1, hF⟩
theorem main_1_2 : Claimed_1_2 := comes_1 fun _ _ _ _ _ _ h hF => ⟨h.2.1, hF⟩
end Jvm.Pilot.@@N@@
namespace Jvm.Pilot.@@N@@
open Jvm Jvm.ClassFile Sem Op Lib Jvm.Free Jvm.Stand Jvm.Pilot.@@N@@.Jvm.D
/-! MADE BY PROGRAM (witnessworld.py) out of the Statement's table words and the real class files: 9 classes; the members and pool entries that the words name. The judged class is class 1, her method 1. -/
namespace start1
open Jvm.ClassFile
def u (s : String) : CpInfo := .utf8 (stringToUtf16 s)
/-- a pool by its gaps: so many unusable entries, then the entry; so many at the end -/
def gap : Nat → List CpInfo → List CpInfo
  | 0, r => r
  | n + 1, r => .unusable :: gap n r
def poolList (es : List (Nat × CpInfo)) (last : Nat) : List CpInfo := es.foldr (fun e r => gap e.1 (e.2 :: r)) (gap last [])
def pool (es : List (Nat × CpInfo)) (last : Nat) : Array CpInfo := ⟨poolList es last⟩
def fileOf (pool : Array CpInfo) (this : Nat) (attrs : Array Attribute := #[]) (ms : Array MethodInfo := #[]) (fl : Nat := 33) (sup : Nat := 0) (ifs : Array Nat := #[]) (fds : Array FieldInfo := #[]) : ClassFile where
  minorVersion := 0
  majorVersion := 65
  constantPool := pool
  accessFlags := fl
  thisClass := this
  superClass := sup
  interfaces := ifs
  fields := fds
  methods := ms
  attributes := attrs
def plain (name : String) (sup : Option ClassId) : Class where
  name := name
  kind := .ordinary
  loader := none
  accessFlags := 33
  super := sup
  interfaces := #[]
  cf := none
  fields := #[]
  methods := #[]
  instanceTypes := #[]
  staticTypes := #[]
  resolved := #[]
  callSites := []
  init := .initialized
  statics := none
  mirror := none

def pool0 : Array CpInfo := pool [(5, u "<init>"), (0, u "()V"), (1, .class_ 10), (1, u "java/lang/Object")] 113

def k0m0 : Method := { name := "<init>", desc := "()V", sig := { parameters := [], returnType := none }, accessFlags := 1, code := none }
/-- java/lang/Object -/
def k0 : Class := { plain "java/lang/Object" none with
  accessFlags := 33
  interfaces := #[]
  cf := some (fileOf pool0 8 #[] #[{ accessFlags := 1, nameIndex := 5, descriptorIndex := 6, attributes := #[] }] 33 0 #[] #[])
  fields := #[]
  methods := #[k0m0]
  instanceTypes := #[]
  staticTypes := #[]
  resolved := Array.replicate 124 none
  statics := none }

def pool1 : Array CpInfo := pool [(2, .class_ 4), (1, u "java/lang/Object"), (0, u "<init>"), (0, u "()V"), (0, .integer 2147483647), (2, .integer 2147483646), (0, .long 2), (1, .methodref 14 15), (0, .class_ 16), (0, .nameAndType 17 18), (0, u "com/example/trawl/trawl/gen/PreferentialAttachment"), (0, u "linkCount"), (0, u "(II)J"), (0, .class_ 20), (0, u "com/example/trawl/trawl/gen/PreferentialAttachmentLinkCountPinLaw"), (2, u "law"), (0, u "(II)Z")] 3

def k1m0 : Method := { name := "<init>", desc := "()V", sig := { parameters := [], returnType := none }, accessFlags := 2, code := none }
def k1c1 : Code := { maxStack := 8, maxLocals := 12, code := code, exceptionTable := #[], attributes := #[] }
def k1m1 : Method := { name := "law", desc := "(II)Z", sig := { parameters := [.int, .int], returnType := some .boolean }, accessFlags := 9, code := some k1c1 }
/-- com/example/trawl/trawl/gen/PreferentialAttachmentLinkCountPinLaw -/
def k1 : Class := { plain "com/example/trawl/trawl/gen/PreferentialAttachmentLinkCountPinLaw" (some 0) with
  accessFlags := 49
  interfaces := #[]
  cf := some (fileOf pool1 19 #[] #[{ accessFlags := 2, nameIndex := 5, descriptorIndex := 6, attributes := #[] }, { accessFlags := 9, nameIndex := 23, descriptorIndex := 24, attributes := #[] }] 49 2 #[] #[])
  fields := #[]
  methods := #[k1m0, k1m1]
  instanceTypes := #[]
  staticTypes := #[]
  resolved := Array.replicate 28 none
  statics := none }

def pool2 : Array CpInfo := pool [(2, .class_ 4), (1, u "java/lang/Object"), (0, u "<init>"), (0, u "()V"), (0, .long 2), (9, .class_ 19), (1, u "com/example/trawl/trawl/gen/PreferentialAttachment"), (0, u "linkCount"), (0, u "(II)J")] 21

def k2m0 : Method := { name := "<init>", desc := "()V", sig := { parameters := [], returnType := none }, accessFlags := 2, code := none }
def k2c1 : Code := { maxStack := 8, maxLocals := 4, code := prog_6_method_2_code, exceptionTable := #[], attributes := #[] }
def k2m1 : Method := { name := "linkCount", desc := "(II)J", sig := { parameters := [.int, .int], returnType := some .long }, accessFlags := 8, code := some k2c1 }
/-- com/example/trawl/trawl/gen/PreferentialAttachment -/
def k2 : Class := { plain "com/example/trawl/trawl/gen/PreferentialAttachment" (some 0) with
  accessFlags := 32
  interfaces := #[]
  cf := some (fileOf pool2 17 #[] #[{ accessFlags := 2, nameIndex := 5, descriptorIndex := 6, attributes := #[] }, { accessFlags := 8, nameIndex := 20, descriptorIndex := 21, attributes := #[] }] 32 2 #[] #[])
  fields := #[]
  methods := #[k2m0, k2m1]
  instanceTypes := #[]
  staticTypes := #[]
  resolved := Array.replicate 43 none
  statics := none }

def pool3 : Array CpInfo := pool [(1, u "java/lang/Cloneable"), (0, .class_ 1), (0, u "java/lang/Object"), (0, .class_ 3)] 3

/-- java/lang/Cloneable -/
def k3 : Class := { plain "java/lang/Cloneable" (some 0) with
  accessFlags := 1537
  interfaces := #[]
  cf := some (fileOf pool3 2 #[] #[] 1537 4 #[] #[])
  fields := #[]
  methods := #[]
  instanceTypes := #[]
  staticTypes := #[]
  resolved := Array.replicate 8 none
  statics := none }

def pool4 : Array CpInfo := pool [(1, u "java/io/Serializable"), (0, .class_ 1), (0, u "java/lang/Object"), (0, .class_ 3)] 3

/-- java/io/Serializable -/
def k4 : Class := { plain "java/io/Serializable" (some 0) with
  accessFlags := 1537
  interfaces := #[]
  cf := some (fileOf pool4 2 #[] #[] 1537 4 #[] #[])
  fields := #[]
  methods := #[]
  instanceTypes := #[]
  staticTypes := #[]
  resolved := Array.replicate 8 none
  statics := none }

/-- the primitive byte -/
def k5 : Class := { plain "byte" none with kind := .primitive 'B', accessFlags := 0x411 }
/-- [B -/
def k6 : Class := { plain "[B" (some 0) with kind := .array 5 .byte, interfaces := #[3, 4], accessFlags := 1041 }

/-- the primitive int -/
def k7 : Class := { plain "int" none with kind := .primitive 'I', accessFlags := 0x411 }
/-- [I -/
def k8 : Class := { plain "[I" (some 0) with kind := .array 7 .int, interfaces := #[3, 4], accessFlags := 1041 }

def heap : Heap := #[]
def classes : Array Class := #[k0, k1, k2, k3, k4, k5, k6, k7, k8]
def interned : List (Array UInt16 × Addr) := []
def slotsUsed : Nat := 0
def theMethod : MethodId := ⟨1, 1⟩
def args0 : Array Value := #[.int 5, .int 300]
def aboutOver (below : List Frame) : State where
  vm := { classes := classes, interned := interned.toArray }
  heap := heap
  slotsUsed := slotsUsed
  threads := #[{ frames := .invoking theMethod args0 :: below }]
def below0 : List Frame := [.native { method := ⟨0, 0⟩, args := #[] }]
def about1 : State := aboutOver below0
def p0 : Program := .bare "" "" ""
def e0 : Env := launch0.env 0 0 0
theorem w_frames : about1.frames = Frame.invoking theMethod args0 :: below0 := rfl
set_option maxRecDepth 65536 in
theorem w_args : argsFit about1.vm theMethod args0 = true := by decide +kernel
set_option maxRecDepth 65536 in
theorem w_heap : heapFits about1 = true := by decide +kernel
set_option maxRecDepth 65536 in
theorem w_runnable : about1.curStatus? = some .runnable := by decide +kernel
set_option maxRecDepth 65536 in
theorem w_alone : about1.alone = true := by decide +kernel
set_option maxRecDepth 65536 in
theorem w_named : about1.methodNamed? x = some theMethod := by decide +kernel
set_option maxRecDepth 65536 in
theorem w_hears : about1.hears theMethod below0 = true := by decide +kernel
set_option maxRecDepth 65536 in
theorem w_ripe : about1.ripe theMethod args0 below0 = true := by decide +kernel
theorem w_running : about1.status = .running := rfl
set_option maxRecDepth 65536 in
theorem w_room : about1.hasRoom e0.platform room_1 = true :=
  launch0.hasRoom_least _ room_1 (by decide +kernel) (by decide +kernel) (by decide +kernel) (by decide +kernel) (by decide +kernel) (by decide +kernel)
theorem allAtoms_all (ts : List Jvm.Cond) (a : Array Jvm.Value) (st : Jvm.State) : (allAtoms ts).before a st = ts.all (fun c => c.before a st) := by
  induction ts with
  | nil => rfl
  | cons c t ih =>
    show (Jvm.Cond.and c (allAtoms t)).before a st = _
    rw [Jvm.Cond.before_and, ih, List.all_cons]
def words1 : List Jvm.Cond := Jvm.Cond.code x code maxLocals ret :: tables_1
/-- a 'code' word, met by the world's own term for the bytes: nothing is compared byte by byte -/
theorem code_word {y : MethodName} {bytes : ByteArray} {mx : Nat} {rt : Option FieldType} {a : Array Value} {s : State} {m : MethodId} {meth : Method} {c : Code} (h1 : s.methodNamed? y = some m) (h2 : s.vm.method? m = some meth) (h3 : meth.code = some c) (h4 : c.code = bytes)
    (h5 : (c.maxLocals == mx && c.exceptionTable.isEmpty && decide (c.maxStack ≤ mostOperands) && decide (meth.sig.returnType = rt) && !meth.locks && decide (parseMethodDescriptor y.desc = some meth.sig)) = true) : (Jvm.Cond.code y bytes mx rt).before a s = true := by
  simp only [Bool.and_eq_true, beq_iff_eq, Bool.not_eq_true', decide_eq_true_eq] at h5
  obtain ⟨⟨⟨⟨⟨g1, g2⟩, g3⟩, g4⟩, g5⟩, g6⟩ := h5
  simp [Cond.before, Cond.holds, Cond.value, h1, h2, h3, h4, g1, g2, g3, g4, g5, g6]
def isCode : Jvm.Cond → Bool
  | .code _ _ _ _ => true
  | _ => false
theorem all_split {L : List Jvm.Cond} {P : Jvm.Cond → Bool} (h1 : L.all (fun c => isCode c || P c) = true) (h2 : ∀ c ∈ L.filter isCode, P c = true) : L.all P = true := by
  refine List.all_eq_true.mpr fun c hc => ?_
  have h := List.all_eq_true.mp h1 c hc
  rcases Bool.eq_false_or_eq_true (isCode c) with hi | hi
  · exact h2 c (List.mem_filter.mpr ⟨hc, hi⟩)
  · simpa [hi] using h
set_option maxRecDepth 65536 in
theorem w_c0 : (Jvm.Cond.code x code maxLocals ret).before args0 about1 = true := code_word (m := ⟨1, 1⟩) (meth := k1m1) (c := k1c1) (by decide +kernel) rfl rfl rfl (by decide +kernel)
set_option maxRecDepth 65536 in
theorem w_c1 : (Jvm.Cond.code ({ cls := "com/example/trawl/trawl/gen/PreferentialAttachment", name := "linkCount", desc := "(II)J" } : Jvm.MethodName) prog_6_method_2_code (4 : Nat) (Option.some Jvm.ClassFile.FieldType.long)).before args0 about1 = true := code_word (m := ⟨2, 1⟩) (meth := k2m1) (c := k2c1) (by decide +kernel) rfl rfl rfl (by decide +kernel)
def codes1 : List Jvm.Cond := [Jvm.Cond.code x code maxLocals ret, Jvm.Cond.code ({ cls := "com/example/trawl/trawl/gen/PreferentialAttachment", name := "linkCount", desc := "(II)J" } : Jvm.MethodName) prog_6_method_2_code (4 : Nat) (Option.some Jvm.ClassFile.FieldType.long)]
set_option maxRecDepth 65536 in
theorem codes_eq : words1.filter isCode = codes1 := rfl
theorem w_codes : ∀ c ∈ words1.filter isCode, c.before args0 about1 = true := by
  rw [codes_eq]
  intro c hc
  simp only [codes1, List.mem_cons, List.not_mem_nil, or_false] at hc
  rcases hc with rfl | rfl
  · exact w_c0
  · exact w_c1
set_option maxRecDepth 65536 in
theorem w_t1 : words1.all (fun c => isCode c || c.before args0 about1) = true := by decide +kernel
theorem w_tables : (allAtoms (Jvm.Cond.code x code maxLocals ret :: tables_1)).before args0 about1 = true := by
  rw [allAtoms_all]
  show words1.all (fun c => c.before args0 about1) = true
  refine all_split ?_ w_codes
  rw [w_t1]
set_option maxRecDepth 65536 in
theorem w_case : (Jvm.Cond.and given_1 narrow_1).before args0 about1 = true := by decide +kernel
theorem w_applies : (headSpec (Jvm.Cond.code x code maxLocals ret :: tables_1) room_1).applies x e0.platform about1 = true :=
  (Spec.applies_iff w_frames).mpr ⟨w_running, w_runnable, w_alone, w_named, w_hears, w_ripe, w_room, w_tables⟩
theorem atStart : AtStart classFile x code maxLocals ret World_1 tables_1 room_1 Calls_1 rest_1 Pre_1 launch0 p0 e0 about1 theMethod args0 below0 :=
  ⟨lists_1, trivial, launch0.admits_env _ _ _, launch0.least_env, fairChoices_fair.cas, fairChoices_fair.clock, w_frames, w_args, w_heap, w_applies, trivial, trivial, w_case⟩
end start1
theorem witness_1 : WitnessClaimed_1 := ⟨start1.p0, start1.e0, start1.about1, start1.theMethod, start1.args0, start1.below0, start1.atStart⟩
end Jvm.Pilot.@@N@@
