import JvmDerived
import JvmDerived.Pilot.@@N@@Statement
import JvmDerived.Pilot.@@N@@Code
set_option linter.unusedVariables false
set_option linter.unusedSimpArgs false
namespace Jvm.RoadKit
open Sem ClassFile Op Lib Jvm.Stand Jvm.Free Jvm.LawKit
section New
variable {p : Program} {l : Launch} {e : Env} {R : Room} {s : State} {m : MethodId} {args : Array Value} {below : List Frame} {meth : Method} {c : Code} {T : State} {locs : List Loc} {cells slots : Nat}
theorem retI (X : Stand p l e R s m args below meth c T locs cells slots) (hx : p.tables.exec = Jvm.exec) {pc : Nat} {Ls : Array Slot} {z : Int32} {rest : List Value} (hret : meth.sig.returnType = some .int) (hd : decode c.code pc = .ok (.ireturn, 1)) {fs : List Frame}
    (hl : ∀ (f : JFrame) (acts : List Action), f.method = m → f.locked = none → f.entered = [] → (doReturn e (T.setTop f) acts (some (.int z))).1 = T.setFrames fs) : Steps p.tables e below (T.setTop (mkF m pc Ls (.int z :: rest))) (T.setFrames fs) := by
  have hm' : T.vm.method? m = some meth := X.method'
  have hn : narrow .int (.int z) = .int z := rfl
  show Steps p.tables e below (T.setTop { method := m, pc := pc, locals := Ls, stack := _ :: rest, locked := none }) _
  jvm_step X.here [X.here.top, hx, hd, hm', hret, hn]
  first | (intro acts; rw [hl _ acts rfl rfl rfl]) | rw [hl _ _ rfl rfl rfl]
  exact Steps.refl _
end New
end Jvm.RoadKit
namespace Jvm.Pilot.@@N@@
open Jvm Jvm.ClassFile Sem Op Lib Jvm.Free Jvm.Stand Jvm.LawKit Jvm.RoadKit Bundle Jvm.Pilot.@@N@@.Jvm.D
theorem own_lmod (x y : Int64) (hx : 0 ≤ x.toInt) : (x % y).toInt = x.toInt % y.toInt := by
  rw [Int64.toInt_mod]; exact Int.tmod_eq_emod_of_nonneg hx
theorem own_imod (x y : Int32) (hx : 0 ≤ x.toInt) : (x % y).toInt = x.toInt % y.toInt := by
  rw [Int32.toInt_mod]; exact Int.tmod_eq_emod_of_nonneg hx
theorem own_lmod_rng (x y : Int64) (hx : 0 ≤ x.toInt) (hy : 0 < y.toInt) : 0 ≤ (x % y).toInt ∧ (x % y).toInt < y.toInt := by
  rw [own_lmod x y hx]; exact ⟨Int.emod_nonneg _ (by omega), Int.emod_lt_of_pos _ hy⟩
theorem own_imod_rng (x y : Int32) (hx : 0 ≤ x.toInt) (hy : 0 < y.toInt) : 0 ≤ (x % y).toInt ∧ (x % y).toInt < y.toInt := by
  rw [own_imod x y hx]; exact ⟨Int.emod_nonneg _ (by omega), Int.emod_lt_of_pos _ hy⟩
theorem own_mI (x : Int32) : 0 ≤ (x &&& (2147483647 : Int32)).toInt ∧ (x &&& (2147483647 : Int32)).toInt ≤ 2147483647 := by
  have h := c_and x 2147483647 (by decide)
  have e : (2147483647 : Int32).toInt = 2147483647 := by decide
  omega
theorem own_mL (x : Int64) : 0 ≤ (x &&& (9223372036854775807 : Int64)).toInt ∧ (x &&& (9223372036854775807 : Int64)).toInt ≤ 9223372036854775807 := by
  have h := (c_andSL x 9223372036854775807).2.2 (by decide)
  have := rng64 (x &&& (9223372036854775807 : Int64))
  omega
theorem own_nz32 {x : Int32} (h : 0 < x.toInt) : ¬ (x = (0 : Int32)) := fun e => by subst e; revert h; decide
theorem own_nz64 {x : Int64} (h : 0 < x.toInt) : ¬ (x = (0 : Int64)) := fun e => by subst e; revert h; decide
theorem own_lt32 {x y : Int32} : x < y ↔ x.toInt < y.toInt := Int32.lt_iff_toInt_lt
theorem own_lt64 {x y : Int64} : x < y ↔ x.toInt < y.toInt := Int64.lt_iff_toInt_lt
theorem own_eq32 {x y : Int32} (h : x.toInt = y.toInt) : x = y := Int32.toInt_inj.mp h
theorem own_eq64 {x y : Int64} (h : x.toInt = y.toInt) : x = y := Int64.toInt_inj.mp h
def own_at (vs : List Value) (i : Nat) (d : Value) : Int32 := match vs.getD i d with | .int x => x | _ => 0
theorem own_at_eq {vs : List Value} {i : Nat} {d : Value} {ty : FieldType} (h : fits ty (vs.getD i d) = true) (ht : ty = .int ∨ ty = .boolean ∨ ty = .byte ∨ ty = .char ∨ ty = .short) : vs.getD i d = .int (own_at vs i d) := by
  obtain ⟨x, hx⟩ := fit_I h ht
  simp only [own_at, hx]
def own_cp (vd vs : List Value) (dv : Value) (dp sp nn : Nat) : List Value := vd.take dp ++ ((List.range nn).map fun i => vs.getD (sp + i) dv) ++ vd.drop (dp + nn)
theorem own_conv {Z : State} {h : Heap} {a : Addr} {k : ClassId} {ty : FieldType} {n : Int32} {vs vs' : List Value} {d : Value} (F : Arv Z h a k ty n vs d) (q : ∀ i, i < n.toNatClampNeg → vs'.getD i d = vs.getD i d) : Arv Z h a k ty n vs' d := by
  obtain ⟨c, A, q1, S, q3, H, G⟩ := F
  exact ⟨c, A, q1, S, q3, fun i hi => by rw [q i (S ▸ hi)]; exact H i hi, fun i hi => by rw [q i (S ▸ hi)]; exact G i hi⟩
theorem own_mono {l : Launch} {y : MethodName} {S : Spec} {P : Array Value → State → Prop} {K : Program → Env → List Frame → State → Array Value → Prop} {Q Q' : Array Value → State → Outcome → State → Prop} (h : MetFree l y S P K Q) (hi : ∀ a U o U', Q a U o U' → Q' a U o U') : MetFree l y S P K Q' :=
  fun p e ha hc hk s m args below hf happ hP hK => by
    obtain ⟨n, o, h1, h2, h3, hq⟩ := h p e ha hc hk s m args below hf happ hP hK
    exact ⟨n, o, h1, h2, h3, hi _ _ _ _ hq⟩
def own_ids : List Value := [(.int (0 : Int32)), (.int (1 : Int32)), (.int (2 : Int32)), (.int (3 : Int32)), (.int (4 : Int32)), (.int (5 : Int32)), (.int (6 : Int32)), (.int (7 : Int32)), (.int (8 : Int32)), (.int (9 : Int32)), (.int (10 : Int32)), (.int (11 : Int32)), (.int (12 : Int32)), (.int (13 : Int32)), (.int (14 : Int32)), (.int (15 : Int32))]
def own_M15 (x : Int32) : Prop := x = (0 : Int32) ∨ x = (1 : Int32) ∨ x = (2 : Int32) ∨ x = (3 : Int32) ∨ x = (4 : Int32) ∨ x = (5 : Int32) ∨ x = (6 : Int32) ∨ x = (7 : Int32) ∨ x = (8 : Int32) ∨ x = (9 : Int32) ∨ x = (10 : Int32) ∨ x = (11 : Int32) ∨ x = (12 : Int32) ∨ x = (13 : Int32) ∨ x = (14 : Int32) ∨ x = (15 : Int32)
theorem d1_0 : decode prog_1_method_2_code 0 = .ok (.iload_n 0, 1) := by decide +kernel
theorem d1_1 : decode prog_1_method_2_code 1 = .ok (.newarray .int, 2) := by decide +kernel
theorem d1_3 : decode prog_1_method_2_code 3 = .ok (.astore_n 1, 1) := by decide +kernel
theorem d1_4 : decode prog_1_method_2_code 4 = .ok (.iconst 0, 1) := by decide +kernel
theorem d1_5 : decode prog_1_method_2_code 5 = .ok (.istore_n 2, 1) := by decide +kernel
theorem d1_6 : decode prog_1_method_2_code 6 = .ok (.iload_n 2, 1) := by decide +kernel
theorem d1_7 : decode prog_1_method_2_code 7 = .ok (.iload_n 0, 1) := by decide +kernel
theorem d1_8 : decode prog_1_method_2_code 8 = .ok (.if_icmp .ge 13, 3) := by decide +kernel
theorem d1_21 : decode prog_1_method_2_code 21 = .ok (.aload_n 1, 1) := by decide +kernel
theorem d1_22 : decode prog_1_method_2_code 22 = .ok (.areturn, 1) := by decide +kernel
theorem pn_com_example_trawl_trawl_gen_FisherYates : plainName "com/example/trawl/trawl/gen/FisherYates" = true := by first | (simp [plainName, overriddenIn]; done) | decide +kernel
theorem ef_1_I (m : MethodId) (x0 : Int32) : entryFrame m #[(.int x0)] 3 = mkF m 0 #[.val (.int x0), .unset, .unset] [] := by first | (simp [entryFrame, mkF, argsToLocals, Value.category]; done) | rfl
def Q_pos0 (Z : State)  (h0 : Heap) (n0 : Nat) (v : Option Value) (h : Heap) (L : List Loc) : Prop := ∃ (o1 : Addr), ∃ (ko1 : ClassId), v = some (.ref o1) ∧ Fr n0 L ∧ n0 ≤ o1 ∧ h0.size ≤ o1 ∧ Keep h0 h [] ∧ Exa Z h o1 "[I" ∧ Arv Z h o1 ko1 .int (0 : Int32) own_ids (.int (0 : Int32))
set_option maxRecDepth 65536 in
set_option maxHeartbeats 40000000 in
theorem rm_pos0 (l : Launch) (Z : State) (a0 : Array Value) (hw : ∀ d ∈ tables_1, d.before a0 Z = true) (ws : List Jvm.Cond)  (h0 : Heap) (n0 : Nat) (Z0 : n0 ≤ h0.size) :
    MetFree l (⟨"com/example/trawl/trawl/gen/FisherYates", "positions", "(I)[I"⟩ : MethodName) (head1 (Jvm.Cond.code (⟨"com/example/trawl/trawl/gen/FisherYates", "positions", "(I)[I"⟩ : MethodName) prog_1_method_2_code 3 (some (.array .int)) :: ws) ({ frames := 0, cells := 1, slots := 16, locals := 0 } : Room)) (fun a U => a = #[(.int (0 : Int32))] ∧ Z.Warmed39 U.vm ∧ U.heap = h0) (fun _ _ _ _ _ => True) (fun _ U o U' => ∃ v L, o = .returned v ∧ Q_pos0 Z  h0 n0 v U'.heap L ∧ FrameEnd U o U' L ({ frames := 0, cells := 1, slots := 16, locals := 0 } : Room).cells ({ frames := 0, cells := 1, slots := 16, locals := 0 } : Room).slots) := by
  refine MetFree.of_bodySF (plainFor_of_name pn_com_example_trawl_trawl_gen_FisherYates) hisR ?_
  intro p e s m args below meth c s₁ Bd hml0 hP hK
  obtain ⟨rfl, hZ, hh⟩ := hP
  have hx := Bd.exec
  have hby := Bd.bytes
  have hml : c.maxLocals = 3 := hml0
  have hown : s.vm.findClass "com/example/trawl/trawl/gen/FisherYates" = some m.cls := findClass_of_methodNamed Bd.named
  have hnm := (name_of_methodNamed Bd.named Bd.method).1
  have X0 : Stand p l e ({ frames := 0, cells := 1, slots := 16, locals := 0 } : Room) s m #[(.int (0 : Int32))] below meth c s₁ [] 0 0 := Stand.of_body Bd
  have e0 : s₁.heap = h0 := by rw [← hh, Bd.state]; rfl
  have N0 := Fr.nil n0
  have pre0 : ∀ t, Steps p.tables e below (s₁.setTop (mkF m 0 #[.val (.int (0 : Int32)), .unset, .unset] [])) t → Steps p.tables e below (s₁.setTop (entryFrame m #[(.int (0 : Int32))] 3)) t := fun t k => castTop (ef_1_I m (0 : Int32)) k
  obtain ⟨T1, h1, k1, X1, e1, E1, A1, Ex1, st1⟩ := newPE X0 hx hZ (hw _ (List.mem_of_getElem? (i := 4) rfl)) e0 (g := (mkF m 1 #[.val (.int (0 : Int32)), .unset, .unset] [(.int (0 : Int32))])) rfl (hb hby d1_1) rfl (by decide) (cap := 0) (by decide) (by decide) (by decide) (by decide) (ad := "[I") (by decide)
  obtain ⟨b1, g1⟩ : ∃ z, z = h0.size := ⟨_, rfl⟩
  rw [← g1] at A1 Ex1 st1
  have g_b1 : n0 ≤ b1 := Nat.le_trans Z0 (Nat.le_of_eq g1.symm)
  have sz_b1 : h0.size ≤ b1 := Nat.le_trans (Keep.refl h0 []).1 (Nat.le_of_eq g1.symm)
  have K2 : Keep h0 h1 [] := (Keep.refl h0 []).ext E1
  have Zs3 : n0 ≤ h1.size := Nat.le_trans Z0 E1.1
  have f4 : Arv Z h1 b1 k1 .int (0 : Int32) [] (.int (0 : Int32)) := (Arv.new A1 (by decide)).pad (pad_rep [] (.int (0 : Int32)) 0)
  have f5 : Arv Z h1 b1 k1 .int (0 : Int32) own_ids (.int (0 : Int32)) := own_conv f4 (by decide)
  obtain ⟨fs, hr, hrun, hended, hW, hsame⟩ := X1.leave (v := some (.ref b1)) (fun h => by rw [Bd.returns] at h; cases h) Bd.notSynchronized
  refine ⟨_, _, pre0 _ ?_, hrun, hended, _, _, rfl, ?_, ⟨_, rfl⟩, hW, hsame.mono (by decide) (by decide)⟩
  · show Steps p.tables e below (s₁.setTop (mkF m 0 #[.val (.int (0 : Int32)), .unset, .unset] [])) _
    refine XS.iloadN X0.here hx rfl (hb hby d1_0) rfl ?_
    show Steps p.tables e below (s₁.setTop (mkF m 1 #[.val (.int (0 : Int32)), .unset, .unset] [(.int (0 : Int32))])) _
    refine st1 _ ?_
    show Steps p.tables e below (T1.setTop (mkF m 3 #[.val (.int (0 : Int32)), .unset, .unset] [(.ref b1)])) _
    refine XS.astoreN X1.here hx rfl (hb hby d1_3) rfl rfl (l' := #[.val (.int (0 : Int32)), .val (.ref b1), .unset]) rfl ?_
    show Steps p.tables e below (T1.setTop (mkF m 4 #[.val (.int (0 : Int32)), .val (.ref b1), .unset] [])) _
    refine XS.iconst X1.here hx rfl (hb hby d1_4) ?_
    show Steps p.tables e below (T1.setTop (mkF m 5 #[.val (.int (0 : Int32)), .val (.ref b1), .unset] [(.int (0 : Int32))])) _
    refine XS.istoreN X1.here hx rfl (hb hby d1_5) rfl (l' := #[.val (.int (0 : Int32)), .val (.ref b1), .val (.int (0 : Int32))]) rfl ?_
    show Steps p.tables e below (T1.setTop (mkF m 6 #[.val (.int (0 : Int32)), .val (.ref b1), .val (.int (0 : Int32))] [])) _
    refine XS.iloadN X1.here hx rfl (hb hby d1_6) rfl ?_
    show Steps p.tables e below (T1.setTop (mkF m 7 #[.val (.int (0 : Int32)), .val (.ref b1), .val (.int (0 : Int32))] [(.int (0 : Int32))])) _
    refine XS.iloadN X1.here hx rfl (hb hby d1_7) rfl ?_
    show Steps p.tables e below (T1.setTop (mkF m 8 #[.val (.int (0 : Int32)), .val (.ref b1), .val (.int (0 : Int32))] [(.int (0 : Int32)), (.int (0 : Int32))])) _
    refine XS.icmpYes X1.here hx rfl (pc0 := 8) (pc' := 21) rfl (hb hby d1_8) rfl (flt (by decide : ¬ ((0 : Int32) < (0 : Int32)))).2.1 (by decide) (by decide) ?_
    show Steps p.tables e below (T1.setTop (mkF m 21 #[.val (.int (0 : Int32)), .val (.ref b1), .val (.int (0 : Int32))] [])) _
    refine XS.aloadN X1.here hx rfl (hb hby d1_21) rfl rfl ?_
    show Steps p.tables e below (T1.setTop (mkF m 22 #[.val (.int (0 : Int32)), .val (.ref b1), .val (.int (0 : Int32))] [(.ref b1)])) _
    exact retOut X1 hx (t := (.array .int)) (i := .areturn) Bd.returns rfl (Or.inr (Or.inr (Or.inr (Or.inr ⟨rfl, rfl, rfl⟩)))) (hb hby d1_22) hr
  · show Q_pos0 Z  h0 n0 _ T1.heap _
    rw [e1]
    exact ⟨b1, k1, rfl, N0, g_b1, sz_b1, K2, Ex1, f5⟩
theorem d1_11 : decode prog_1_method_2_code 11 = .ok (.aload_n 1, 1) := by decide +kernel
theorem d1_12 : decode prog_1_method_2_code 12 = .ok (.iload_n 2, 1) := by decide +kernel
theorem d1_13 : decode prog_1_method_2_code 13 = .ok (.iload_n 2, 1) := by decide +kernel
theorem d1_14 : decode prog_1_method_2_code 14 = .ok (.iastore, 1) := by decide +kernel
theorem d1_15 : decode prog_1_method_2_code 15 = .ok (.iinc 2 1, 3) := by decide +kernel
theorem d1_18 : decode prog_1_method_2_code 18 = .ok (.goto (-12), 3) := by decide +kernel
def Q_pos1 (Z : State)  (h0 : Heap) (n0 : Nat) (v : Option Value) (h : Heap) (L : List Loc) : Prop := ∃ (o1 : Addr), ∃ (ko1 : ClassId), v = some (.ref o1) ∧ Fr n0 L ∧ n0 ≤ o1 ∧ h0.size ≤ o1 ∧ Keep h0 h [] ∧ Exa Z h o1 "[I" ∧ Arv Z h o1 ko1 .int (1 : Int32) own_ids (.int (0 : Int32))
set_option maxRecDepth 65536 in
set_option maxHeartbeats 40000000 in
theorem rm_pos1 (l : Launch) (Z : State) (a0 : Array Value) (hw : ∀ d ∈ tables_1, d.before a0 Z = true) (ws : List Jvm.Cond)  (h0 : Heap) (n0 : Nat) (Z0 : n0 ≤ h0.size) :
    MetFree l (⟨"com/example/trawl/trawl/gen/FisherYates", "positions", "(I)[I"⟩ : MethodName) (head1 (Jvm.Cond.code (⟨"com/example/trawl/trawl/gen/FisherYates", "positions", "(I)[I"⟩ : MethodName) prog_1_method_2_code 3 (some (.array .int)) :: ws) ({ frames := 0, cells := 1, slots := 16, locals := 0 } : Room)) (fun a U => a = #[(.int (1 : Int32))] ∧ Z.Warmed39 U.vm ∧ U.heap = h0) (fun _ _ _ _ _ => True) (fun _ U o U' => ∃ v L, o = .returned v ∧ Q_pos1 Z  h0 n0 v U'.heap L ∧ FrameEnd U o U' L ({ frames := 0, cells := 1, slots := 16, locals := 0 } : Room).cells ({ frames := 0, cells := 1, slots := 16, locals := 0 } : Room).slots) := by
  refine MetFree.of_bodySF (plainFor_of_name pn_com_example_trawl_trawl_gen_FisherYates) hisR ?_
  intro p e s m args below meth c s₁ Bd hml0 hP hK
  obtain ⟨rfl, hZ, hh⟩ := hP
  have hx := Bd.exec
  have hby := Bd.bytes
  have hml : c.maxLocals = 3 := hml0
  have hown : s.vm.findClass "com/example/trawl/trawl/gen/FisherYates" = some m.cls := findClass_of_methodNamed Bd.named
  have hnm := (name_of_methodNamed Bd.named Bd.method).1
  have X0 : Stand p l e ({ frames := 0, cells := 1, slots := 16, locals := 0 } : Room) s m #[(.int (1 : Int32))] below meth c s₁ [] 0 0 := Stand.of_body Bd
  have e0 : s₁.heap = h0 := by rw [← hh, Bd.state]; rfl
  have N0 := Fr.nil n0
  have pre0 : ∀ t, Steps p.tables e below (s₁.setTop (mkF m 0 #[.val (.int (1 : Int32)), .unset, .unset] [])) t → Steps p.tables e below (s₁.setTop (entryFrame m #[(.int (1 : Int32))] 3)) t := fun t k => castTop (ef_1_I m (1 : Int32)) k
  obtain ⟨T1, h1, k1, X1, e1, E1, A1, Ex1, st1⟩ := newPE X0 hx hZ (hw _ (List.mem_of_getElem? (i := 4) rfl)) e0 (g := (mkF m 1 #[.val (.int (1 : Int32)), .unset, .unset] [(.int (1 : Int32))])) rfl (hb hby d1_1) rfl (by decide) (cap := 1) (by decide) (by decide) (by decide) (by decide) (ad := "[I") (by decide)
  obtain ⟨b1, g1⟩ : ∃ z, z = h0.size := ⟨_, rfl⟩
  rw [← g1] at A1 Ex1 st1
  have g_b1 : n0 ≤ b1 := Nat.le_trans Z0 (Nat.le_of_eq g1.symm)
  have sz_b1 : h0.size ≤ b1 := Nat.le_trans (Keep.refl h0 []).1 (Nat.le_of_eq g1.symm)
  have K2 : Keep h0 h1 [] := (Keep.refl h0 []).ext E1
  have Zs3 : n0 ≤ h1.size := Nat.le_trans Z0 E1.1
  have f4 : Arv Z h1 b1 k1 .int (1 : Int32) [(.int (0 : Int32))] (.int (0 : Int32)) := (Arv.new A1 (by decide)).pad (pad_rep [] (.int (0 : Int32)) 1)
  obtain ⟨clo5, Aro5, qo5, So5, No5, Ho5, Go5⟩ := id f4
  have hino5 : ¬ ((0 : Int32) < 0 ∨ clo5.slots.size ≤ ((0 : Int32)).toNatClampNeg) := inb_of So5 ⟨by decide, by decide⟩
  obtain ⟨T6, h6, X6, e6, W6, st6⟩ := stI X1 hx hZ e1 Aro5 (j := (0 : Int32)) hino5 (g := (mkF m 14 #[.val (.int (1 : Int32)), .val (.ref b1), .val (.int (0 : Int32))] [(.int (0 : Int32)), (.int (0 : Int32)), (.ref b1)])) rfl rfl (hb hby d1_14)
  have f7 : Arv Z h6 b1 k1 .int (1 : Int32) [(.int (0 : Int32))] (.int (0 : Int32)) := Arv.set Aro5 qo5 So5 No5 Ho5 Go5 rfl W6 0 rfl (by decide)
  have f8 : Exa Z h6 b1 "[I" := Ex1.wr W6
  have K9 : Keep h0 h6 [] := K2.wr W6 (Or.inr sz_b1)
  have N10 := Fr.snoc X6 N0 g_b1
  have Zs11 : n0 ≤ h6.size := Nat.le_trans Zs3 (Keep.of_wr W6).1
  have f12 : Arv Z h6 b1 k1 .int (1 : Int32) own_ids (.int (0 : Int32)) := own_conv f7 (by decide)
  obtain ⟨fs, hr, hrun, hended, hW, hsame⟩ := X6.leave (v := some (.ref b1)) (fun h => by rw [Bd.returns] at h; cases h) Bd.notSynchronized
  refine ⟨_, _, pre0 _ ?_, hrun, hended, _, _, rfl, ?_, ⟨_, rfl⟩, hW, hsame.mono (by decide) (by decide)⟩
  · show Steps p.tables e below (s₁.setTop (mkF m 0 #[.val (.int (1 : Int32)), .unset, .unset] [])) _
    refine XS.iloadN X0.here hx rfl (hb hby d1_0) rfl ?_
    show Steps p.tables e below (s₁.setTop (mkF m 1 #[.val (.int (1 : Int32)), .unset, .unset] [(.int (1 : Int32))])) _
    refine st1 _ ?_
    show Steps p.tables e below (T1.setTop (mkF m 3 #[.val (.int (1 : Int32)), .unset, .unset] [(.ref b1)])) _
    refine XS.astoreN X1.here hx rfl (hb hby d1_3) rfl rfl (l' := #[.val (.int (1 : Int32)), .val (.ref b1), .unset]) rfl ?_
    show Steps p.tables e below (T1.setTop (mkF m 4 #[.val (.int (1 : Int32)), .val (.ref b1), .unset] [])) _
    refine XS.iconst X1.here hx rfl (hb hby d1_4) ?_
    show Steps p.tables e below (T1.setTop (mkF m 5 #[.val (.int (1 : Int32)), .val (.ref b1), .unset] [(.int (0 : Int32))])) _
    refine XS.istoreN X1.here hx rfl (hb hby d1_5) rfl (l' := #[.val (.int (1 : Int32)), .val (.ref b1), .val (.int (0 : Int32))]) rfl ?_
    show Steps p.tables e below (T1.setTop (mkF m 6 #[.val (.int (1 : Int32)), .val (.ref b1), .val (.int (0 : Int32))] [])) _
    refine XS.iloadN X1.here hx rfl (hb hby d1_6) rfl ?_
    show Steps p.tables e below (T1.setTop (mkF m 7 #[.val (.int (1 : Int32)), .val (.ref b1), .val (.int (0 : Int32))] [(.int (0 : Int32))])) _
    refine XS.iloadN X1.here hx rfl (hb hby d1_7) rfl ?_
    show Steps p.tables e below (T1.setTop (mkF m 8 #[.val (.int (1 : Int32)), .val (.ref b1), .val (.int (0 : Int32))] [(.int (1 : Int32)), (.int (0 : Int32))])) _
    refine XS.icmpNo X1.here hx rfl (hb hby d1_8) rfl (tlt (by decide : (0 : Int32) < (1 : Int32))).2.1 ?_
    show Steps p.tables e below (T1.setTop (mkF m 11 #[.val (.int (1 : Int32)), .val (.ref b1), .val (.int (0 : Int32))] [])) _
    refine XS.aloadN X1.here hx rfl (hb hby d1_11) rfl rfl ?_
    show Steps p.tables e below (T1.setTop (mkF m 12 #[.val (.int (1 : Int32)), .val (.ref b1), .val (.int (0 : Int32))] [(.ref b1)])) _
    refine XS.iloadN X1.here hx rfl (hb hby d1_12) rfl ?_
    show Steps p.tables e below (T1.setTop (mkF m 13 #[.val (.int (1 : Int32)), .val (.ref b1), .val (.int (0 : Int32))] [(.int (0 : Int32)), (.ref b1)])) _
    refine XS.iloadN X1.here hx rfl (hb hby d1_13) rfl ?_
    show Steps p.tables e below (T1.setTop (mkF m 14 #[.val (.int (1 : Int32)), .val (.ref b1), .val (.int (0 : Int32))] [(.int (0 : Int32)), (.int (0 : Int32)), (.ref b1)])) _
    refine st6 _ ?_
    show Steps p.tables e below (T6.setTop (mkF m 15 #[.val (.int (1 : Int32)), .val (.ref b1), .val (.int (0 : Int32))] [])) _
    refine XS.iinc X6.here hx rfl (hb hby d1_15) rfl (l' := #[.val (.int (1 : Int32)), .val (.ref b1), .val (.int (1 : Int32))]) rfl ?_
    show Steps p.tables e below (T6.setTop (mkF m 18 #[.val (.int (1 : Int32)), .val (.ref b1), .val (.int (1 : Int32))] [])) _
    refine XS.goto X6.here hx rfl (pc0 := 18) (pc' := 6) rfl (hb hby d1_18) (by decide) (by decide) ?_
    show Steps p.tables e below (T6.setTop (mkF m 6 #[.val (.int (1 : Int32)), .val (.ref b1), .val (.int (1 : Int32))] [])) _
    refine XS.iloadN X6.here hx rfl (hb hby d1_6) rfl ?_
    show Steps p.tables e below (T6.setTop (mkF m 7 #[.val (.int (1 : Int32)), .val (.ref b1), .val (.int (1 : Int32))] [(.int (1 : Int32))])) _
    refine XS.iloadN X6.here hx rfl (hb hby d1_7) rfl ?_
    show Steps p.tables e below (T6.setTop (mkF m 8 #[.val (.int (1 : Int32)), .val (.ref b1), .val (.int (1 : Int32))] [(.int (1 : Int32)), (.int (1 : Int32))])) _
    refine XS.icmpYes X6.here hx rfl (pc0 := 8) (pc' := 21) rfl (hb hby d1_8) rfl (flt (by decide : ¬ ((1 : Int32) < (1 : Int32)))).2.1 (by decide) (by decide) ?_
    show Steps p.tables e below (T6.setTop (mkF m 21 #[.val (.int (1 : Int32)), .val (.ref b1), .val (.int (1 : Int32))] [])) _
    refine XS.aloadN X6.here hx rfl (hb hby d1_21) rfl rfl ?_
    show Steps p.tables e below (T6.setTop (mkF m 22 #[.val (.int (1 : Int32)), .val (.ref b1), .val (.int (1 : Int32))] [(.ref b1)])) _
    exact retOut X6 hx (t := (.array .int)) (i := .areturn) Bd.returns rfl (Or.inr (Or.inr (Or.inr (Or.inr ⟨rfl, rfl, rfl⟩)))) (hb hby d1_22) hr
  · show Q_pos1 Z  h0 n0 _ T6.heap _
    rw [e6]
    exact ⟨b1, k1, rfl, N10, g_b1, sz_b1, K9, f8, f12⟩
def Q_pos2 (Z : State)  (h0 : Heap) (n0 : Nat) (v : Option Value) (h : Heap) (L : List Loc) : Prop := ∃ (o1 : Addr), ∃ (ko1 : ClassId), v = some (.ref o1) ∧ Fr n0 L ∧ n0 ≤ o1 ∧ h0.size ≤ o1 ∧ Keep h0 h [] ∧ Exa Z h o1 "[I" ∧ Arv Z h o1 ko1 .int (2 : Int32) own_ids (.int (0 : Int32))
set_option maxRecDepth 65536 in
set_option maxHeartbeats 40000000 in
theorem rm_pos2 (l : Launch) (Z : State) (a0 : Array Value) (hw : ∀ d ∈ tables_1, d.before a0 Z = true) (ws : List Jvm.Cond)  (h0 : Heap) (n0 : Nat) (Z0 : n0 ≤ h0.size) :
    MetFree l (⟨"com/example/trawl/trawl/gen/FisherYates", "positions", "(I)[I"⟩ : MethodName) (head1 (Jvm.Cond.code (⟨"com/example/trawl/trawl/gen/FisherYates", "positions", "(I)[I"⟩ : MethodName) prog_1_method_2_code 3 (some (.array .int)) :: ws) ({ frames := 0, cells := 1, slots := 16, locals := 0 } : Room)) (fun a U => a = #[(.int (2 : Int32))] ∧ Z.Warmed39 U.vm ∧ U.heap = h0) (fun _ _ _ _ _ => True) (fun _ U o U' => ∃ v L, o = .returned v ∧ Q_pos2 Z  h0 n0 v U'.heap L ∧ FrameEnd U o U' L ({ frames := 0, cells := 1, slots := 16, locals := 0 } : Room).cells ({ frames := 0, cells := 1, slots := 16, locals := 0 } : Room).slots) := by
  refine MetFree.of_bodySF (plainFor_of_name pn_com_example_trawl_trawl_gen_FisherYates) hisR ?_
  intro p e s m args below meth c s₁ Bd hml0 hP hK
  obtain ⟨rfl, hZ, hh⟩ := hP
  have hx := Bd.exec
  have hby := Bd.bytes
  have hml : c.maxLocals = 3 := hml0
  have hown : s.vm.findClass "com/example/trawl/trawl/gen/FisherYates" = some m.cls := findClass_of_methodNamed Bd.named
  have hnm := (name_of_methodNamed Bd.named Bd.method).1
  have X0 : Stand p l e ({ frames := 0, cells := 1, slots := 16, locals := 0 } : Room) s m #[(.int (2 : Int32))] below meth c s₁ [] 0 0 := Stand.of_body Bd
  have e0 : s₁.heap = h0 := by rw [← hh, Bd.state]; rfl
  have N0 := Fr.nil n0
  have pre0 : ∀ t, Steps p.tables e below (s₁.setTop (mkF m 0 #[.val (.int (2 : Int32)), .unset, .unset] [])) t → Steps p.tables e below (s₁.setTop (entryFrame m #[(.int (2 : Int32))] 3)) t := fun t k => castTop (ef_1_I m (2 : Int32)) k
  obtain ⟨T1, h1, k1, X1, e1, E1, A1, Ex1, st1⟩ := newPE X0 hx hZ (hw _ (List.mem_of_getElem? (i := 4) rfl)) e0 (g := (mkF m 1 #[.val (.int (2 : Int32)), .unset, .unset] [(.int (2 : Int32))])) rfl (hb hby d1_1) rfl (by decide) (cap := 2) (by decide) (by decide) (by decide) (by decide) (ad := "[I") (by decide)
  obtain ⟨b1, g1⟩ : ∃ z, z = h0.size := ⟨_, rfl⟩
  rw [← g1] at A1 Ex1 st1
  have g_b1 : n0 ≤ b1 := Nat.le_trans Z0 (Nat.le_of_eq g1.symm)
  have sz_b1 : h0.size ≤ b1 := Nat.le_trans (Keep.refl h0 []).1 (Nat.le_of_eq g1.symm)
  have K2 : Keep h0 h1 [] := (Keep.refl h0 []).ext E1
  have Zs3 : n0 ≤ h1.size := Nat.le_trans Z0 E1.1
  have f4 : Arv Z h1 b1 k1 .int (2 : Int32) [(.int (0 : Int32)), (.int (0 : Int32))] (.int (0 : Int32)) := (Arv.new A1 (by decide)).pad (pad_rep [] (.int (0 : Int32)) 2)
  obtain ⟨clo5, Aro5, qo5, So5, No5, Ho5, Go5⟩ := id f4
  have hino5 : ¬ ((0 : Int32) < 0 ∨ clo5.slots.size ≤ ((0 : Int32)).toNatClampNeg) := inb_of So5 ⟨by decide, by decide⟩
  obtain ⟨T6, h6, X6, e6, W6, st6⟩ := stI X1 hx hZ e1 Aro5 (j := (0 : Int32)) hino5 (g := (mkF m 14 #[.val (.int (2 : Int32)), .val (.ref b1), .val (.int (0 : Int32))] [(.int (0 : Int32)), (.int (0 : Int32)), (.ref b1)])) rfl rfl (hb hby d1_14)
  have f7 : Arv Z h6 b1 k1 .int (2 : Int32) [(.int (0 : Int32)), (.int (0 : Int32))] (.int (0 : Int32)) := Arv.set Aro5 qo5 So5 No5 Ho5 Go5 rfl W6 0 rfl (by decide)
  have f8 : Exa Z h6 b1 "[I" := Ex1.wr W6
  have K9 : Keep h0 h6 [] := K2.wr W6 (Or.inr sz_b1)
  have N10 := Fr.snoc X6 N0 g_b1
  have Zs11 : n0 ≤ h6.size := Nat.le_trans Zs3 (Keep.of_wr W6).1
  obtain ⟨clo12, Aro12, qo12, So12, No12, Ho12, Go12⟩ := id f7
  have hino12 : ¬ ((1 : Int32) < 0 ∨ clo12.slots.size ≤ ((1 : Int32)).toNatClampNeg) := inb_of So12 ⟨by decide, by decide⟩
  obtain ⟨T13, h13, X13, e13, W13, st13⟩ := stI X6 hx hZ e6 Aro12 (j := (1 : Int32)) hino12 (g := (mkF m 14 #[.val (.int (2 : Int32)), .val (.ref b1), .val (.int (1 : Int32))] [(.int (1 : Int32)), (.int (1 : Int32)), (.ref b1)])) rfl rfl (hb hby d1_14)
  have f14 : Arv Z h13 b1 k1 .int (2 : Int32) [(.int (0 : Int32)), (.int (1 : Int32))] (.int (0 : Int32)) := Arv.set Aro12 qo12 So12 No12 Ho12 Go12 rfl W13 1 rfl (by decide)
  have f15 : Exa Z h13 b1 "[I" := f8.wr W13
  have K16 : Keep h0 h13 [] := K9.wr W13 (Or.inr sz_b1)
  have N17 := Fr.snoc X13 N10 g_b1
  have Zs18 : n0 ≤ h13.size := Nat.le_trans Zs11 (Keep.of_wr W13).1
  have f19 : Arv Z h13 b1 k1 .int (2 : Int32) own_ids (.int (0 : Int32)) := own_conv f14 (by decide)
  obtain ⟨fs, hr, hrun, hended, hW, hsame⟩ := X13.leave (v := some (.ref b1)) (fun h => by rw [Bd.returns] at h; cases h) Bd.notSynchronized
  refine ⟨_, _, pre0 _ ?_, hrun, hended, _, _, rfl, ?_, ⟨_, rfl⟩, hW, hsame.mono (by decide) (by decide)⟩
  · show Steps p.tables e below (s₁.setTop (mkF m 0 #[.val (.int (2 : Int32)), .unset, .unset] [])) _
    refine XS.iloadN X0.here hx rfl (hb hby d1_0) rfl ?_
    show Steps p.tables e below (s₁.setTop (mkF m 1 #[.val (.int (2 : Int32)), .unset, .unset] [(.int (2 : Int32))])) _
    refine st1 _ ?_
    show Steps p.tables e below (T1.setTop (mkF m 3 #[.val (.int (2 : Int32)), .unset, .unset] [(.ref b1)])) _
    refine XS.astoreN X1.here hx rfl (hb hby d1_3) rfl rfl (l' := #[.val (.int (2 : Int32)), .val (.ref b1), .unset]) rfl ?_
    show Steps p.tables e below (T1.setTop (mkF m 4 #[.val (.int (2 : Int32)), .val (.ref b1), .unset] [])) _
    refine XS.iconst X1.here hx rfl (hb hby d1_4) ?_
    show Steps p.tables e below (T1.setTop (mkF m 5 #[.val (.int (2 : Int32)), .val (.ref b1), .unset] [(.int (0 : Int32))])) _
    refine XS.istoreN X1.here hx rfl (hb hby d1_5) rfl (l' := #[.val (.int (2 : Int32)), .val (.ref b1), .val (.int (0 : Int32))]) rfl ?_
    show Steps p.tables e below (T1.setTop (mkF m 6 #[.val (.int (2 : Int32)), .val (.ref b1), .val (.int (0 : Int32))] [])) _
    refine XS.iloadN X1.here hx rfl (hb hby d1_6) rfl ?_
    show Steps p.tables e below (T1.setTop (mkF m 7 #[.val (.int (2 : Int32)), .val (.ref b1), .val (.int (0 : Int32))] [(.int (0 : Int32))])) _
    refine XS.iloadN X1.here hx rfl (hb hby d1_7) rfl ?_
    show Steps p.tables e below (T1.setTop (mkF m 8 #[.val (.int (2 : Int32)), .val (.ref b1), .val (.int (0 : Int32))] [(.int (2 : Int32)), (.int (0 : Int32))])) _
    refine XS.icmpNo X1.here hx rfl (hb hby d1_8) rfl (tlt (by decide : (0 : Int32) < (2 : Int32))).2.1 ?_
    show Steps p.tables e below (T1.setTop (mkF m 11 #[.val (.int (2 : Int32)), .val (.ref b1), .val (.int (0 : Int32))] [])) _
    refine XS.aloadN X1.here hx rfl (hb hby d1_11) rfl rfl ?_
    show Steps p.tables e below (T1.setTop (mkF m 12 #[.val (.int (2 : Int32)), .val (.ref b1), .val (.int (0 : Int32))] [(.ref b1)])) _
    refine XS.iloadN X1.here hx rfl (hb hby d1_12) rfl ?_
    show Steps p.tables e below (T1.setTop (mkF m 13 #[.val (.int (2 : Int32)), .val (.ref b1), .val (.int (0 : Int32))] [(.int (0 : Int32)), (.ref b1)])) _
    refine XS.iloadN X1.here hx rfl (hb hby d1_13) rfl ?_
    show Steps p.tables e below (T1.setTop (mkF m 14 #[.val (.int (2 : Int32)), .val (.ref b1), .val (.int (0 : Int32))] [(.int (0 : Int32)), (.int (0 : Int32)), (.ref b1)])) _
    refine st6 _ ?_
    show Steps p.tables e below (T6.setTop (mkF m 15 #[.val (.int (2 : Int32)), .val (.ref b1), .val (.int (0 : Int32))] [])) _
    refine XS.iinc X6.here hx rfl (hb hby d1_15) rfl (l' := #[.val (.int (2 : Int32)), .val (.ref b1), .val (.int (1 : Int32))]) rfl ?_
    show Steps p.tables e below (T6.setTop (mkF m 18 #[.val (.int (2 : Int32)), .val (.ref b1), .val (.int (1 : Int32))] [])) _
    refine XS.goto X6.here hx rfl (pc0 := 18) (pc' := 6) rfl (hb hby d1_18) (by decide) (by decide) ?_
    show Steps p.tables e below (T6.setTop (mkF m 6 #[.val (.int (2 : Int32)), .val (.ref b1), .val (.int (1 : Int32))] [])) _
    refine XS.iloadN X6.here hx rfl (hb hby d1_6) rfl ?_
    show Steps p.tables e below (T6.setTop (mkF m 7 #[.val (.int (2 : Int32)), .val (.ref b1), .val (.int (1 : Int32))] [(.int (1 : Int32))])) _
    refine XS.iloadN X6.here hx rfl (hb hby d1_7) rfl ?_
    show Steps p.tables e below (T6.setTop (mkF m 8 #[.val (.int (2 : Int32)), .val (.ref b1), .val (.int (1 : Int32))] [(.int (2 : Int32)), (.int (1 : Int32))])) _
    refine XS.icmpNo X6.here hx rfl (hb hby d1_8) rfl (tlt (by decide : (1 : Int32) < (2 : Int32))).2.1 ?_
    show Steps p.tables e below (T6.setTop (mkF m 11 #[.val (.int (2 : Int32)), .val (.ref b1), .val (.int (1 : Int32))] [])) _
    refine XS.aloadN X6.here hx rfl (hb hby d1_11) rfl rfl ?_
    show Steps p.tables e below (T6.setTop (mkF m 12 #[.val (.int (2 : Int32)), .val (.ref b1), .val (.int (1 : Int32))] [(.ref b1)])) _
    refine XS.iloadN X6.here hx rfl (hb hby d1_12) rfl ?_
    show Steps p.tables e below (T6.setTop (mkF m 13 #[.val (.int (2 : Int32)), .val (.ref b1), .val (.int (1 : Int32))] [(.int (1 : Int32)), (.ref b1)])) _
    refine XS.iloadN X6.here hx rfl (hb hby d1_13) rfl ?_
    show Steps p.tables e below (T6.setTop (mkF m 14 #[.val (.int (2 : Int32)), .val (.ref b1), .val (.int (1 : Int32))] [(.int (1 : Int32)), (.int (1 : Int32)), (.ref b1)])) _
    refine st13 _ ?_
    show Steps p.tables e below (T13.setTop (mkF m 15 #[.val (.int (2 : Int32)), .val (.ref b1), .val (.int (1 : Int32))] [])) _
    refine XS.iinc X13.here hx rfl (hb hby d1_15) rfl (l' := #[.val (.int (2 : Int32)), .val (.ref b1), .val (.int (2 : Int32))]) rfl ?_
    show Steps p.tables e below (T13.setTop (mkF m 18 #[.val (.int (2 : Int32)), .val (.ref b1), .val (.int (2 : Int32))] [])) _
    refine XS.goto X13.here hx rfl (pc0 := 18) (pc' := 6) rfl (hb hby d1_18) (by decide) (by decide) ?_
    show Steps p.tables e below (T13.setTop (mkF m 6 #[.val (.int (2 : Int32)), .val (.ref b1), .val (.int (2 : Int32))] [])) _
    refine XS.iloadN X13.here hx rfl (hb hby d1_6) rfl ?_
    show Steps p.tables e below (T13.setTop (mkF m 7 #[.val (.int (2 : Int32)), .val (.ref b1), .val (.int (2 : Int32))] [(.int (2 : Int32))])) _
    refine XS.iloadN X13.here hx rfl (hb hby d1_7) rfl ?_
    show Steps p.tables e below (T13.setTop (mkF m 8 #[.val (.int (2 : Int32)), .val (.ref b1), .val (.int (2 : Int32))] [(.int (2 : Int32)), (.int (2 : Int32))])) _
    refine XS.icmpYes X13.here hx rfl (pc0 := 8) (pc' := 21) rfl (hb hby d1_8) rfl (flt (by decide : ¬ ((2 : Int32) < (2 : Int32)))).2.1 (by decide) (by decide) ?_
    show Steps p.tables e below (T13.setTop (mkF m 21 #[.val (.int (2 : Int32)), .val (.ref b1), .val (.int (2 : Int32))] [])) _
    refine XS.aloadN X13.here hx rfl (hb hby d1_21) rfl rfl ?_
    show Steps p.tables e below (T13.setTop (mkF m 22 #[.val (.int (2 : Int32)), .val (.ref b1), .val (.int (2 : Int32))] [(.ref b1)])) _
    exact retOut X13 hx (t := (.array .int)) (i := .areturn) Bd.returns rfl (Or.inr (Or.inr (Or.inr (Or.inr ⟨rfl, rfl, rfl⟩)))) (hb hby d1_22) hr
  · show Q_pos2 Z  h0 n0 _ T13.heap _
    rw [e13]
    exact ⟨b1, k1, rfl, N17, g_b1, sz_b1, K16, f15, f19⟩
def Q_pos3 (Z : State)  (h0 : Heap) (n0 : Nat) (v : Option Value) (h : Heap) (L : List Loc) : Prop := ∃ (o1 : Addr), ∃ (ko1 : ClassId), v = some (.ref o1) ∧ Fr n0 L ∧ n0 ≤ o1 ∧ h0.size ≤ o1 ∧ Keep h0 h [] ∧ Exa Z h o1 "[I" ∧ Arv Z h o1 ko1 .int (3 : Int32) own_ids (.int (0 : Int32))
set_option maxRecDepth 65536 in
set_option maxHeartbeats 40000000 in
theorem rm_pos3 (l : Launch) (Z : State) (a0 : Array Value) (hw : ∀ d ∈ tables_1, d.before a0 Z = true) (ws : List Jvm.Cond)  (h0 : Heap) (n0 : Nat) (Z0 : n0 ≤ h0.size) :
    MetFree l (⟨"com/example/trawl/trawl/gen/FisherYates", "positions", "(I)[I"⟩ : MethodName) (head1 (Jvm.Cond.code (⟨"com/example/trawl/trawl/gen/FisherYates", "positions", "(I)[I"⟩ : MethodName) prog_1_method_2_code 3 (some (.array .int)) :: ws) ({ frames := 0, cells := 1, slots := 16, locals := 0 } : Room)) (fun a U => a = #[(.int (3 : Int32))] ∧ Z.Warmed39 U.vm ∧ U.heap = h0) (fun _ _ _ _ _ => True) (fun _ U o U' => ∃ v L, o = .returned v ∧ Q_pos3 Z  h0 n0 v U'.heap L ∧ FrameEnd U o U' L ({ frames := 0, cells := 1, slots := 16, locals := 0 } : Room).cells ({ frames := 0, cells := 1, slots := 16, locals := 0 } : Room).slots) := by
  refine MetFree.of_bodySF (plainFor_of_name pn_com_example_trawl_trawl_gen_FisherYates) hisR ?_
  intro p e s m args below meth c s₁ Bd hml0 hP hK
  obtain ⟨rfl, hZ, hh⟩ := hP
  have hx := Bd.exec
  have hby := Bd.bytes
  have hml : c.maxLocals = 3 := hml0
  have hown : s.vm.findClass "com/example/trawl/trawl/gen/FisherYates" = some m.cls := findClass_of_methodNamed Bd.named
  have hnm := (name_of_methodNamed Bd.named Bd.method).1
  have X0 : Stand p l e ({ frames := 0, cells := 1, slots := 16, locals := 0 } : Room) s m #[(.int (3 : Int32))] below meth c s₁ [] 0 0 := Stand.of_body Bd
  have e0 : s₁.heap = h0 := by rw [← hh, Bd.state]; rfl
  have N0 := Fr.nil n0
  have pre0 : ∀ t, Steps p.tables e below (s₁.setTop (mkF m 0 #[.val (.int (3 : Int32)), .unset, .unset] [])) t → Steps p.tables e below (s₁.setTop (entryFrame m #[(.int (3 : Int32))] 3)) t := fun t k => castTop (ef_1_I m (3 : Int32)) k
  obtain ⟨T1, h1, k1, X1, e1, E1, A1, Ex1, st1⟩ := newPE X0 hx hZ (hw _ (List.mem_of_getElem? (i := 4) rfl)) e0 (g := (mkF m 1 #[.val (.int (3 : Int32)), .unset, .unset] [(.int (3 : Int32))])) rfl (hb hby d1_1) rfl (by decide) (cap := 3) (by decide) (by decide) (by decide) (by decide) (ad := "[I") (by decide)
  obtain ⟨b1, g1⟩ : ∃ z, z = h0.size := ⟨_, rfl⟩
  rw [← g1] at A1 Ex1 st1
  have g_b1 : n0 ≤ b1 := Nat.le_trans Z0 (Nat.le_of_eq g1.symm)
  have sz_b1 : h0.size ≤ b1 := Nat.le_trans (Keep.refl h0 []).1 (Nat.le_of_eq g1.symm)
  have K2 : Keep h0 h1 [] := (Keep.refl h0 []).ext E1
  have Zs3 : n0 ≤ h1.size := Nat.le_trans Z0 E1.1
  have f4 : Arv Z h1 b1 k1 .int (3 : Int32) [(.int (0 : Int32)), (.int (0 : Int32)), (.int (0 : Int32))] (.int (0 : Int32)) := (Arv.new A1 (by decide)).pad (pad_rep [] (.int (0 : Int32)) 3)
  obtain ⟨clo5, Aro5, qo5, So5, No5, Ho5, Go5⟩ := id f4
  have hino5 : ¬ ((0 : Int32) < 0 ∨ clo5.slots.size ≤ ((0 : Int32)).toNatClampNeg) := inb_of So5 ⟨by decide, by decide⟩
  obtain ⟨T6, h6, X6, e6, W6, st6⟩ := stI X1 hx hZ e1 Aro5 (j := (0 : Int32)) hino5 (g := (mkF m 14 #[.val (.int (3 : Int32)), .val (.ref b1), .val (.int (0 : Int32))] [(.int (0 : Int32)), (.int (0 : Int32)), (.ref b1)])) rfl rfl (hb hby d1_14)
  have f7 : Arv Z h6 b1 k1 .int (3 : Int32) [(.int (0 : Int32)), (.int (0 : Int32)), (.int (0 : Int32))] (.int (0 : Int32)) := Arv.set Aro5 qo5 So5 No5 Ho5 Go5 rfl W6 0 rfl (by decide)
  have f8 : Exa Z h6 b1 "[I" := Ex1.wr W6
  have K9 : Keep h0 h6 [] := K2.wr W6 (Or.inr sz_b1)
  have N10 := Fr.snoc X6 N0 g_b1
  have Zs11 : n0 ≤ h6.size := Nat.le_trans Zs3 (Keep.of_wr W6).1
  obtain ⟨clo12, Aro12, qo12, So12, No12, Ho12, Go12⟩ := id f7
  have hino12 : ¬ ((1 : Int32) < 0 ∨ clo12.slots.size ≤ ((1 : Int32)).toNatClampNeg) := inb_of So12 ⟨by decide, by decide⟩
  obtain ⟨T13, h13, X13, e13, W13, st13⟩ := stI X6 hx hZ e6 Aro12 (j := (1 : Int32)) hino12 (g := (mkF m 14 #[.val (.int (3 : Int32)), .val (.ref b1), .val (.int (1 : Int32))] [(.int (1 : Int32)), (.int (1 : Int32)), (.ref b1)])) rfl rfl (hb hby d1_14)
  have f14 : Arv Z h13 b1 k1 .int (3 : Int32) [(.int (0 : Int32)), (.int (1 : Int32)), (.int (0 : Int32))] (.int (0 : Int32)) := Arv.set Aro12 qo12 So12 No12 Ho12 Go12 rfl W13 1 rfl (by decide)
  have f15 : Exa Z h13 b1 "[I" := f8.wr W13
  have K16 : Keep h0 h13 [] := K9.wr W13 (Or.inr sz_b1)
  have N17 := Fr.snoc X13 N10 g_b1
  have Zs18 : n0 ≤ h13.size := Nat.le_trans Zs11 (Keep.of_wr W13).1
  obtain ⟨clo19, Aro19, qo19, So19, No19, Ho19, Go19⟩ := id f14
  have hino19 : ¬ ((2 : Int32) < 0 ∨ clo19.slots.size ≤ ((2 : Int32)).toNatClampNeg) := inb_of So19 ⟨by decide, by decide⟩
  obtain ⟨T20, h20, X20, e20, W20, st20⟩ := stI X13 hx hZ e13 Aro19 (j := (2 : Int32)) hino19 (g := (mkF m 14 #[.val (.int (3 : Int32)), .val (.ref b1), .val (.int (2 : Int32))] [(.int (2 : Int32)), (.int (2 : Int32)), (.ref b1)])) rfl rfl (hb hby d1_14)
  have f21 : Arv Z h20 b1 k1 .int (3 : Int32) [(.int (0 : Int32)), (.int (1 : Int32)), (.int (2 : Int32))] (.int (0 : Int32)) := Arv.set Aro19 qo19 So19 No19 Ho19 Go19 rfl W20 2 rfl (by decide)
  have f22 : Exa Z h20 b1 "[I" := f15.wr W20
  have K23 : Keep h0 h20 [] := K16.wr W20 (Or.inr sz_b1)
  have N24 := Fr.snoc X20 N17 g_b1
  have Zs25 : n0 ≤ h20.size := Nat.le_trans Zs18 (Keep.of_wr W20).1
  have f26 : Arv Z h20 b1 k1 .int (3 : Int32) own_ids (.int (0 : Int32)) := own_conv f21 (by decide)
  obtain ⟨fs, hr, hrun, hended, hW, hsame⟩ := X20.leave (v := some (.ref b1)) (fun h => by rw [Bd.returns] at h; cases h) Bd.notSynchronized
  refine ⟨_, _, pre0 _ ?_, hrun, hended, _, _, rfl, ?_, ⟨_, rfl⟩, hW, hsame.mono (by decide) (by decide)⟩
  · show Steps p.tables e below (s₁.setTop (mkF m 0 #[.val (.int (3 : Int32)), .unset, .unset] [])) _
    refine XS.iloadN X0.here hx rfl (hb hby d1_0) rfl ?_
    show Steps p.tables e below (s₁.setTop (mkF m 1 #[.val (.int (3 : Int32)), .unset, .unset] [(.int (3 : Int32))])) _
    refine st1 _ ?_
    show Steps p.tables e below (T1.setTop (mkF m 3 #[.val (.int (3 : Int32)), .unset, .unset] [(.ref b1)])) _
    refine XS.astoreN X1.here hx rfl (hb hby d1_3) rfl rfl (l' := #[.val (.int (3 : Int32)), .val (.ref b1), .unset]) rfl ?_
    show Steps p.tables e below (T1.setTop (mkF m 4 #[.val (.int (3 : Int32)), .val (.ref b1), .unset] [])) _
    refine XS.iconst X1.here hx rfl (hb hby d1_4) ?_
    show Steps p.tables e below (T1.setTop (mkF m 5 #[.val (.int (3 : Int32)), .val (.ref b1), .unset] [(.int (0 : Int32))])) _
    refine XS.istoreN X1.here hx rfl (hb hby d1_5) rfl (l' := #[.val (.int (3 : Int32)), .val (.ref b1), .val (.int (0 : Int32))]) rfl ?_
    show Steps p.tables e below (T1.setTop (mkF m 6 #[.val (.int (3 : Int32)), .val (.ref b1), .val (.int (0 : Int32))] [])) _
    refine XS.iloadN X1.here hx rfl (hb hby d1_6) rfl ?_
    show Steps p.tables e below (T1.setTop (mkF m 7 #[.val (.int (3 : Int32)), .val (.ref b1), .val (.int (0 : Int32))] [(.int (0 : Int32))])) _
    refine XS.iloadN X1.here hx rfl (hb hby d1_7) rfl ?_
    show Steps p.tables e below (T1.setTop (mkF m 8 #[.val (.int (3 : Int32)), .val (.ref b1), .val (.int (0 : Int32))] [(.int (3 : Int32)), (.int (0 : Int32))])) _
    refine XS.icmpNo X1.here hx rfl (hb hby d1_8) rfl (tlt (by decide : (0 : Int32) < (3 : Int32))).2.1 ?_
    show Steps p.tables e below (T1.setTop (mkF m 11 #[.val (.int (3 : Int32)), .val (.ref b1), .val (.int (0 : Int32))] [])) _
    refine XS.aloadN X1.here hx rfl (hb hby d1_11) rfl rfl ?_
    show Steps p.tables e below (T1.setTop (mkF m 12 #[.val (.int (3 : Int32)), .val (.ref b1), .val (.int (0 : Int32))] [(.ref b1)])) _
    refine XS.iloadN X1.here hx rfl (hb hby d1_12) rfl ?_
    show Steps p.tables e below (T1.setTop (mkF m 13 #[.val (.int (3 : Int32)), .val (.ref b1), .val (.int (0 : Int32))] [(.int (0 : Int32)), (.ref b1)])) _
    refine XS.iloadN X1.here hx rfl (hb hby d1_13) rfl ?_
    show Steps p.tables e below (T1.setTop (mkF m 14 #[.val (.int (3 : Int32)), .val (.ref b1), .val (.int (0 : Int32))] [(.int (0 : Int32)), (.int (0 : Int32)), (.ref b1)])) _
    refine st6 _ ?_
    show Steps p.tables e below (T6.setTop (mkF m 15 #[.val (.int (3 : Int32)), .val (.ref b1), .val (.int (0 : Int32))] [])) _
    refine XS.iinc X6.here hx rfl (hb hby d1_15) rfl (l' := #[.val (.int (3 : Int32)), .val (.ref b1), .val (.int (1 : Int32))]) rfl ?_
    show Steps p.tables e below (T6.setTop (mkF m 18 #[.val (.int (3 : Int32)), .val (.ref b1), .val (.int (1 : Int32))] [])) _
    refine XS.goto X6.here hx rfl (pc0 := 18) (pc' := 6) rfl (hb hby d1_18) (by decide) (by decide) ?_
    show Steps p.tables e below (T6.setTop (mkF m 6 #[.val (.int (3 : Int32)), .val (.ref b1), .val (.int (1 : Int32))] [])) _
    refine XS.iloadN X6.here hx rfl (hb hby d1_6) rfl ?_
    show Steps p.tables e below (T6.setTop (mkF m 7 #[.val (.int (3 : Int32)), .val (.ref b1), .val (.int (1 : Int32))] [(.int (1 : Int32))])) _
    refine XS.iloadN X6.here hx rfl (hb hby d1_7) rfl ?_
    show Steps p.tables e below (T6.setTop (mkF m 8 #[.val (.int (3 : Int32)), .val (.ref b1), .val (.int (1 : Int32))] [(.int (3 : Int32)), (.int (1 : Int32))])) _
    refine XS.icmpNo X6.here hx rfl (hb hby d1_8) rfl (tlt (by decide : (1 : Int32) < (3 : Int32))).2.1 ?_
    show Steps p.tables e below (T6.setTop (mkF m 11 #[.val (.int (3 : Int32)), .val (.ref b1), .val (.int (1 : Int32))] [])) _
    refine XS.aloadN X6.here hx rfl (hb hby d1_11) rfl rfl ?_
    show Steps p.tables e below (T6.setTop (mkF m 12 #[.val (.int (3 : Int32)), .val (.ref b1), .val (.int (1 : Int32))] [(.ref b1)])) _
    refine XS.iloadN X6.here hx rfl (hb hby d1_12) rfl ?_
    show Steps p.tables e below (T6.setTop (mkF m 13 #[.val (.int (3 : Int32)), .val (.ref b1), .val (.int (1 : Int32))] [(.int (1 : Int32)), (.ref b1)])) _
    refine XS.iloadN X6.here hx rfl (hb hby d1_13) rfl ?_
    show Steps p.tables e below (T6.setTop (mkF m 14 #[.val (.int (3 : Int32)), .val (.ref b1), .val (.int (1 : Int32))] [(.int (1 : Int32)), (.int (1 : Int32)), (.ref b1)])) _
    refine st13 _ ?_
    show Steps p.tables e below (T13.setTop (mkF m 15 #[.val (.int (3 : Int32)), .val (.ref b1), .val (.int (1 : Int32))] [])) _
    refine XS.iinc X13.here hx rfl (hb hby d1_15) rfl (l' := #[.val (.int (3 : Int32)), .val (.ref b1), .val (.int (2 : Int32))]) rfl ?_
    show Steps p.tables e below (T13.setTop (mkF m 18 #[.val (.int (3 : Int32)), .val (.ref b1), .val (.int (2 : Int32))] [])) _
    refine XS.goto X13.here hx rfl (pc0 := 18) (pc' := 6) rfl (hb hby d1_18) (by decide) (by decide) ?_
    show Steps p.tables e below (T13.setTop (mkF m 6 #[.val (.int (3 : Int32)), .val (.ref b1), .val (.int (2 : Int32))] [])) _
    refine XS.iloadN X13.here hx rfl (hb hby d1_6) rfl ?_
    show Steps p.tables e below (T13.setTop (mkF m 7 #[.val (.int (3 : Int32)), .val (.ref b1), .val (.int (2 : Int32))] [(.int (2 : Int32))])) _
    refine XS.iloadN X13.here hx rfl (hb hby d1_7) rfl ?_
    show Steps p.tables e below (T13.setTop (mkF m 8 #[.val (.int (3 : Int32)), .val (.ref b1), .val (.int (2 : Int32))] [(.int (3 : Int32)), (.int (2 : Int32))])) _
    refine XS.icmpNo X13.here hx rfl (hb hby d1_8) rfl (tlt (by decide : (2 : Int32) < (3 : Int32))).2.1 ?_
    show Steps p.tables e below (T13.setTop (mkF m 11 #[.val (.int (3 : Int32)), .val (.ref b1), .val (.int (2 : Int32))] [])) _
    refine XS.aloadN X13.here hx rfl (hb hby d1_11) rfl rfl ?_
    show Steps p.tables e below (T13.setTop (mkF m 12 #[.val (.int (3 : Int32)), .val (.ref b1), .val (.int (2 : Int32))] [(.ref b1)])) _
    refine XS.iloadN X13.here hx rfl (hb hby d1_12) rfl ?_
    show Steps p.tables e below (T13.setTop (mkF m 13 #[.val (.int (3 : Int32)), .val (.ref b1), .val (.int (2 : Int32))] [(.int (2 : Int32)), (.ref b1)])) _
    refine XS.iloadN X13.here hx rfl (hb hby d1_13) rfl ?_
    show Steps p.tables e below (T13.setTop (mkF m 14 #[.val (.int (3 : Int32)), .val (.ref b1), .val (.int (2 : Int32))] [(.int (2 : Int32)), (.int (2 : Int32)), (.ref b1)])) _
    refine st20 _ ?_
    show Steps p.tables e below (T20.setTop (mkF m 15 #[.val (.int (3 : Int32)), .val (.ref b1), .val (.int (2 : Int32))] [])) _
    refine XS.iinc X20.here hx rfl (hb hby d1_15) rfl (l' := #[.val (.int (3 : Int32)), .val (.ref b1), .val (.int (3 : Int32))]) rfl ?_
    show Steps p.tables e below (T20.setTop (mkF m 18 #[.val (.int (3 : Int32)), .val (.ref b1), .val (.int (3 : Int32))] [])) _
    refine XS.goto X20.here hx rfl (pc0 := 18) (pc' := 6) rfl (hb hby d1_18) (by decide) (by decide) ?_
    show Steps p.tables e below (T20.setTop (mkF m 6 #[.val (.int (3 : Int32)), .val (.ref b1), .val (.int (3 : Int32))] [])) _
    refine XS.iloadN X20.here hx rfl (hb hby d1_6) rfl ?_
    show Steps p.tables e below (T20.setTop (mkF m 7 #[.val (.int (3 : Int32)), .val (.ref b1), .val (.int (3 : Int32))] [(.int (3 : Int32))])) _
    refine XS.iloadN X20.here hx rfl (hb hby d1_7) rfl ?_
    show Steps p.tables e below (T20.setTop (mkF m 8 #[.val (.int (3 : Int32)), .val (.ref b1), .val (.int (3 : Int32))] [(.int (3 : Int32)), (.int (3 : Int32))])) _
    refine XS.icmpYes X20.here hx rfl (pc0 := 8) (pc' := 21) rfl (hb hby d1_8) rfl (flt (by decide : ¬ ((3 : Int32) < (3 : Int32)))).2.1 (by decide) (by decide) ?_
    show Steps p.tables e below (T20.setTop (mkF m 21 #[.val (.int (3 : Int32)), .val (.ref b1), .val (.int (3 : Int32))] [])) _
    refine XS.aloadN X20.here hx rfl (hb hby d1_21) rfl rfl ?_
    show Steps p.tables e below (T20.setTop (mkF m 22 #[.val (.int (3 : Int32)), .val (.ref b1), .val (.int (3 : Int32))] [(.ref b1)])) _
    exact retOut X20 hx (t := (.array .int)) (i := .areturn) Bd.returns rfl (Or.inr (Or.inr (Or.inr (Or.inr ⟨rfl, rfl, rfl⟩)))) (hb hby d1_22) hr
  · show Q_pos3 Z  h0 n0 _ T20.heap _
    rw [e20]
    exact ⟨b1, k1, rfl, N24, g_b1, sz_b1, K23, f22, f26⟩
def Q_pos4 (Z : State)  (h0 : Heap) (n0 : Nat) (v : Option Value) (h : Heap) (L : List Loc) : Prop := ∃ (o1 : Addr), ∃ (ko1 : ClassId), v = some (.ref o1) ∧ Fr n0 L ∧ n0 ≤ o1 ∧ h0.size ≤ o1 ∧ Keep h0 h [] ∧ Exa Z h o1 "[I" ∧ Arv Z h o1 ko1 .int (4 : Int32) own_ids (.int (0 : Int32))
set_option maxRecDepth 65536 in
set_option maxHeartbeats 40000000 in
theorem rm_pos4 (l : Launch) (Z : State) (a0 : Array Value) (hw : ∀ d ∈ tables_1, d.before a0 Z = true) (ws : List Jvm.Cond)  (h0 : Heap) (n0 : Nat) (Z0 : n0 ≤ h0.size) :
    MetFree l (⟨"com/example/trawl/trawl/gen/FisherYates", "positions", "(I)[I"⟩ : MethodName) (head1 (Jvm.Cond.code (⟨"com/example/trawl/trawl/gen/FisherYates", "positions", "(I)[I"⟩ : MethodName) prog_1_method_2_code 3 (some (.array .int)) :: ws) ({ frames := 0, cells := 1, slots := 16, locals := 0 } : Room)) (fun a U => a = #[(.int (4 : Int32))] ∧ Z.Warmed39 U.vm ∧ U.heap = h0) (fun _ _ _ _ _ => True) (fun _ U o U' => ∃ v L, o = .returned v ∧ Q_pos4 Z  h0 n0 v U'.heap L ∧ FrameEnd U o U' L ({ frames := 0, cells := 1, slots := 16, locals := 0 } : Room).cells ({ frames := 0, cells := 1, slots := 16, locals := 0 } : Room).slots) := by
  refine MetFree.of_bodySF (plainFor_of_name pn_com_example_trawl_trawl_gen_FisherYates) hisR ?_
  intro p e s m args below meth c s₁ Bd hml0 hP hK
  obtain ⟨rfl, hZ, hh⟩ := hP
  have hx := Bd.exec
  have hby := Bd.bytes
  have hml : c.maxLocals = 3 := hml0
  have hown : s.vm.findClass "com/example/trawl/trawl/gen/FisherYates" = some m.cls := findClass_of_methodNamed Bd.named
  have hnm := (name_of_methodNamed Bd.named Bd.method).1
  have X0 : Stand p l e ({ frames := 0, cells := 1, slots := 16, locals := 0 } : Room) s m #[(.int (4 : Int32))] below meth c s₁ [] 0 0 := Stand.of_body Bd
  have e0 : s₁.heap = h0 := by rw [← hh, Bd.state]; rfl
  have N0 := Fr.nil n0
  have pre0 : ∀ t, Steps p.tables e below (s₁.setTop (mkF m 0 #[.val (.int (4 : Int32)), .unset, .unset] [])) t → Steps p.tables e below (s₁.setTop (entryFrame m #[(.int (4 : Int32))] 3)) t := fun t k => castTop (ef_1_I m (4 : Int32)) k
  obtain ⟨T1, h1, k1, X1, e1, E1, A1, Ex1, st1⟩ := newPE X0 hx hZ (hw _ (List.mem_of_getElem? (i := 4) rfl)) e0 (g := (mkF m 1 #[.val (.int (4 : Int32)), .unset, .unset] [(.int (4 : Int32))])) rfl (hb hby d1_1) rfl (by decide) (cap := 4) (by decide) (by decide) (by decide) (by decide) (ad := "[I") (by decide)
  obtain ⟨b1, g1⟩ : ∃ z, z = h0.size := ⟨_, rfl⟩
  rw [← g1] at A1 Ex1 st1
  have g_b1 : n0 ≤ b1 := Nat.le_trans Z0 (Nat.le_of_eq g1.symm)
  have sz_b1 : h0.size ≤ b1 := Nat.le_trans (Keep.refl h0 []).1 (Nat.le_of_eq g1.symm)
  have K2 : Keep h0 h1 [] := (Keep.refl h0 []).ext E1
  have Zs3 : n0 ≤ h1.size := Nat.le_trans Z0 E1.1
  have f4 : Arv Z h1 b1 k1 .int (4 : Int32) [(.int (0 : Int32)), (.int (0 : Int32)), (.int (0 : Int32)), (.int (0 : Int32))] (.int (0 : Int32)) := (Arv.new A1 (by decide)).pad (pad_rep [] (.int (0 : Int32)) 4)
  obtain ⟨clo5, Aro5, qo5, So5, No5, Ho5, Go5⟩ := id f4
  have hino5 : ¬ ((0 : Int32) < 0 ∨ clo5.slots.size ≤ ((0 : Int32)).toNatClampNeg) := inb_of So5 ⟨by decide, by decide⟩
  obtain ⟨T6, h6, X6, e6, W6, st6⟩ := stI X1 hx hZ e1 Aro5 (j := (0 : Int32)) hino5 (g := (mkF m 14 #[.val (.int (4 : Int32)), .val (.ref b1), .val (.int (0 : Int32))] [(.int (0 : Int32)), (.int (0 : Int32)), (.ref b1)])) rfl rfl (hb hby d1_14)
  have f7 : Arv Z h6 b1 k1 .int (4 : Int32) [(.int (0 : Int32)), (.int (0 : Int32)), (.int (0 : Int32)), (.int (0 : Int32))] (.int (0 : Int32)) := Arv.set Aro5 qo5 So5 No5 Ho5 Go5 rfl W6 0 rfl (by decide)
  have f8 : Exa Z h6 b1 "[I" := Ex1.wr W6
  have K9 : Keep h0 h6 [] := K2.wr W6 (Or.inr sz_b1)
  have N10 := Fr.snoc X6 N0 g_b1
  have Zs11 : n0 ≤ h6.size := Nat.le_trans Zs3 (Keep.of_wr W6).1
  obtain ⟨clo12, Aro12, qo12, So12, No12, Ho12, Go12⟩ := id f7
  have hino12 : ¬ ((1 : Int32) < 0 ∨ clo12.slots.size ≤ ((1 : Int32)).toNatClampNeg) := inb_of So12 ⟨by decide, by decide⟩
  obtain ⟨T13, h13, X13, e13, W13, st13⟩ := stI X6 hx hZ e6 Aro12 (j := (1 : Int32)) hino12 (g := (mkF m 14 #[.val (.int (4 : Int32)), .val (.ref b1), .val (.int (1 : Int32))] [(.int (1 : Int32)), (.int (1 : Int32)), (.ref b1)])) rfl rfl (hb hby d1_14)
  have f14 : Arv Z h13 b1 k1 .int (4 : Int32) [(.int (0 : Int32)), (.int (1 : Int32)), (.int (0 : Int32)), (.int (0 : Int32))] (.int (0 : Int32)) := Arv.set Aro12 qo12 So12 No12 Ho12 Go12 rfl W13 1 rfl (by decide)
  have f15 : Exa Z h13 b1 "[I" := f8.wr W13
  have K16 : Keep h0 h13 [] := K9.wr W13 (Or.inr sz_b1)
  have N17 := Fr.snoc X13 N10 g_b1
  have Zs18 : n0 ≤ h13.size := Nat.le_trans Zs11 (Keep.of_wr W13).1
  obtain ⟨clo19, Aro19, qo19, So19, No19, Ho19, Go19⟩ := id f14
  have hino19 : ¬ ((2 : Int32) < 0 ∨ clo19.slots.size ≤ ((2 : Int32)).toNatClampNeg) := inb_of So19 ⟨by decide, by decide⟩
  obtain ⟨T20, h20, X20, e20, W20, st20⟩ := stI X13 hx hZ e13 Aro19 (j := (2 : Int32)) hino19 (g := (mkF m 14 #[.val (.int (4 : Int32)), .val (.ref b1), .val (.int (2 : Int32))] [(.int (2 : Int32)), (.int (2 : Int32)), (.ref b1)])) rfl rfl (hb hby d1_14)
  have f21 : Arv Z h20 b1 k1 .int (4 : Int32) [(.int (0 : Int32)), (.int (1 : Int32)), (.int (2 : Int32)), (.int (0 : Int32))] (.int (0 : Int32)) := Arv.set Aro19 qo19 So19 No19 Ho19 Go19 rfl W20 2 rfl (by decide)
  have f22 : Exa Z h20 b1 "[I" := f15.wr W20
  have K23 : Keep h0 h20 [] := K16.wr W20 (Or.inr sz_b1)
  have N24 := Fr.snoc X20 N17 g_b1
  have Zs25 : n0 ≤ h20.size := Nat.le_trans Zs18 (Keep.of_wr W20).1
  obtain ⟨clo26, Aro26, qo26, So26, No26, Ho26, Go26⟩ := id f21
  have hino26 : ¬ ((3 : Int32) < 0 ∨ clo26.slots.size ≤ ((3 : Int32)).toNatClampNeg) := inb_of So26 ⟨by decide, by decide⟩
  obtain ⟨T27, h27, X27, e27, W27, st27⟩ := stI X20 hx hZ e20 Aro26 (j := (3 : Int32)) hino26 (g := (mkF m 14 #[.val (.int (4 : Int32)), .val (.ref b1), .val (.int (3 : Int32))] [(.int (3 : Int32)), (.int (3 : Int32)), (.ref b1)])) rfl rfl (hb hby d1_14)
  have f28 : Arv Z h27 b1 k1 .int (4 : Int32) [(.int (0 : Int32)), (.int (1 : Int32)), (.int (2 : Int32)), (.int (3 : Int32))] (.int (0 : Int32)) := Arv.set Aro26 qo26 So26 No26 Ho26 Go26 rfl W27 3 rfl (by decide)
  have f29 : Exa Z h27 b1 "[I" := f22.wr W27
  have K30 : Keep h0 h27 [] := K23.wr W27 (Or.inr sz_b1)
  have N31 := Fr.snoc X27 N24 g_b1
  have Zs32 : n0 ≤ h27.size := Nat.le_trans Zs25 (Keep.of_wr W27).1
  have f33 : Arv Z h27 b1 k1 .int (4 : Int32) own_ids (.int (0 : Int32)) := own_conv f28 (by decide)
  obtain ⟨fs, hr, hrun, hended, hW, hsame⟩ := X27.leave (v := some (.ref b1)) (fun h => by rw [Bd.returns] at h; cases h) Bd.notSynchronized
  refine ⟨_, _, pre0 _ ?_, hrun, hended, _, _, rfl, ?_, ⟨_, rfl⟩, hW, hsame.mono (by decide) (by decide)⟩
  · show Steps p.tables e below (s₁.setTop (mkF m 0 #[.val (.int (4 : Int32)), .unset, .unset] [])) _
    refine XS.iloadN X0.here hx rfl (hb hby d1_0) rfl ?_
    show Steps p.tables e below (s₁.setTop (mkF m 1 #[.val (.int (4 : Int32)), .unset, .unset] [(.int (4 : Int32))])) _
    refine st1 _ ?_
    show Steps p.tables e below (T1.setTop (mkF m 3 #[.val (.int (4 : Int32)), .unset, .unset] [(.ref b1)])) _
    refine XS.astoreN X1.here hx rfl (hb hby d1_3) rfl rfl (l' := #[.val (.int (4 : Int32)), .val (.ref b1), .unset]) rfl ?_
    show Steps p.tables e below (T1.setTop (mkF m 4 #[.val (.int (4 : Int32)), .val (.ref b1), .unset] [])) _
    refine XS.iconst X1.here hx rfl (hb hby d1_4) ?_
    show Steps p.tables e below (T1.setTop (mkF m 5 #[.val (.int (4 : Int32)), .val (.ref b1), .unset] [(.int (0 : Int32))])) _
    refine XS.istoreN X1.here hx rfl (hb hby d1_5) rfl (l' := #[.val (.int (4 : Int32)), .val (.ref b1), .val (.int (0 : Int32))]) rfl ?_
    show Steps p.tables e below (T1.setTop (mkF m 6 #[.val (.int (4 : Int32)), .val (.ref b1), .val (.int (0 : Int32))] [])) _
    refine XS.iloadN X1.here hx rfl (hb hby d1_6) rfl ?_
    show Steps p.tables e below (T1.setTop (mkF m 7 #[.val (.int (4 : Int32)), .val (.ref b1), .val (.int (0 : Int32))] [(.int (0 : Int32))])) _
    refine XS.iloadN X1.here hx rfl (hb hby d1_7) rfl ?_
    show Steps p.tables e below (T1.setTop (mkF m 8 #[.val (.int (4 : Int32)), .val (.ref b1), .val (.int (0 : Int32))] [(.int (4 : Int32)), (.int (0 : Int32))])) _
    refine XS.icmpNo X1.here hx rfl (hb hby d1_8) rfl (tlt (by decide : (0 : Int32) < (4 : Int32))).2.1 ?_
    show Steps p.tables e below (T1.setTop (mkF m 11 #[.val (.int (4 : Int32)), .val (.ref b1), .val (.int (0 : Int32))] [])) _
    refine XS.aloadN X1.here hx rfl (hb hby d1_11) rfl rfl ?_
    show Steps p.tables e below (T1.setTop (mkF m 12 #[.val (.int (4 : Int32)), .val (.ref b1), .val (.int (0 : Int32))] [(.ref b1)])) _
    refine XS.iloadN X1.here hx rfl (hb hby d1_12) rfl ?_
    show Steps p.tables e below (T1.setTop (mkF m 13 #[.val (.int (4 : Int32)), .val (.ref b1), .val (.int (0 : Int32))] [(.int (0 : Int32)), (.ref b1)])) _
    refine XS.iloadN X1.here hx rfl (hb hby d1_13) rfl ?_
    show Steps p.tables e below (T1.setTop (mkF m 14 #[.val (.int (4 : Int32)), .val (.ref b1), .val (.int (0 : Int32))] [(.int (0 : Int32)), (.int (0 : Int32)), (.ref b1)])) _
    refine st6 _ ?_
    show Steps p.tables e below (T6.setTop (mkF m 15 #[.val (.int (4 : Int32)), .val (.ref b1), .val (.int (0 : Int32))] [])) _
    refine XS.iinc X6.here hx rfl (hb hby d1_15) rfl (l' := #[.val (.int (4 : Int32)), .val (.ref b1), .val (.int (1 : Int32))]) rfl ?_
    show Steps p.tables e below (T6.setTop (mkF m 18 #[.val (.int (4 : Int32)), .val (.ref b1), .val (.int (1 : Int32))] [])) _
    refine XS.goto X6.here hx rfl (pc0 := 18) (pc' := 6) rfl (hb hby d1_18) (by decide) (by decide) ?_
    show Steps p.tables e below (T6.setTop (mkF m 6 #[.val (.int (4 : Int32)), .val (.ref b1), .val (.int (1 : Int32))] [])) _
    refine XS.iloadN X6.here hx rfl (hb hby d1_6) rfl ?_
    show Steps p.tables e below (T6.setTop (mkF m 7 #[.val (.int (4 : Int32)), .val (.ref b1), .val (.int (1 : Int32))] [(.int (1 : Int32))])) _
    refine XS.iloadN X6.here hx rfl (hb hby d1_7) rfl ?_
    show Steps p.tables e below (T6.setTop (mkF m 8 #[.val (.int (4 : Int32)), .val (.ref b1), .val (.int (1 : Int32))] [(.int (4 : Int32)), (.int (1 : Int32))])) _
    refine XS.icmpNo X6.here hx rfl (hb hby d1_8) rfl (tlt (by decide : (1 : Int32) < (4 : Int32))).2.1 ?_
    show Steps p.tables e below (T6.setTop (mkF m 11 #[.val (.int (4 : Int32)), .val (.ref b1), .val (.int (1 : Int32))] [])) _
    refine XS.aloadN X6.here hx rfl (hb hby d1_11) rfl rfl ?_
    show Steps p.tables e below (T6.setTop (mkF m 12 #[.val (.int (4 : Int32)), .val (.ref b1), .val (.int (1 : Int32))] [(.ref b1)])) _
    refine XS.iloadN X6.here hx rfl (hb hby d1_12) rfl ?_
    show Steps p.tables e below (T6.setTop (mkF m 13 #[.val (.int (4 : Int32)), .val (.ref b1), .val (.int (1 : Int32))] [(.int (1 : Int32)), (.ref b1)])) _
    refine XS.iloadN X6.here hx rfl (hb hby d1_13) rfl ?_
    show Steps p.tables e below (T6.setTop (mkF m 14 #[.val (.int (4 : Int32)), .val (.ref b1), .val (.int (1 : Int32))] [(.int (1 : Int32)), (.int (1 : Int32)), (.ref b1)])) _
    refine st13 _ ?_
    show Steps p.tables e below (T13.setTop (mkF m 15 #[.val (.int (4 : Int32)), .val (.ref b1), .val (.int (1 : Int32))] [])) _
    refine XS.iinc X13.here hx rfl (hb hby d1_15) rfl (l' := #[.val (.int (4 : Int32)), .val (.ref b1), .val (.int (2 : Int32))]) rfl ?_
    show Steps p.tables e below (T13.setTop (mkF m 18 #[.val (.int (4 : Int32)), .val (.ref b1), .val (.int (2 : Int32))] [])) _
    refine XS.goto X13.here hx rfl (pc0 := 18) (pc' := 6) rfl (hb hby d1_18) (by decide) (by decide) ?_
    show Steps p.tables e below (T13.setTop (mkF m 6 #[.val (.int (4 : Int32)), .val (.ref b1), .val (.int (2 : Int32))] [])) _
    refine XS.iloadN X13.here hx rfl (hb hby d1_6) rfl ?_
    show Steps p.tables e below (T13.setTop (mkF m 7 #[.val (.int (4 : Int32)), .val (.ref b1), .val (.int (2 : Int32))] [(.int (2 : Int32))])) _
    refine XS.iloadN X13.here hx rfl (hb hby d1_7) rfl ?_
    show Steps p.tables e below (T13.setTop (mkF m 8 #[.val (.int (4 : Int32)), .val (.ref b1), .val (.int (2 : Int32))] [(.int (4 : Int32)), (.int (2 : Int32))])) _
    refine XS.icmpNo X13.here hx rfl (hb hby d1_8) rfl (tlt (by decide : (2 : Int32) < (4 : Int32))).2.1 ?_
    show Steps p.tables e below (T13.setTop (mkF m 11 #[.val (.int (4 : Int32)), .val (.ref b1), .val (.int (2 : Int32))] [])) _
    refine XS.aloadN X13.here hx rfl (hb hby d1_11) rfl rfl ?_
    show Steps p.tables e below (T13.setTop (mkF m 12 #[.val (.int (4 : Int32)), .val (.ref b1), .val (.int (2 : Int32))] [(.ref b1)])) _
    refine XS.iloadN X13.here hx rfl (hb hby d1_12) rfl ?_
    show Steps p.tables e below (T13.setTop (mkF m 13 #[.val (.int (4 : Int32)), .val (.ref b1), .val (.int (2 : Int32))] [(.int (2 : Int32)), (.ref b1)])) _
    refine XS.iloadN X13.here hx rfl (hb hby d1_13) rfl ?_
    show Steps p.tables e below (T13.setTop (mkF m 14 #[.val (.int (4 : Int32)), .val (.ref b1), .val (.int (2 : Int32))] [(.int (2 : Int32)), (.int (2 : Int32)), (.ref b1)])) _
    refine st20 _ ?_
    show Steps p.tables e below (T20.setTop (mkF m 15 #[.val (.int (4 : Int32)), .val (.ref b1), .val (.int (2 : Int32))] [])) _
    refine XS.iinc X20.here hx rfl (hb hby d1_15) rfl (l' := #[.val (.int (4 : Int32)), .val (.ref b1), .val (.int (3 : Int32))]) rfl ?_
    show Steps p.tables e below (T20.setTop (mkF m 18 #[.val (.int (4 : Int32)), .val (.ref b1), .val (.int (3 : Int32))] [])) _
    refine XS.goto X20.here hx rfl (pc0 := 18) (pc' := 6) rfl (hb hby d1_18) (by decide) (by decide) ?_
    show Steps p.tables e below (T20.setTop (mkF m 6 #[.val (.int (4 : Int32)), .val (.ref b1), .val (.int (3 : Int32))] [])) _
    refine XS.iloadN X20.here hx rfl (hb hby d1_6) rfl ?_
    show Steps p.tables e below (T20.setTop (mkF m 7 #[.val (.int (4 : Int32)), .val (.ref b1), .val (.int (3 : Int32))] [(.int (3 : Int32))])) _
    refine XS.iloadN X20.here hx rfl (hb hby d1_7) rfl ?_
    show Steps p.tables e below (T20.setTop (mkF m 8 #[.val (.int (4 : Int32)), .val (.ref b1), .val (.int (3 : Int32))] [(.int (4 : Int32)), (.int (3 : Int32))])) _
    refine XS.icmpNo X20.here hx rfl (hb hby d1_8) rfl (tlt (by decide : (3 : Int32) < (4 : Int32))).2.1 ?_
    show Steps p.tables e below (T20.setTop (mkF m 11 #[.val (.int (4 : Int32)), .val (.ref b1), .val (.int (3 : Int32))] [])) _
    refine XS.aloadN X20.here hx rfl (hb hby d1_11) rfl rfl ?_
    show Steps p.tables e below (T20.setTop (mkF m 12 #[.val (.int (4 : Int32)), .val (.ref b1), .val (.int (3 : Int32))] [(.ref b1)])) _
    refine XS.iloadN X20.here hx rfl (hb hby d1_12) rfl ?_
    show Steps p.tables e below (T20.setTop (mkF m 13 #[.val (.int (4 : Int32)), .val (.ref b1), .val (.int (3 : Int32))] [(.int (3 : Int32)), (.ref b1)])) _
    refine XS.iloadN X20.here hx rfl (hb hby d1_13) rfl ?_
    show Steps p.tables e below (T20.setTop (mkF m 14 #[.val (.int (4 : Int32)), .val (.ref b1), .val (.int (3 : Int32))] [(.int (3 : Int32)), (.int (3 : Int32)), (.ref b1)])) _
    refine st27 _ ?_
    show Steps p.tables e below (T27.setTop (mkF m 15 #[.val (.int (4 : Int32)), .val (.ref b1), .val (.int (3 : Int32))] [])) _
    refine XS.iinc X27.here hx rfl (hb hby d1_15) rfl (l' := #[.val (.int (4 : Int32)), .val (.ref b1), .val (.int (4 : Int32))]) rfl ?_
    show Steps p.tables e below (T27.setTop (mkF m 18 #[.val (.int (4 : Int32)), .val (.ref b1), .val (.int (4 : Int32))] [])) _
    refine XS.goto X27.here hx rfl (pc0 := 18) (pc' := 6) rfl (hb hby d1_18) (by decide) (by decide) ?_
    show Steps p.tables e below (T27.setTop (mkF m 6 #[.val (.int (4 : Int32)), .val (.ref b1), .val (.int (4 : Int32))] [])) _
    refine XS.iloadN X27.here hx rfl (hb hby d1_6) rfl ?_
    show Steps p.tables e below (T27.setTop (mkF m 7 #[.val (.int (4 : Int32)), .val (.ref b1), .val (.int (4 : Int32))] [(.int (4 : Int32))])) _
    refine XS.iloadN X27.here hx rfl (hb hby d1_7) rfl ?_
    show Steps p.tables e below (T27.setTop (mkF m 8 #[.val (.int (4 : Int32)), .val (.ref b1), .val (.int (4 : Int32))] [(.int (4 : Int32)), (.int (4 : Int32))])) _
    refine XS.icmpYes X27.here hx rfl (pc0 := 8) (pc' := 21) rfl (hb hby d1_8) rfl (flt (by decide : ¬ ((4 : Int32) < (4 : Int32)))).2.1 (by decide) (by decide) ?_
    show Steps p.tables e below (T27.setTop (mkF m 21 #[.val (.int (4 : Int32)), .val (.ref b1), .val (.int (4 : Int32))] [])) _
    refine XS.aloadN X27.here hx rfl (hb hby d1_21) rfl rfl ?_
    show Steps p.tables e below (T27.setTop (mkF m 22 #[.val (.int (4 : Int32)), .val (.ref b1), .val (.int (4 : Int32))] [(.ref b1)])) _
    exact retOut X27 hx (t := (.array .int)) (i := .areturn) Bd.returns rfl (Or.inr (Or.inr (Or.inr (Or.inr ⟨rfl, rfl, rfl⟩)))) (hb hby d1_22) hr
  · show Q_pos4 Z  h0 n0 _ T27.heap _
    rw [e27]
    exact ⟨b1, k1, rfl, N31, g_b1, sz_b1, K30, f29, f33⟩
def Q_pos5 (Z : State)  (h0 : Heap) (n0 : Nat) (v : Option Value) (h : Heap) (L : List Loc) : Prop := ∃ (o1 : Addr), ∃ (ko1 : ClassId), v = some (.ref o1) ∧ Fr n0 L ∧ n0 ≤ o1 ∧ h0.size ≤ o1 ∧ Keep h0 h [] ∧ Exa Z h o1 "[I" ∧ Arv Z h o1 ko1 .int (5 : Int32) own_ids (.int (0 : Int32))
set_option maxRecDepth 65536 in
set_option maxHeartbeats 40000000 in
theorem rm_pos5 (l : Launch) (Z : State) (a0 : Array Value) (hw : ∀ d ∈ tables_1, d.before a0 Z = true) (ws : List Jvm.Cond)  (h0 : Heap) (n0 : Nat) (Z0 : n0 ≤ h0.size) :
    MetFree l (⟨"com/example/trawl/trawl/gen/FisherYates", "positions", "(I)[I"⟩ : MethodName) (head1 (Jvm.Cond.code (⟨"com/example/trawl/trawl/gen/FisherYates", "positions", "(I)[I"⟩ : MethodName) prog_1_method_2_code 3 (some (.array .int)) :: ws) ({ frames := 0, cells := 1, slots := 16, locals := 0 } : Room)) (fun a U => a = #[(.int (5 : Int32))] ∧ Z.Warmed39 U.vm ∧ U.heap = h0) (fun _ _ _ _ _ => True) (fun _ U o U' => ∃ v L, o = .returned v ∧ Q_pos5 Z  h0 n0 v U'.heap L ∧ FrameEnd U o U' L ({ frames := 0, cells := 1, slots := 16, locals := 0 } : Room).cells ({ frames := 0, cells := 1, slots := 16, locals := 0 } : Room).slots) := by
  refine MetFree.of_bodySF (plainFor_of_name pn_com_example_trawl_trawl_gen_FisherYates) hisR ?_
  intro p e s m args below meth c s₁ Bd hml0 hP hK
  obtain ⟨rfl, hZ, hh⟩ := hP
  have hx := Bd.exec
  have hby := Bd.bytes
  have hml : c.maxLocals = 3 := hml0
  have hown : s.vm.findClass "com/example/trawl/trawl/gen/FisherYates" = some m.cls := findClass_of_methodNamed Bd.named
  have hnm := (name_of_methodNamed Bd.named Bd.method).1
  have X0 : Stand p l e ({ frames := 0, cells := 1, slots := 16, locals := 0 } : Room) s m #[(.int (5 : Int32))] below meth c s₁ [] 0 0 := Stand.of_body Bd
  have e0 : s₁.heap = h0 := by rw [← hh, Bd.state]; rfl
  have N0 := Fr.nil n0
  have pre0 : ∀ t, Steps p.tables e below (s₁.setTop (mkF m 0 #[.val (.int (5 : Int32)), .unset, .unset] [])) t → Steps p.tables e below (s₁.setTop (entryFrame m #[(.int (5 : Int32))] 3)) t := fun t k => castTop (ef_1_I m (5 : Int32)) k
  obtain ⟨T1, h1, k1, X1, e1, E1, A1, Ex1, st1⟩ := newPE X0 hx hZ (hw _ (List.mem_of_getElem? (i := 4) rfl)) e0 (g := (mkF m 1 #[.val (.int (5 : Int32)), .unset, .unset] [(.int (5 : Int32))])) rfl (hb hby d1_1) rfl (by decide) (cap := 5) (by decide) (by decide) (by decide) (by decide) (ad := "[I") (by decide)
  obtain ⟨b1, g1⟩ : ∃ z, z = h0.size := ⟨_, rfl⟩
  rw [← g1] at A1 Ex1 st1
  have g_b1 : n0 ≤ b1 := Nat.le_trans Z0 (Nat.le_of_eq g1.symm)
  have sz_b1 : h0.size ≤ b1 := Nat.le_trans (Keep.refl h0 []).1 (Nat.le_of_eq g1.symm)
  have K2 : Keep h0 h1 [] := (Keep.refl h0 []).ext E1
  have Zs3 : n0 ≤ h1.size := Nat.le_trans Z0 E1.1
  have f4 : Arv Z h1 b1 k1 .int (5 : Int32) [(.int (0 : Int32)), (.int (0 : Int32)), (.int (0 : Int32)), (.int (0 : Int32)), (.int (0 : Int32))] (.int (0 : Int32)) := (Arv.new A1 (by decide)).pad (pad_rep [] (.int (0 : Int32)) 5)
  obtain ⟨clo5, Aro5, qo5, So5, No5, Ho5, Go5⟩ := id f4
  have hino5 : ¬ ((0 : Int32) < 0 ∨ clo5.slots.size ≤ ((0 : Int32)).toNatClampNeg) := inb_of So5 ⟨by decide, by decide⟩
  obtain ⟨T6, h6, X6, e6, W6, st6⟩ := stI X1 hx hZ e1 Aro5 (j := (0 : Int32)) hino5 (g := (mkF m 14 #[.val (.int (5 : Int32)), .val (.ref b1), .val (.int (0 : Int32))] [(.int (0 : Int32)), (.int (0 : Int32)), (.ref b1)])) rfl rfl (hb hby d1_14)
  have f7 : Arv Z h6 b1 k1 .int (5 : Int32) [(.int (0 : Int32)), (.int (0 : Int32)), (.int (0 : Int32)), (.int (0 : Int32)), (.int (0 : Int32))] (.int (0 : Int32)) := Arv.set Aro5 qo5 So5 No5 Ho5 Go5 rfl W6 0 rfl (by decide)
  have f8 : Exa Z h6 b1 "[I" := Ex1.wr W6
  have K9 : Keep h0 h6 [] := K2.wr W6 (Or.inr sz_b1)
  have N10 := Fr.snoc X6 N0 g_b1
  have Zs11 : n0 ≤ h6.size := Nat.le_trans Zs3 (Keep.of_wr W6).1
  obtain ⟨clo12, Aro12, qo12, So12, No12, Ho12, Go12⟩ := id f7
  have hino12 : ¬ ((1 : Int32) < 0 ∨ clo12.slots.size ≤ ((1 : Int32)).toNatClampNeg) := inb_of So12 ⟨by decide, by decide⟩
  obtain ⟨T13, h13, X13, e13, W13, st13⟩ := stI X6 hx hZ e6 Aro12 (j := (1 : Int32)) hino12 (g := (mkF m 14 #[.val (.int (5 : Int32)), .val (.ref b1), .val (.int (1 : Int32))] [(.int (1 : Int32)), (.int (1 : Int32)), (.ref b1)])) rfl rfl (hb hby d1_14)
  have f14 : Arv Z h13 b1 k1 .int (5 : Int32) [(.int (0 : Int32)), (.int (1 : Int32)), (.int (0 : Int32)), (.int (0 : Int32)), (.int (0 : Int32))] (.int (0 : Int32)) := Arv.set Aro12 qo12 So12 No12 Ho12 Go12 rfl W13 1 rfl (by decide)
  have f15 : Exa Z h13 b1 "[I" := f8.wr W13
  have K16 : Keep h0 h13 [] := K9.wr W13 (Or.inr sz_b1)
  have N17 := Fr.snoc X13 N10 g_b1
  have Zs18 : n0 ≤ h13.size := Nat.le_trans Zs11 (Keep.of_wr W13).1
  obtain ⟨clo19, Aro19, qo19, So19, No19, Ho19, Go19⟩ := id f14
  have hino19 : ¬ ((2 : Int32) < 0 ∨ clo19.slots.size ≤ ((2 : Int32)).toNatClampNeg) := inb_of So19 ⟨by decide, by decide⟩
  obtain ⟨T20, h20, X20, e20, W20, st20⟩ := stI X13 hx hZ e13 Aro19 (j := (2 : Int32)) hino19 (g := (mkF m 14 #[.val (.int (5 : Int32)), .val (.ref b1), .val (.int (2 : Int32))] [(.int (2 : Int32)), (.int (2 : Int32)), (.ref b1)])) rfl rfl (hb hby d1_14)
  have f21 : Arv Z h20 b1 k1 .int (5 : Int32) [(.int (0 : Int32)), (.int (1 : Int32)), (.int (2 : Int32)), (.int (0 : Int32)), (.int (0 : Int32))] (.int (0 : Int32)) := Arv.set Aro19 qo19 So19 No19 Ho19 Go19 rfl W20 2 rfl (by decide)
  have f22 : Exa Z h20 b1 "[I" := f15.wr W20
  have K23 : Keep h0 h20 [] := K16.wr W20 (Or.inr sz_b1)
  have N24 := Fr.snoc X20 N17 g_b1
  have Zs25 : n0 ≤ h20.size := Nat.le_trans Zs18 (Keep.of_wr W20).1
  obtain ⟨clo26, Aro26, qo26, So26, No26, Ho26, Go26⟩ := id f21
  have hino26 : ¬ ((3 : Int32) < 0 ∨ clo26.slots.size ≤ ((3 : Int32)).toNatClampNeg) := inb_of So26 ⟨by decide, by decide⟩
  obtain ⟨T27, h27, X27, e27, W27, st27⟩ := stI X20 hx hZ e20 Aro26 (j := (3 : Int32)) hino26 (g := (mkF m 14 #[.val (.int (5 : Int32)), .val (.ref b1), .val (.int (3 : Int32))] [(.int (3 : Int32)), (.int (3 : Int32)), (.ref b1)])) rfl rfl (hb hby d1_14)
  have f28 : Arv Z h27 b1 k1 .int (5 : Int32) [(.int (0 : Int32)), (.int (1 : Int32)), (.int (2 : Int32)), (.int (3 : Int32)), (.int (0 : Int32))] (.int (0 : Int32)) := Arv.set Aro26 qo26 So26 No26 Ho26 Go26 rfl W27 3 rfl (by decide)
  have f29 : Exa Z h27 b1 "[I" := f22.wr W27
  have K30 : Keep h0 h27 [] := K23.wr W27 (Or.inr sz_b1)
  have N31 := Fr.snoc X27 N24 g_b1
  have Zs32 : n0 ≤ h27.size := Nat.le_trans Zs25 (Keep.of_wr W27).1
  obtain ⟨clo33, Aro33, qo33, So33, No33, Ho33, Go33⟩ := id f28
  have hino33 : ¬ ((4 : Int32) < 0 ∨ clo33.slots.size ≤ ((4 : Int32)).toNatClampNeg) := inb_of So33 ⟨by decide, by decide⟩
  obtain ⟨T34, h34, X34, e34, W34, st34⟩ := stI X27 hx hZ e27 Aro33 (j := (4 : Int32)) hino33 (g := (mkF m 14 #[.val (.int (5 : Int32)), .val (.ref b1), .val (.int (4 : Int32))] [(.int (4 : Int32)), (.int (4 : Int32)), (.ref b1)])) rfl rfl (hb hby d1_14)
  have f35 : Arv Z h34 b1 k1 .int (5 : Int32) [(.int (0 : Int32)), (.int (1 : Int32)), (.int (2 : Int32)), (.int (3 : Int32)), (.int (4 : Int32))] (.int (0 : Int32)) := Arv.set Aro33 qo33 So33 No33 Ho33 Go33 rfl W34 4 rfl (by decide)
  have f36 : Exa Z h34 b1 "[I" := f29.wr W34
  have K37 : Keep h0 h34 [] := K30.wr W34 (Or.inr sz_b1)
  have N38 := Fr.snoc X34 N31 g_b1
  have Zs39 : n0 ≤ h34.size := Nat.le_trans Zs32 (Keep.of_wr W34).1
  have f40 : Arv Z h34 b1 k1 .int (5 : Int32) own_ids (.int (0 : Int32)) := own_conv f35 (by decide)
  obtain ⟨fs, hr, hrun, hended, hW, hsame⟩ := X34.leave (v := some (.ref b1)) (fun h => by rw [Bd.returns] at h; cases h) Bd.notSynchronized
  refine ⟨_, _, pre0 _ ?_, hrun, hended, _, _, rfl, ?_, ⟨_, rfl⟩, hW, hsame.mono (by decide) (by decide)⟩
  · show Steps p.tables e below (s₁.setTop (mkF m 0 #[.val (.int (5 : Int32)), .unset, .unset] [])) _
    refine XS.iloadN X0.here hx rfl (hb hby d1_0) rfl ?_
    show Steps p.tables e below (s₁.setTop (mkF m 1 #[.val (.int (5 : Int32)), .unset, .unset] [(.int (5 : Int32))])) _
    refine st1 _ ?_
    show Steps p.tables e below (T1.setTop (mkF m 3 #[.val (.int (5 : Int32)), .unset, .unset] [(.ref b1)])) _
    refine XS.astoreN X1.here hx rfl (hb hby d1_3) rfl rfl (l' := #[.val (.int (5 : Int32)), .val (.ref b1), .unset]) rfl ?_
    show Steps p.tables e below (T1.setTop (mkF m 4 #[.val (.int (5 : Int32)), .val (.ref b1), .unset] [])) _
    refine XS.iconst X1.here hx rfl (hb hby d1_4) ?_
    show Steps p.tables e below (T1.setTop (mkF m 5 #[.val (.int (5 : Int32)), .val (.ref b1), .unset] [(.int (0 : Int32))])) _
    refine XS.istoreN X1.here hx rfl (hb hby d1_5) rfl (l' := #[.val (.int (5 : Int32)), .val (.ref b1), .val (.int (0 : Int32))]) rfl ?_
    show Steps p.tables e below (T1.setTop (mkF m 6 #[.val (.int (5 : Int32)), .val (.ref b1), .val (.int (0 : Int32))] [])) _
    refine XS.iloadN X1.here hx rfl (hb hby d1_6) rfl ?_
    show Steps p.tables e below (T1.setTop (mkF m 7 #[.val (.int (5 : Int32)), .val (.ref b1), .val (.int (0 : Int32))] [(.int (0 : Int32))])) _
    refine XS.iloadN X1.here hx rfl (hb hby d1_7) rfl ?_
    show Steps p.tables e below (T1.setTop (mkF m 8 #[.val (.int (5 : Int32)), .val (.ref b1), .val (.int (0 : Int32))] [(.int (5 : Int32)), (.int (0 : Int32))])) _
    refine XS.icmpNo X1.here hx rfl (hb hby d1_8) rfl (tlt (by decide : (0 : Int32) < (5 : Int32))).2.1 ?_
    show Steps p.tables e below (T1.setTop (mkF m 11 #[.val (.int (5 : Int32)), .val (.ref b1), .val (.int (0 : Int32))] [])) _
    refine XS.aloadN X1.here hx rfl (hb hby d1_11) rfl rfl ?_
    show Steps p.tables e below (T1.setTop (mkF m 12 #[.val (.int (5 : Int32)), .val (.ref b1), .val (.int (0 : Int32))] [(.ref b1)])) _
    refine XS.iloadN X1.here hx rfl (hb hby d1_12) rfl ?_
    show Steps p.tables e below (T1.setTop (mkF m 13 #[.val (.int (5 : Int32)), .val (.ref b1), .val (.int (0 : Int32))] [(.int (0 : Int32)), (.ref b1)])) _
    refine XS.iloadN X1.here hx rfl (hb hby d1_13) rfl ?_
    show Steps p.tables e below (T1.setTop (mkF m 14 #[.val (.int (5 : Int32)), .val (.ref b1), .val (.int (0 : Int32))] [(.int (0 : Int32)), (.int (0 : Int32)), (.ref b1)])) _
    refine st6 _ ?_
    show Steps p.tables e below (T6.setTop (mkF m 15 #[.val (.int (5 : Int32)), .val (.ref b1), .val (.int (0 : Int32))] [])) _
    refine XS.iinc X6.here hx rfl (hb hby d1_15) rfl (l' := #[.val (.int (5 : Int32)), .val (.ref b1), .val (.int (1 : Int32))]) rfl ?_
    show Steps p.tables e below (T6.setTop (mkF m 18 #[.val (.int (5 : Int32)), .val (.ref b1), .val (.int (1 : Int32))] [])) _
    refine XS.goto X6.here hx rfl (pc0 := 18) (pc' := 6) rfl (hb hby d1_18) (by decide) (by decide) ?_
    show Steps p.tables e below (T6.setTop (mkF m 6 #[.val (.int (5 : Int32)), .val (.ref b1), .val (.int (1 : Int32))] [])) _
    refine XS.iloadN X6.here hx rfl (hb hby d1_6) rfl ?_
    show Steps p.tables e below (T6.setTop (mkF m 7 #[.val (.int (5 : Int32)), .val (.ref b1), .val (.int (1 : Int32))] [(.int (1 : Int32))])) _
    refine XS.iloadN X6.here hx rfl (hb hby d1_7) rfl ?_
    show Steps p.tables e below (T6.setTop (mkF m 8 #[.val (.int (5 : Int32)), .val (.ref b1), .val (.int (1 : Int32))] [(.int (5 : Int32)), (.int (1 : Int32))])) _
    refine XS.icmpNo X6.here hx rfl (hb hby d1_8) rfl (tlt (by decide : (1 : Int32) < (5 : Int32))).2.1 ?_
    show Steps p.tables e below (T6.setTop (mkF m 11 #[.val (.int (5 : Int32)), .val (.ref b1), .val (.int (1 : Int32))] [])) _
    refine XS.aloadN X6.here hx rfl (hb hby d1_11) rfl rfl ?_
    show Steps p.tables e below (T6.setTop (mkF m 12 #[.val (.int (5 : Int32)), .val (.ref b1), .val (.int (1 : Int32))] [(.ref b1)])) _
    refine XS.iloadN X6.here hx rfl (hb hby d1_12) rfl ?_
    show Steps p.tables e below (T6.setTop (mkF m 13 #[.val (.int (5 : Int32)), .val (.ref b1), .val (.int (1 : Int32))] [(.int (1 : Int32)), (.ref b1)])) _
    refine XS.iloadN X6.here hx rfl (hb hby d1_13) rfl ?_
    show Steps p.tables e below (T6.setTop (mkF m 14 #[.val (.int (5 : Int32)), .val (.ref b1), .val (.int (1 : Int32))] [(.int (1 : Int32)), (.int (1 : Int32)), (.ref b1)])) _
    refine st13 _ ?_
    show Steps p.tables e below (T13.setTop (mkF m 15 #[.val (.int (5 : Int32)), .val (.ref b1), .val (.int (1 : Int32))] [])) _
    refine XS.iinc X13.here hx rfl (hb hby d1_15) rfl (l' := #[.val (.int (5 : Int32)), .val (.ref b1), .val (.int (2 : Int32))]) rfl ?_
    show Steps p.tables e below (T13.setTop (mkF m 18 #[.val (.int (5 : Int32)), .val (.ref b1), .val (.int (2 : Int32))] [])) _
    refine XS.goto X13.here hx rfl (pc0 := 18) (pc' := 6) rfl (hb hby d1_18) (by decide) (by decide) ?_
    show Steps p.tables e below (T13.setTop (mkF m 6 #[.val (.int (5 : Int32)), .val (.ref b1), .val (.int (2 : Int32))] [])) _
    refine XS.iloadN X13.here hx rfl (hb hby d1_6) rfl ?_
    show Steps p.tables e below (T13.setTop (mkF m 7 #[.val (.int (5 : Int32)), .val (.ref b1), .val (.int (2 : Int32))] [(.int (2 : Int32))])) _
    refine XS.iloadN X13.here hx rfl (hb hby d1_7) rfl ?_
    show Steps p.tables e below (T13.setTop (mkF m 8 #[.val (.int (5 : Int32)), .val (.ref b1), .val (.int (2 : Int32))] [(.int (5 : Int32)), (.int (2 : Int32))])) _
    refine XS.icmpNo X13.here hx rfl (hb hby d1_8) rfl (tlt (by decide : (2 : Int32) < (5 : Int32))).2.1 ?_
    show Steps p.tables e below (T13.setTop (mkF m 11 #[.val (.int (5 : Int32)), .val (.ref b1), .val (.int (2 : Int32))] [])) _
    refine XS.aloadN X13.here hx rfl (hb hby d1_11) rfl rfl ?_
    show Steps p.tables e below (T13.setTop (mkF m 12 #[.val (.int (5 : Int32)), .val (.ref b1), .val (.int (2 : Int32))] [(.ref b1)])) _
    refine XS.iloadN X13.here hx rfl (hb hby d1_12) rfl ?_
    show Steps p.tables e below (T13.setTop (mkF m 13 #[.val (.int (5 : Int32)), .val (.ref b1), .val (.int (2 : Int32))] [(.int (2 : Int32)), (.ref b1)])) _
    refine XS.iloadN X13.here hx rfl (hb hby d1_13) rfl ?_
    show Steps p.tables e below (T13.setTop (mkF m 14 #[.val (.int (5 : Int32)), .val (.ref b1), .val (.int (2 : Int32))] [(.int (2 : Int32)), (.int (2 : Int32)), (.ref b1)])) _
    refine st20 _ ?_
    show Steps p.tables e below (T20.setTop (mkF m 15 #[.val (.int (5 : Int32)), .val (.ref b1), .val (.int (2 : Int32))] [])) _
    refine XS.iinc X20.here hx rfl (hb hby d1_15) rfl (l' := #[.val (.int (5 : Int32)), .val (.ref b1), .val (.int (3 : Int32))]) rfl ?_
    show Steps p.tables e below (T20.setTop (mkF m 18 #[.val (.int (5 : Int32)), .val (.ref b1), .val (.int (3 : Int32))] [])) _
    refine XS.goto X20.here hx rfl (pc0 := 18) (pc' := 6) rfl (hb hby d1_18) (by decide) (by decide) ?_
    show Steps p.tables e below (T20.setTop (mkF m 6 #[.val (.int (5 : Int32)), .val (.ref b1), .val (.int (3 : Int32))] [])) _
    refine XS.iloadN X20.here hx rfl (hb hby d1_6) rfl ?_
    show Steps p.tables e below (T20.setTop (mkF m 7 #[.val (.int (5 : Int32)), .val (.ref b1), .val (.int (3 : Int32))] [(.int (3 : Int32))])) _
    refine XS.iloadN X20.here hx rfl (hb hby d1_7) rfl ?_
    show Steps p.tables e below (T20.setTop (mkF m 8 #[.val (.int (5 : Int32)), .val (.ref b1), .val (.int (3 : Int32))] [(.int (5 : Int32)), (.int (3 : Int32))])) _
    refine XS.icmpNo X20.here hx rfl (hb hby d1_8) rfl (tlt (by decide : (3 : Int32) < (5 : Int32))).2.1 ?_
    show Steps p.tables e below (T20.setTop (mkF m 11 #[.val (.int (5 : Int32)), .val (.ref b1), .val (.int (3 : Int32))] [])) _
    refine XS.aloadN X20.here hx rfl (hb hby d1_11) rfl rfl ?_
    show Steps p.tables e below (T20.setTop (mkF m 12 #[.val (.int (5 : Int32)), .val (.ref b1), .val (.int (3 : Int32))] [(.ref b1)])) _
    refine XS.iloadN X20.here hx rfl (hb hby d1_12) rfl ?_
    show Steps p.tables e below (T20.setTop (mkF m 13 #[.val (.int (5 : Int32)), .val (.ref b1), .val (.int (3 : Int32))] [(.int (3 : Int32)), (.ref b1)])) _
    refine XS.iloadN X20.here hx rfl (hb hby d1_13) rfl ?_
    show Steps p.tables e below (T20.setTop (mkF m 14 #[.val (.int (5 : Int32)), .val (.ref b1), .val (.int (3 : Int32))] [(.int (3 : Int32)), (.int (3 : Int32)), (.ref b1)])) _
    refine st27 _ ?_
    show Steps p.tables e below (T27.setTop (mkF m 15 #[.val (.int (5 : Int32)), .val (.ref b1), .val (.int (3 : Int32))] [])) _
    refine XS.iinc X27.here hx rfl (hb hby d1_15) rfl (l' := #[.val (.int (5 : Int32)), .val (.ref b1), .val (.int (4 : Int32))]) rfl ?_
    show Steps p.tables e below (T27.setTop (mkF m 18 #[.val (.int (5 : Int32)), .val (.ref b1), .val (.int (4 : Int32))] [])) _
    refine XS.goto X27.here hx rfl (pc0 := 18) (pc' := 6) rfl (hb hby d1_18) (by decide) (by decide) ?_
    show Steps p.tables e below (T27.setTop (mkF m 6 #[.val (.int (5 : Int32)), .val (.ref b1), .val (.int (4 : Int32))] [])) _
    refine XS.iloadN X27.here hx rfl (hb hby d1_6) rfl ?_
    show Steps p.tables e below (T27.setTop (mkF m 7 #[.val (.int (5 : Int32)), .val (.ref b1), .val (.int (4 : Int32))] [(.int (4 : Int32))])) _
    refine XS.iloadN X27.here hx rfl (hb hby d1_7) rfl ?_
    show Steps p.tables e below (T27.setTop (mkF m 8 #[.val (.int (5 : Int32)), .val (.ref b1), .val (.int (4 : Int32))] [(.int (5 : Int32)), (.int (4 : Int32))])) _
    refine XS.icmpNo X27.here hx rfl (hb hby d1_8) rfl (tlt (by decide : (4 : Int32) < (5 : Int32))).2.1 ?_
    show Steps p.tables e below (T27.setTop (mkF m 11 #[.val (.int (5 : Int32)), .val (.ref b1), .val (.int (4 : Int32))] [])) _
    refine XS.aloadN X27.here hx rfl (hb hby d1_11) rfl rfl ?_
    show Steps p.tables e below (T27.setTop (mkF m 12 #[.val (.int (5 : Int32)), .val (.ref b1), .val (.int (4 : Int32))] [(.ref b1)])) _
    refine XS.iloadN X27.here hx rfl (hb hby d1_12) rfl ?_
    show Steps p.tables e below (T27.setTop (mkF m 13 #[.val (.int (5 : Int32)), .val (.ref b1), .val (.int (4 : Int32))] [(.int (4 : Int32)), (.ref b1)])) _
    refine XS.iloadN X27.here hx rfl (hb hby d1_13) rfl ?_
    show Steps p.tables e below (T27.setTop (mkF m 14 #[.val (.int (5 : Int32)), .val (.ref b1), .val (.int (4 : Int32))] [(.int (4 : Int32)), (.int (4 : Int32)), (.ref b1)])) _
    refine st34 _ ?_
    show Steps p.tables e below (T34.setTop (mkF m 15 #[.val (.int (5 : Int32)), .val (.ref b1), .val (.int (4 : Int32))] [])) _
    refine XS.iinc X34.here hx rfl (hb hby d1_15) rfl (l' := #[.val (.int (5 : Int32)), .val (.ref b1), .val (.int (5 : Int32))]) rfl ?_
    show Steps p.tables e below (T34.setTop (mkF m 18 #[.val (.int (5 : Int32)), .val (.ref b1), .val (.int (5 : Int32))] [])) _
    refine XS.goto X34.here hx rfl (pc0 := 18) (pc' := 6) rfl (hb hby d1_18) (by decide) (by decide) ?_
    show Steps p.tables e below (T34.setTop (mkF m 6 #[.val (.int (5 : Int32)), .val (.ref b1), .val (.int (5 : Int32))] [])) _
    refine XS.iloadN X34.here hx rfl (hb hby d1_6) rfl ?_
    show Steps p.tables e below (T34.setTop (mkF m 7 #[.val (.int (5 : Int32)), .val (.ref b1), .val (.int (5 : Int32))] [(.int (5 : Int32))])) _
    refine XS.iloadN X34.here hx rfl (hb hby d1_7) rfl ?_
    show Steps p.tables e below (T34.setTop (mkF m 8 #[.val (.int (5 : Int32)), .val (.ref b1), .val (.int (5 : Int32))] [(.int (5 : Int32)), (.int (5 : Int32))])) _
    refine XS.icmpYes X34.here hx rfl (pc0 := 8) (pc' := 21) rfl (hb hby d1_8) rfl (flt (by decide : ¬ ((5 : Int32) < (5 : Int32)))).2.1 (by decide) (by decide) ?_
    show Steps p.tables e below (T34.setTop (mkF m 21 #[.val (.int (5 : Int32)), .val (.ref b1), .val (.int (5 : Int32))] [])) _
    refine XS.aloadN X34.here hx rfl (hb hby d1_21) rfl rfl ?_
    show Steps p.tables e below (T34.setTop (mkF m 22 #[.val (.int (5 : Int32)), .val (.ref b1), .val (.int (5 : Int32))] [(.ref b1)])) _
    exact retOut X34 hx (t := (.array .int)) (i := .areturn) Bd.returns rfl (Or.inr (Or.inr (Or.inr (Or.inr ⟨rfl, rfl, rfl⟩)))) (hb hby d1_22) hr
  · show Q_pos5 Z  h0 n0 _ T34.heap _
    rw [e34]
    exact ⟨b1, k1, rfl, N38, g_b1, sz_b1, K37, f36, f40⟩
def Q_pos6 (Z : State)  (h0 : Heap) (n0 : Nat) (v : Option Value) (h : Heap) (L : List Loc) : Prop := ∃ (o1 : Addr), ∃ (ko1 : ClassId), v = some (.ref o1) ∧ Fr n0 L ∧ n0 ≤ o1 ∧ h0.size ≤ o1 ∧ Keep h0 h [] ∧ Exa Z h o1 "[I" ∧ Arv Z h o1 ko1 .int (6 : Int32) own_ids (.int (0 : Int32))
set_option maxRecDepth 65536 in
set_option maxHeartbeats 40000000 in
theorem rm_pos6 (l : Launch) (Z : State) (a0 : Array Value) (hw : ∀ d ∈ tables_1, d.before a0 Z = true) (ws : List Jvm.Cond)  (h0 : Heap) (n0 : Nat) (Z0 : n0 ≤ h0.size) :
    MetFree l (⟨"com/example/trawl/trawl/gen/FisherYates", "positions", "(I)[I"⟩ : MethodName) (head1 (Jvm.Cond.code (⟨"com/example/trawl/trawl/gen/FisherYates", "positions", "(I)[I"⟩ : MethodName) prog_1_method_2_code 3 (some (.array .int)) :: ws) ({ frames := 0, cells := 1, slots := 16, locals := 0 } : Room)) (fun a U => a = #[(.int (6 : Int32))] ∧ Z.Warmed39 U.vm ∧ U.heap = h0) (fun _ _ _ _ _ => True) (fun _ U o U' => ∃ v L, o = .returned v ∧ Q_pos6 Z  h0 n0 v U'.heap L ∧ FrameEnd U o U' L ({ frames := 0, cells := 1, slots := 16, locals := 0 } : Room).cells ({ frames := 0, cells := 1, slots := 16, locals := 0 } : Room).slots) := by
  refine MetFree.of_bodySF (plainFor_of_name pn_com_example_trawl_trawl_gen_FisherYates) hisR ?_
  intro p e s m args below meth c s₁ Bd hml0 hP hK
  obtain ⟨rfl, hZ, hh⟩ := hP
  have hx := Bd.exec
  have hby := Bd.bytes
  have hml : c.maxLocals = 3 := hml0
  have hown : s.vm.findClass "com/example/trawl/trawl/gen/FisherYates" = some m.cls := findClass_of_methodNamed Bd.named
  have hnm := (name_of_methodNamed Bd.named Bd.method).1
  have X0 : Stand p l e ({ frames := 0, cells := 1, slots := 16, locals := 0 } : Room) s m #[(.int (6 : Int32))] below meth c s₁ [] 0 0 := Stand.of_body Bd
  have e0 : s₁.heap = h0 := by rw [← hh, Bd.state]; rfl
  have N0 := Fr.nil n0
  have pre0 : ∀ t, Steps p.tables e below (s₁.setTop (mkF m 0 #[.val (.int (6 : Int32)), .unset, .unset] [])) t → Steps p.tables e below (s₁.setTop (entryFrame m #[(.int (6 : Int32))] 3)) t := fun t k => castTop (ef_1_I m (6 : Int32)) k
  obtain ⟨T1, h1, k1, X1, e1, E1, A1, Ex1, st1⟩ := newPE X0 hx hZ (hw _ (List.mem_of_getElem? (i := 4) rfl)) e0 (g := (mkF m 1 #[.val (.int (6 : Int32)), .unset, .unset] [(.int (6 : Int32))])) rfl (hb hby d1_1) rfl (by decide) (cap := 6) (by decide) (by decide) (by decide) (by decide) (ad := "[I") (by decide)
  obtain ⟨b1, g1⟩ : ∃ z, z = h0.size := ⟨_, rfl⟩
  rw [← g1] at A1 Ex1 st1
  have g_b1 : n0 ≤ b1 := Nat.le_trans Z0 (Nat.le_of_eq g1.symm)
  have sz_b1 : h0.size ≤ b1 := Nat.le_trans (Keep.refl h0 []).1 (Nat.le_of_eq g1.symm)
  have K2 : Keep h0 h1 [] := (Keep.refl h0 []).ext E1
  have Zs3 : n0 ≤ h1.size := Nat.le_trans Z0 E1.1
  have f4 : Arv Z h1 b1 k1 .int (6 : Int32) [(.int (0 : Int32)), (.int (0 : Int32)), (.int (0 : Int32)), (.int (0 : Int32)), (.int (0 : Int32)), (.int (0 : Int32))] (.int (0 : Int32)) := (Arv.new A1 (by decide)).pad (pad_rep [] (.int (0 : Int32)) 6)
  obtain ⟨clo5, Aro5, qo5, So5, No5, Ho5, Go5⟩ := id f4
  have hino5 : ¬ ((0 : Int32) < 0 ∨ clo5.slots.size ≤ ((0 : Int32)).toNatClampNeg) := inb_of So5 ⟨by decide, by decide⟩
  obtain ⟨T6, h6, X6, e6, W6, st6⟩ := stI X1 hx hZ e1 Aro5 (j := (0 : Int32)) hino5 (g := (mkF m 14 #[.val (.int (6 : Int32)), .val (.ref b1), .val (.int (0 : Int32))] [(.int (0 : Int32)), (.int (0 : Int32)), (.ref b1)])) rfl rfl (hb hby d1_14)
  have f7 : Arv Z h6 b1 k1 .int (6 : Int32) [(.int (0 : Int32)), (.int (0 : Int32)), (.int (0 : Int32)), (.int (0 : Int32)), (.int (0 : Int32)), (.int (0 : Int32))] (.int (0 : Int32)) := Arv.set Aro5 qo5 So5 No5 Ho5 Go5 rfl W6 0 rfl (by decide)
  have f8 : Exa Z h6 b1 "[I" := Ex1.wr W6
  have K9 : Keep h0 h6 [] := K2.wr W6 (Or.inr sz_b1)
  have N10 := Fr.snoc X6 N0 g_b1
  have Zs11 : n0 ≤ h6.size := Nat.le_trans Zs3 (Keep.of_wr W6).1
  obtain ⟨clo12, Aro12, qo12, So12, No12, Ho12, Go12⟩ := id f7
  have hino12 : ¬ ((1 : Int32) < 0 ∨ clo12.slots.size ≤ ((1 : Int32)).toNatClampNeg) := inb_of So12 ⟨by decide, by decide⟩
  obtain ⟨T13, h13, X13, e13, W13, st13⟩ := stI X6 hx hZ e6 Aro12 (j := (1 : Int32)) hino12 (g := (mkF m 14 #[.val (.int (6 : Int32)), .val (.ref b1), .val (.int (1 : Int32))] [(.int (1 : Int32)), (.int (1 : Int32)), (.ref b1)])) rfl rfl (hb hby d1_14)
  have f14 : Arv Z h13 b1 k1 .int (6 : Int32) [(.int (0 : Int32)), (.int (1 : Int32)), (.int (0 : Int32)), (.int (0 : Int32)), (.int (0 : Int32)), (.int (0 : Int32))] (.int (0 : Int32)) := Arv.set Aro12 qo12 So12 No12 Ho12 Go12 rfl W13 1 rfl (by decide)
  have f15 : Exa Z h13 b1 "[I" := f8.wr W13
  have K16 : Keep h0 h13 [] := K9.wr W13 (Or.inr sz_b1)
  have N17 := Fr.snoc X13 N10 g_b1
  have Zs18 : n0 ≤ h13.size := Nat.le_trans Zs11 (Keep.of_wr W13).1
  obtain ⟨clo19, Aro19, qo19, So19, No19, Ho19, Go19⟩ := id f14
  have hino19 : ¬ ((2 : Int32) < 0 ∨ clo19.slots.size ≤ ((2 : Int32)).toNatClampNeg) := inb_of So19 ⟨by decide, by decide⟩
  obtain ⟨T20, h20, X20, e20, W20, st20⟩ := stI X13 hx hZ e13 Aro19 (j := (2 : Int32)) hino19 (g := (mkF m 14 #[.val (.int (6 : Int32)), .val (.ref b1), .val (.int (2 : Int32))] [(.int (2 : Int32)), (.int (2 : Int32)), (.ref b1)])) rfl rfl (hb hby d1_14)
  have f21 : Arv Z h20 b1 k1 .int (6 : Int32) [(.int (0 : Int32)), (.int (1 : Int32)), (.int (2 : Int32)), (.int (0 : Int32)), (.int (0 : Int32)), (.int (0 : Int32))] (.int (0 : Int32)) := Arv.set Aro19 qo19 So19 No19 Ho19 Go19 rfl W20 2 rfl (by decide)
  have f22 : Exa Z h20 b1 "[I" := f15.wr W20
  have K23 : Keep h0 h20 [] := K16.wr W20 (Or.inr sz_b1)
  have N24 := Fr.snoc X20 N17 g_b1
  have Zs25 : n0 ≤ h20.size := Nat.le_trans Zs18 (Keep.of_wr W20).1
  obtain ⟨clo26, Aro26, qo26, So26, No26, Ho26, Go26⟩ := id f21
  have hino26 : ¬ ((3 : Int32) < 0 ∨ clo26.slots.size ≤ ((3 : Int32)).toNatClampNeg) := inb_of So26 ⟨by decide, by decide⟩
  obtain ⟨T27, h27, X27, e27, W27, st27⟩ := stI X20 hx hZ e20 Aro26 (j := (3 : Int32)) hino26 (g := (mkF m 14 #[.val (.int (6 : Int32)), .val (.ref b1), .val (.int (3 : Int32))] [(.int (3 : Int32)), (.int (3 : Int32)), (.ref b1)])) rfl rfl (hb hby d1_14)
  have f28 : Arv Z h27 b1 k1 .int (6 : Int32) [(.int (0 : Int32)), (.int (1 : Int32)), (.int (2 : Int32)), (.int (3 : Int32)), (.int (0 : Int32)), (.int (0 : Int32))] (.int (0 : Int32)) := Arv.set Aro26 qo26 So26 No26 Ho26 Go26 rfl W27 3 rfl (by decide)
  have f29 : Exa Z h27 b1 "[I" := f22.wr W27
  have K30 : Keep h0 h27 [] := K23.wr W27 (Or.inr sz_b1)
  have N31 := Fr.snoc X27 N24 g_b1
  have Zs32 : n0 ≤ h27.size := Nat.le_trans Zs25 (Keep.of_wr W27).1
  obtain ⟨clo33, Aro33, qo33, So33, No33, Ho33, Go33⟩ := id f28
  have hino33 : ¬ ((4 : Int32) < 0 ∨ clo33.slots.size ≤ ((4 : Int32)).toNatClampNeg) := inb_of So33 ⟨by decide, by decide⟩
  obtain ⟨T34, h34, X34, e34, W34, st34⟩ := stI X27 hx hZ e27 Aro33 (j := (4 : Int32)) hino33 (g := (mkF m 14 #[.val (.int (6 : Int32)), .val (.ref b1), .val (.int (4 : Int32))] [(.int (4 : Int32)), (.int (4 : Int32)), (.ref b1)])) rfl rfl (hb hby d1_14)
  have f35 : Arv Z h34 b1 k1 .int (6 : Int32) [(.int (0 : Int32)), (.int (1 : Int32)), (.int (2 : Int32)), (.int (3 : Int32)), (.int (4 : Int32)), (.int (0 : Int32))] (.int (0 : Int32)) := Arv.set Aro33 qo33 So33 No33 Ho33 Go33 rfl W34 4 rfl (by decide)
  have f36 : Exa Z h34 b1 "[I" := f29.wr W34
  have K37 : Keep h0 h34 [] := K30.wr W34 (Or.inr sz_b1)
  have N38 := Fr.snoc X34 N31 g_b1
  have Zs39 : n0 ≤ h34.size := Nat.le_trans Zs32 (Keep.of_wr W34).1
  obtain ⟨clo40, Aro40, qo40, So40, No40, Ho40, Go40⟩ := id f35
  have hino40 : ¬ ((5 : Int32) < 0 ∨ clo40.slots.size ≤ ((5 : Int32)).toNatClampNeg) := inb_of So40 ⟨by decide, by decide⟩
  obtain ⟨T41, h41, X41, e41, W41, st41⟩ := stI X34 hx hZ e34 Aro40 (j := (5 : Int32)) hino40 (g := (mkF m 14 #[.val (.int (6 : Int32)), .val (.ref b1), .val (.int (5 : Int32))] [(.int (5 : Int32)), (.int (5 : Int32)), (.ref b1)])) rfl rfl (hb hby d1_14)
  have f42 : Arv Z h41 b1 k1 .int (6 : Int32) [(.int (0 : Int32)), (.int (1 : Int32)), (.int (2 : Int32)), (.int (3 : Int32)), (.int (4 : Int32)), (.int (5 : Int32))] (.int (0 : Int32)) := Arv.set Aro40 qo40 So40 No40 Ho40 Go40 rfl W41 5 rfl (by decide)
  have f43 : Exa Z h41 b1 "[I" := f36.wr W41
  have K44 : Keep h0 h41 [] := K37.wr W41 (Or.inr sz_b1)
  have N45 := Fr.snoc X41 N38 g_b1
  have Zs46 : n0 ≤ h41.size := Nat.le_trans Zs39 (Keep.of_wr W41).1
  have f47 : Arv Z h41 b1 k1 .int (6 : Int32) own_ids (.int (0 : Int32)) := own_conv f42 (by decide)
  obtain ⟨fs, hr, hrun, hended, hW, hsame⟩ := X41.leave (v := some (.ref b1)) (fun h => by rw [Bd.returns] at h; cases h) Bd.notSynchronized
  refine ⟨_, _, pre0 _ ?_, hrun, hended, _, _, rfl, ?_, ⟨_, rfl⟩, hW, hsame.mono (by decide) (by decide)⟩
  · show Steps p.tables e below (s₁.setTop (mkF m 0 #[.val (.int (6 : Int32)), .unset, .unset] [])) _
    refine XS.iloadN X0.here hx rfl (hb hby d1_0) rfl ?_
    show Steps p.tables e below (s₁.setTop (mkF m 1 #[.val (.int (6 : Int32)), .unset, .unset] [(.int (6 : Int32))])) _
    refine st1 _ ?_
    show Steps p.tables e below (T1.setTop (mkF m 3 #[.val (.int (6 : Int32)), .unset, .unset] [(.ref b1)])) _
    refine XS.astoreN X1.here hx rfl (hb hby d1_3) rfl rfl (l' := #[.val (.int (6 : Int32)), .val (.ref b1), .unset]) rfl ?_
    show Steps p.tables e below (T1.setTop (mkF m 4 #[.val (.int (6 : Int32)), .val (.ref b1), .unset] [])) _
    refine XS.iconst X1.here hx rfl (hb hby d1_4) ?_
    show Steps p.tables e below (T1.setTop (mkF m 5 #[.val (.int (6 : Int32)), .val (.ref b1), .unset] [(.int (0 : Int32))])) _
    refine XS.istoreN X1.here hx rfl (hb hby d1_5) rfl (l' := #[.val (.int (6 : Int32)), .val (.ref b1), .val (.int (0 : Int32))]) rfl ?_
    show Steps p.tables e below (T1.setTop (mkF m 6 #[.val (.int (6 : Int32)), .val (.ref b1), .val (.int (0 : Int32))] [])) _
    refine XS.iloadN X1.here hx rfl (hb hby d1_6) rfl ?_
    show Steps p.tables e below (T1.setTop (mkF m 7 #[.val (.int (6 : Int32)), .val (.ref b1), .val (.int (0 : Int32))] [(.int (0 : Int32))])) _
    refine XS.iloadN X1.here hx rfl (hb hby d1_7) rfl ?_
    show Steps p.tables e below (T1.setTop (mkF m 8 #[.val (.int (6 : Int32)), .val (.ref b1), .val (.int (0 : Int32))] [(.int (6 : Int32)), (.int (0 : Int32))])) _
    refine XS.icmpNo X1.here hx rfl (hb hby d1_8) rfl (tlt (by decide : (0 : Int32) < (6 : Int32))).2.1 ?_
    show Steps p.tables e below (T1.setTop (mkF m 11 #[.val (.int (6 : Int32)), .val (.ref b1), .val (.int (0 : Int32))] [])) _
    refine XS.aloadN X1.here hx rfl (hb hby d1_11) rfl rfl ?_
    show Steps p.tables e below (T1.setTop (mkF m 12 #[.val (.int (6 : Int32)), .val (.ref b1), .val (.int (0 : Int32))] [(.ref b1)])) _
    refine XS.iloadN X1.here hx rfl (hb hby d1_12) rfl ?_
    show Steps p.tables e below (T1.setTop (mkF m 13 #[.val (.int (6 : Int32)), .val (.ref b1), .val (.int (0 : Int32))] [(.int (0 : Int32)), (.ref b1)])) _
    refine XS.iloadN X1.here hx rfl (hb hby d1_13) rfl ?_
    show Steps p.tables e below (T1.setTop (mkF m 14 #[.val (.int (6 : Int32)), .val (.ref b1), .val (.int (0 : Int32))] [(.int (0 : Int32)), (.int (0 : Int32)), (.ref b1)])) _
    refine st6 _ ?_
    show Steps p.tables e below (T6.setTop (mkF m 15 #[.val (.int (6 : Int32)), .val (.ref b1), .val (.int (0 : Int32))] [])) _
    refine XS.iinc X6.here hx rfl (hb hby d1_15) rfl (l' := #[.val (.int (6 : Int32)), .val (.ref b1), .val (.int (1 : Int32))]) rfl ?_
    show Steps p.tables e below (T6.setTop (mkF m 18 #[.val (.int (6 : Int32)), .val (.ref b1), .val (.int (1 : Int32))] [])) _
    refine XS.goto X6.here hx rfl (pc0 := 18) (pc' := 6) rfl (hb hby d1_18) (by decide) (by decide) ?_
    show Steps p.tables e below (T6.setTop (mkF m 6 #[.val (.int (6 : Int32)), .val (.ref b1), .val (.int (1 : Int32))] [])) _
    refine XS.iloadN X6.here hx rfl (hb hby d1_6) rfl ?_
    show Steps p.tables e below (T6.setTop (mkF m 7 #[.val (.int (6 : Int32)), .val (.ref b1), .val (.int (1 : Int32))] [(.int (1 : Int32))])) _
    refine XS.iloadN X6.here hx rfl (hb hby d1_7) rfl ?_
    show Steps p.tables e below (T6.setTop (mkF m 8 #[.val (.int (6 : Int32)), .val (.ref b1), .val (.int (1 : Int32))] [(.int (6 : Int32)), (.int (1 : Int32))])) _
    refine XS.icmpNo X6.here hx rfl (hb hby d1_8) rfl (tlt (by decide : (1 : Int32) < (6 : Int32))).2.1 ?_
    show Steps p.tables e below (T6.setTop (mkF m 11 #[.val (.int (6 : Int32)), .val (.ref b1), .val (.int (1 : Int32))] [])) _
    refine XS.aloadN X6.here hx rfl (hb hby d1_11) rfl rfl ?_
    show Steps p.tables e below (T6.setTop (mkF m 12 #[.val (.int (6 : Int32)), .val (.ref b1), .val (.int (1 : Int32))] [(.ref b1)])) _
    refine XS.iloadN X6.here hx rfl (hb hby d1_12) rfl ?_
    show Steps p.tables e below (T6.setTop (mkF m 13 #[.val (.int (6 : Int32)), .val (.ref b1), .val (.int (1 : Int32))] [(.int (1 : Int32)), (.ref b1)])) _
    refine XS.iloadN X6.here hx rfl (hb hby d1_13) rfl ?_
    show Steps p.tables e below (T6.setTop (mkF m 14 #[.val (.int (6 : Int32)), .val (.ref b1), .val (.int (1 : Int32))] [(.int (1 : Int32)), (.int (1 : Int32)), (.ref b1)])) _
    refine st13 _ ?_
    show Steps p.tables e below (T13.setTop (mkF m 15 #[.val (.int (6 : Int32)), .val (.ref b1), .val (.int (1 : Int32))] [])) _
    refine XS.iinc X13.here hx rfl (hb hby d1_15) rfl (l' := #[.val (.int (6 : Int32)), .val (.ref b1), .val (.int (2 : Int32))]) rfl ?_
    show Steps p.tables e below (T13.setTop (mkF m 18 #[.val (.int (6 : Int32)), .val (.ref b1), .val (.int (2 : Int32))] [])) _
    refine XS.goto X13.here hx rfl (pc0 := 18) (pc' := 6) rfl (hb hby d1_18) (by decide) (by decide) ?_
    show Steps p.tables e below (T13.setTop (mkF m 6 #[.val (.int (6 : Int32)), .val (.ref b1), .val (.int (2 : Int32))] [])) _
    refine XS.iloadN X13.here hx rfl (hb hby d1_6) rfl ?_
    show Steps p.tables e below (T13.setTop (mkF m 7 #[.val (.int (6 : Int32)), .val (.ref b1), .val (.int (2 : Int32))] [(.int (2 : Int32))])) _
    refine XS.iloadN X13.here hx rfl (hb hby d1_7) rfl ?_
    show Steps p.tables e below (T13.setTop (mkF m 8 #[.val (.int (6 : Int32)), .val (.ref b1), .val (.int (2 : Int32))] [(.int (6 : Int32)), (.int (2 : Int32))])) _
    refine XS.icmpNo X13.here hx rfl (hb hby d1_8) rfl (tlt (by decide : (2 : Int32) < (6 : Int32))).2.1 ?_
    show Steps p.tables e below (T13.setTop (mkF m 11 #[.val (.int (6 : Int32)), .val (.ref b1), .val (.int (2 : Int32))] [])) _
    refine XS.aloadN X13.here hx rfl (hb hby d1_11) rfl rfl ?_
    show Steps p.tables e below (T13.setTop (mkF m 12 #[.val (.int (6 : Int32)), .val (.ref b1), .val (.int (2 : Int32))] [(.ref b1)])) _
    refine XS.iloadN X13.here hx rfl (hb hby d1_12) rfl ?_
    show Steps p.tables e below (T13.setTop (mkF m 13 #[.val (.int (6 : Int32)), .val (.ref b1), .val (.int (2 : Int32))] [(.int (2 : Int32)), (.ref b1)])) _
    refine XS.iloadN X13.here hx rfl (hb hby d1_13) rfl ?_
    show Steps p.tables e below (T13.setTop (mkF m 14 #[.val (.int (6 : Int32)), .val (.ref b1), .val (.int (2 : Int32))] [(.int (2 : Int32)), (.int (2 : Int32)), (.ref b1)])) _
    refine st20 _ ?_
    show Steps p.tables e below (T20.setTop (mkF m 15 #[.val (.int (6 : Int32)), .val (.ref b1), .val (.int (2 : Int32))] [])) _
    refine XS.iinc X20.here hx rfl (hb hby d1_15) rfl (l' := #[.val (.int (6 : Int32)), .val (.ref b1), .val (.int (3 : Int32))]) rfl ?_
    show Steps p.tables e below (T20.setTop (mkF m 18 #[.val (.int (6 : Int32)), .val (.ref b1), .val (.int (3 : Int32))] [])) _
    refine XS.goto X20.here hx rfl (pc0 := 18) (pc' := 6) rfl (hb hby d1_18) (by decide) (by decide) ?_
    show Steps p.tables e below (T20.setTop (mkF m 6 #[.val (.int (6 : Int32)), .val (.ref b1), .val (.int (3 : Int32))] [])) _
    refine XS.iloadN X20.here hx rfl (hb hby d1_6) rfl ?_
    show Steps p.tables e below (T20.setTop (mkF m 7 #[.val (.int (6 : Int32)), .val (.ref b1), .val (.int (3 : Int32))] [(.int (3 : Int32))])) _
    refine XS.iloadN X20.here hx rfl (hb hby d1_7) rfl ?_
    show Steps p.tables e below (T20.setTop (mkF m 8 #[.val (.int (6 : Int32)), .val (.ref b1), .val (.int (3 : Int32))] [(.int (6 : Int32)), (.int (3 : Int32))])) _
    refine XS.icmpNo X20.here hx rfl (hb hby d1_8) rfl (tlt (by decide : (3 : Int32) < (6 : Int32))).2.1 ?_
    show Steps p.tables e below (T20.setTop (mkF m 11 #[.val (.int (6 : Int32)), .val (.ref b1), .val (.int (3 : Int32))] [])) _
    refine XS.aloadN X20.here hx rfl (hb hby d1_11) rfl rfl ?_
    show Steps p.tables e below (T20.setTop (mkF m 12 #[.val (.int (6 : Int32)), .val (.ref b1), .val (.int (3 : Int32))] [(.ref b1)])) _
    refine XS.iloadN X20.here hx rfl (hb hby d1_12) rfl ?_
    show Steps p.tables e below (T20.setTop (mkF m 13 #[.val (.int (6 : Int32)), .val (.ref b1), .val (.int (3 : Int32))] [(.int (3 : Int32)), (.ref b1)])) _
    refine XS.iloadN X20.here hx rfl (hb hby d1_13) rfl ?_
    show Steps p.tables e below (T20.setTop (mkF m 14 #[.val (.int (6 : Int32)), .val (.ref b1), .val (.int (3 : Int32))] [(.int (3 : Int32)), (.int (3 : Int32)), (.ref b1)])) _
    refine st27 _ ?_
    show Steps p.tables e below (T27.setTop (mkF m 15 #[.val (.int (6 : Int32)), .val (.ref b1), .val (.int (3 : Int32))] [])) _
    refine XS.iinc X27.here hx rfl (hb hby d1_15) rfl (l' := #[.val (.int (6 : Int32)), .val (.ref b1), .val (.int (4 : Int32))]) rfl ?_
    show Steps p.tables e below (T27.setTop (mkF m 18 #[.val (.int (6 : Int32)), .val (.ref b1), .val (.int (4 : Int32))] [])) _
    refine XS.goto X27.here hx rfl (pc0 := 18) (pc' := 6) rfl (hb hby d1_18) (by decide) (by decide) ?_
    show Steps p.tables e below (T27.setTop (mkF m 6 #[.val (.int (6 : Int32)), .val (.ref b1), .val (.int (4 : Int32))] [])) _
    refine XS.iloadN X27.here hx rfl (hb hby d1_6) rfl ?_
    show Steps p.tables e below (T27.setTop (mkF m 7 #[.val (.int (6 : Int32)), .val (.ref b1), .val (.int (4 : Int32))] [(.int (4 : Int32))])) _
    refine XS.iloadN X27.here hx rfl (hb hby d1_7) rfl ?_
    show Steps p.tables e below (T27.setTop (mkF m 8 #[.val (.int (6 : Int32)), .val (.ref b1), .val (.int (4 : Int32))] [(.int (6 : Int32)), (.int (4 : Int32))])) _
    refine XS.icmpNo X27.here hx rfl (hb hby d1_8) rfl (tlt (by decide : (4 : Int32) < (6 : Int32))).2.1 ?_
    show Steps p.tables e below (T27.setTop (mkF m 11 #[.val (.int (6 : Int32)), .val (.ref b1), .val (.int (4 : Int32))] [])) _
    refine XS.aloadN X27.here hx rfl (hb hby d1_11) rfl rfl ?_
    show Steps p.tables e below (T27.setTop (mkF m 12 #[.val (.int (6 : Int32)), .val (.ref b1), .val (.int (4 : Int32))] [(.ref b1)])) _
    refine XS.iloadN X27.here hx rfl (hb hby d1_12) rfl ?_
    show Steps p.tables e below (T27.setTop (mkF m 13 #[.val (.int (6 : Int32)), .val (.ref b1), .val (.int (4 : Int32))] [(.int (4 : Int32)), (.ref b1)])) _
    refine XS.iloadN X27.here hx rfl (hb hby d1_13) rfl ?_
    show Steps p.tables e below (T27.setTop (mkF m 14 #[.val (.int (6 : Int32)), .val (.ref b1), .val (.int (4 : Int32))] [(.int (4 : Int32)), (.int (4 : Int32)), (.ref b1)])) _
    refine st34 _ ?_
    show Steps p.tables e below (T34.setTop (mkF m 15 #[.val (.int (6 : Int32)), .val (.ref b1), .val (.int (4 : Int32))] [])) _
    refine XS.iinc X34.here hx rfl (hb hby d1_15) rfl (l' := #[.val (.int (6 : Int32)), .val (.ref b1), .val (.int (5 : Int32))]) rfl ?_
    show Steps p.tables e below (T34.setTop (mkF m 18 #[.val (.int (6 : Int32)), .val (.ref b1), .val (.int (5 : Int32))] [])) _
    refine XS.goto X34.here hx rfl (pc0 := 18) (pc' := 6) rfl (hb hby d1_18) (by decide) (by decide) ?_
    show Steps p.tables e below (T34.setTop (mkF m 6 #[.val (.int (6 : Int32)), .val (.ref b1), .val (.int (5 : Int32))] [])) _
    refine XS.iloadN X34.here hx rfl (hb hby d1_6) rfl ?_
    show Steps p.tables e below (T34.setTop (mkF m 7 #[.val (.int (6 : Int32)), .val (.ref b1), .val (.int (5 : Int32))] [(.int (5 : Int32))])) _
    refine XS.iloadN X34.here hx rfl (hb hby d1_7) rfl ?_
    show Steps p.tables e below (T34.setTop (mkF m 8 #[.val (.int (6 : Int32)), .val (.ref b1), .val (.int (5 : Int32))] [(.int (6 : Int32)), (.int (5 : Int32))])) _
    refine XS.icmpNo X34.here hx rfl (hb hby d1_8) rfl (tlt (by decide : (5 : Int32) < (6 : Int32))).2.1 ?_
    show Steps p.tables e below (T34.setTop (mkF m 11 #[.val (.int (6 : Int32)), .val (.ref b1), .val (.int (5 : Int32))] [])) _
    refine XS.aloadN X34.here hx rfl (hb hby d1_11) rfl rfl ?_
    show Steps p.tables e below (T34.setTop (mkF m 12 #[.val (.int (6 : Int32)), .val (.ref b1), .val (.int (5 : Int32))] [(.ref b1)])) _
    refine XS.iloadN X34.here hx rfl (hb hby d1_12) rfl ?_
    show Steps p.tables e below (T34.setTop (mkF m 13 #[.val (.int (6 : Int32)), .val (.ref b1), .val (.int (5 : Int32))] [(.int (5 : Int32)), (.ref b1)])) _
    refine XS.iloadN X34.here hx rfl (hb hby d1_13) rfl ?_
    show Steps p.tables e below (T34.setTop (mkF m 14 #[.val (.int (6 : Int32)), .val (.ref b1), .val (.int (5 : Int32))] [(.int (5 : Int32)), (.int (5 : Int32)), (.ref b1)])) _
    refine st41 _ ?_
    show Steps p.tables e below (T41.setTop (mkF m 15 #[.val (.int (6 : Int32)), .val (.ref b1), .val (.int (5 : Int32))] [])) _
    refine XS.iinc X41.here hx rfl (hb hby d1_15) rfl (l' := #[.val (.int (6 : Int32)), .val (.ref b1), .val (.int (6 : Int32))]) rfl ?_
    show Steps p.tables e below (T41.setTop (mkF m 18 #[.val (.int (6 : Int32)), .val (.ref b1), .val (.int (6 : Int32))] [])) _
    refine XS.goto X41.here hx rfl (pc0 := 18) (pc' := 6) rfl (hb hby d1_18) (by decide) (by decide) ?_
    show Steps p.tables e below (T41.setTop (mkF m 6 #[.val (.int (6 : Int32)), .val (.ref b1), .val (.int (6 : Int32))] [])) _
    refine XS.iloadN X41.here hx rfl (hb hby d1_6) rfl ?_
    show Steps p.tables e below (T41.setTop (mkF m 7 #[.val (.int (6 : Int32)), .val (.ref b1), .val (.int (6 : Int32))] [(.int (6 : Int32))])) _
    refine XS.iloadN X41.here hx rfl (hb hby d1_7) rfl ?_
    show Steps p.tables e below (T41.setTop (mkF m 8 #[.val (.int (6 : Int32)), .val (.ref b1), .val (.int (6 : Int32))] [(.int (6 : Int32)), (.int (6 : Int32))])) _
    refine XS.icmpYes X41.here hx rfl (pc0 := 8) (pc' := 21) rfl (hb hby d1_8) rfl (flt (by decide : ¬ ((6 : Int32) < (6 : Int32)))).2.1 (by decide) (by decide) ?_
    show Steps p.tables e below (T41.setTop (mkF m 21 #[.val (.int (6 : Int32)), .val (.ref b1), .val (.int (6 : Int32))] [])) _
    refine XS.aloadN X41.here hx rfl (hb hby d1_21) rfl rfl ?_
    show Steps p.tables e below (T41.setTop (mkF m 22 #[.val (.int (6 : Int32)), .val (.ref b1), .val (.int (6 : Int32))] [(.ref b1)])) _
    exact retOut X41 hx (t := (.array .int)) (i := .areturn) Bd.returns rfl (Or.inr (Or.inr (Or.inr (Or.inr ⟨rfl, rfl, rfl⟩)))) (hb hby d1_22) hr
  · show Q_pos6 Z  h0 n0 _ T41.heap _
    rw [e41]
    exact ⟨b1, k1, rfl, N45, g_b1, sz_b1, K44, f43, f47⟩
def Q_pos7 (Z : State)  (h0 : Heap) (n0 : Nat) (v : Option Value) (h : Heap) (L : List Loc) : Prop := ∃ (o1 : Addr), ∃ (ko1 : ClassId), v = some (.ref o1) ∧ Fr n0 L ∧ n0 ≤ o1 ∧ h0.size ≤ o1 ∧ Keep h0 h [] ∧ Exa Z h o1 "[I" ∧ Arv Z h o1 ko1 .int (7 : Int32) own_ids (.int (0 : Int32))
set_option maxRecDepth 65536 in
set_option maxHeartbeats 40000000 in
theorem rm_pos7 (l : Launch) (Z : State) (a0 : Array Value) (hw : ∀ d ∈ tables_1, d.before a0 Z = true) (ws : List Jvm.Cond)  (h0 : Heap) (n0 : Nat) (Z0 : n0 ≤ h0.size) :
    MetFree l (⟨"com/example/trawl/trawl/gen/FisherYates", "positions", "(I)[I"⟩ : MethodName) (head1 (Jvm.Cond.code (⟨"com/example/trawl/trawl/gen/FisherYates", "positions", "(I)[I"⟩ : MethodName) prog_1_method_2_code 3 (some (.array .int)) :: ws) ({ frames := 0, cells := 1, slots := 16, locals := 0 } : Room)) (fun a U => a = #[(.int (7 : Int32))] ∧ Z.Warmed39 U.vm ∧ U.heap = h0) (fun _ _ _ _ _ => True) (fun _ U o U' => ∃ v L, o = .returned v ∧ Q_pos7 Z  h0 n0 v U'.heap L ∧ FrameEnd U o U' L ({ frames := 0, cells := 1, slots := 16, locals := 0 } : Room).cells ({ frames := 0, cells := 1, slots := 16, locals := 0 } : Room).slots) := by
  refine MetFree.of_bodySF (plainFor_of_name pn_com_example_trawl_trawl_gen_FisherYates) hisR ?_
  intro p e s m args below meth c s₁ Bd hml0 hP hK
  obtain ⟨rfl, hZ, hh⟩ := hP
  have hx := Bd.exec
  have hby := Bd.bytes
  have hml : c.maxLocals = 3 := hml0
  have hown : s.vm.findClass "com/example/trawl/trawl/gen/FisherYates" = some m.cls := findClass_of_methodNamed Bd.named
  have hnm := (name_of_methodNamed Bd.named Bd.method).1
  have X0 : Stand p l e ({ frames := 0, cells := 1, slots := 16, locals := 0 } : Room) s m #[(.int (7 : Int32))] below meth c s₁ [] 0 0 := Stand.of_body Bd
  have e0 : s₁.heap = h0 := by rw [← hh, Bd.state]; rfl
  have N0 := Fr.nil n0
  have pre0 : ∀ t, Steps p.tables e below (s₁.setTop (mkF m 0 #[.val (.int (7 : Int32)), .unset, .unset] [])) t → Steps p.tables e below (s₁.setTop (entryFrame m #[(.int (7 : Int32))] 3)) t := fun t k => castTop (ef_1_I m (7 : Int32)) k
  obtain ⟨T1, h1, k1, X1, e1, E1, A1, Ex1, st1⟩ := newPE X0 hx hZ (hw _ (List.mem_of_getElem? (i := 4) rfl)) e0 (g := (mkF m 1 #[.val (.int (7 : Int32)), .unset, .unset] [(.int (7 : Int32))])) rfl (hb hby d1_1) rfl (by decide) (cap := 7) (by decide) (by decide) (by decide) (by decide) (ad := "[I") (by decide)
  obtain ⟨b1, g1⟩ : ∃ z, z = h0.size := ⟨_, rfl⟩
  rw [← g1] at A1 Ex1 st1
  have g_b1 : n0 ≤ b1 := Nat.le_trans Z0 (Nat.le_of_eq g1.symm)
  have sz_b1 : h0.size ≤ b1 := Nat.le_trans (Keep.refl h0 []).1 (Nat.le_of_eq g1.symm)
  have K2 : Keep h0 h1 [] := (Keep.refl h0 []).ext E1
  have Zs3 : n0 ≤ h1.size := Nat.le_trans Z0 E1.1
  have f4 : Arv Z h1 b1 k1 .int (7 : Int32) [(.int (0 : Int32)), (.int (0 : Int32)), (.int (0 : Int32)), (.int (0 : Int32)), (.int (0 : Int32)), (.int (0 : Int32)), (.int (0 : Int32))] (.int (0 : Int32)) := (Arv.new A1 (by decide)).pad (pad_rep [] (.int (0 : Int32)) 7)
  obtain ⟨clo5, Aro5, qo5, So5, No5, Ho5, Go5⟩ := id f4
  have hino5 : ¬ ((0 : Int32) < 0 ∨ clo5.slots.size ≤ ((0 : Int32)).toNatClampNeg) := inb_of So5 ⟨by decide, by decide⟩
  obtain ⟨T6, h6, X6, e6, W6, st6⟩ := stI X1 hx hZ e1 Aro5 (j := (0 : Int32)) hino5 (g := (mkF m 14 #[.val (.int (7 : Int32)), .val (.ref b1), .val (.int (0 : Int32))] [(.int (0 : Int32)), (.int (0 : Int32)), (.ref b1)])) rfl rfl (hb hby d1_14)
  have f7 : Arv Z h6 b1 k1 .int (7 : Int32) [(.int (0 : Int32)), (.int (0 : Int32)), (.int (0 : Int32)), (.int (0 : Int32)), (.int (0 : Int32)), (.int (0 : Int32)), (.int (0 : Int32))] (.int (0 : Int32)) := Arv.set Aro5 qo5 So5 No5 Ho5 Go5 rfl W6 0 rfl (by decide)
  have f8 : Exa Z h6 b1 "[I" := Ex1.wr W6
  have K9 : Keep h0 h6 [] := K2.wr W6 (Or.inr sz_b1)
  have N10 := Fr.snoc X6 N0 g_b1
  have Zs11 : n0 ≤ h6.size := Nat.le_trans Zs3 (Keep.of_wr W6).1
  obtain ⟨clo12, Aro12, qo12, So12, No12, Ho12, Go12⟩ := id f7
  have hino12 : ¬ ((1 : Int32) < 0 ∨ clo12.slots.size ≤ ((1 : Int32)).toNatClampNeg) := inb_of So12 ⟨by decide, by decide⟩
  obtain ⟨T13, h13, X13, e13, W13, st13⟩ := stI X6 hx hZ e6 Aro12 (j := (1 : Int32)) hino12 (g := (mkF m 14 #[.val (.int (7 : Int32)), .val (.ref b1), .val (.int (1 : Int32))] [(.int (1 : Int32)), (.int (1 : Int32)), (.ref b1)])) rfl rfl (hb hby d1_14)
  have f14 : Arv Z h13 b1 k1 .int (7 : Int32) [(.int (0 : Int32)), (.int (1 : Int32)), (.int (0 : Int32)), (.int (0 : Int32)), (.int (0 : Int32)), (.int (0 : Int32)), (.int (0 : Int32))] (.int (0 : Int32)) := Arv.set Aro12 qo12 So12 No12 Ho12 Go12 rfl W13 1 rfl (by decide)
  have f15 : Exa Z h13 b1 "[I" := f8.wr W13
  have K16 : Keep h0 h13 [] := K9.wr W13 (Or.inr sz_b1)
  have N17 := Fr.snoc X13 N10 g_b1
  have Zs18 : n0 ≤ h13.size := Nat.le_trans Zs11 (Keep.of_wr W13).1
  obtain ⟨clo19, Aro19, qo19, So19, No19, Ho19, Go19⟩ := id f14
  have hino19 : ¬ ((2 : Int32) < 0 ∨ clo19.slots.size ≤ ((2 : Int32)).toNatClampNeg) := inb_of So19 ⟨by decide, by decide⟩
  obtain ⟨T20, h20, X20, e20, W20, st20⟩ := stI X13 hx hZ e13 Aro19 (j := (2 : Int32)) hino19 (g := (mkF m 14 #[.val (.int (7 : Int32)), .val (.ref b1), .val (.int (2 : Int32))] [(.int (2 : Int32)), (.int (2 : Int32)), (.ref b1)])) rfl rfl (hb hby d1_14)
  have f21 : Arv Z h20 b1 k1 .int (7 : Int32) [(.int (0 : Int32)), (.int (1 : Int32)), (.int (2 : Int32)), (.int (0 : Int32)), (.int (0 : Int32)), (.int (0 : Int32)), (.int (0 : Int32))] (.int (0 : Int32)) := Arv.set Aro19 qo19 So19 No19 Ho19 Go19 rfl W20 2 rfl (by decide)
  have f22 : Exa Z h20 b1 "[I" := f15.wr W20
  have K23 : Keep h0 h20 [] := K16.wr W20 (Or.inr sz_b1)
  have N24 := Fr.snoc X20 N17 g_b1
  have Zs25 : n0 ≤ h20.size := Nat.le_trans Zs18 (Keep.of_wr W20).1
  obtain ⟨clo26, Aro26, qo26, So26, No26, Ho26, Go26⟩ := id f21
  have hino26 : ¬ ((3 : Int32) < 0 ∨ clo26.slots.size ≤ ((3 : Int32)).toNatClampNeg) := inb_of So26 ⟨by decide, by decide⟩
  obtain ⟨T27, h27, X27, e27, W27, st27⟩ := stI X20 hx hZ e20 Aro26 (j := (3 : Int32)) hino26 (g := (mkF m 14 #[.val (.int (7 : Int32)), .val (.ref b1), .val (.int (3 : Int32))] [(.int (3 : Int32)), (.int (3 : Int32)), (.ref b1)])) rfl rfl (hb hby d1_14)
  have f28 : Arv Z h27 b1 k1 .int (7 : Int32) [(.int (0 : Int32)), (.int (1 : Int32)), (.int (2 : Int32)), (.int (3 : Int32)), (.int (0 : Int32)), (.int (0 : Int32)), (.int (0 : Int32))] (.int (0 : Int32)) := Arv.set Aro26 qo26 So26 No26 Ho26 Go26 rfl W27 3 rfl (by decide)
  have f29 : Exa Z h27 b1 "[I" := f22.wr W27
  have K30 : Keep h0 h27 [] := K23.wr W27 (Or.inr sz_b1)
  have N31 := Fr.snoc X27 N24 g_b1
  have Zs32 : n0 ≤ h27.size := Nat.le_trans Zs25 (Keep.of_wr W27).1
  obtain ⟨clo33, Aro33, qo33, So33, No33, Ho33, Go33⟩ := id f28
  have hino33 : ¬ ((4 : Int32) < 0 ∨ clo33.slots.size ≤ ((4 : Int32)).toNatClampNeg) := inb_of So33 ⟨by decide, by decide⟩
  obtain ⟨T34, h34, X34, e34, W34, st34⟩ := stI X27 hx hZ e27 Aro33 (j := (4 : Int32)) hino33 (g := (mkF m 14 #[.val (.int (7 : Int32)), .val (.ref b1), .val (.int (4 : Int32))] [(.int (4 : Int32)), (.int (4 : Int32)), (.ref b1)])) rfl rfl (hb hby d1_14)
  have f35 : Arv Z h34 b1 k1 .int (7 : Int32) [(.int (0 : Int32)), (.int (1 : Int32)), (.int (2 : Int32)), (.int (3 : Int32)), (.int (4 : Int32)), (.int (0 : Int32)), (.int (0 : Int32))] (.int (0 : Int32)) := Arv.set Aro33 qo33 So33 No33 Ho33 Go33 rfl W34 4 rfl (by decide)
  have f36 : Exa Z h34 b1 "[I" := f29.wr W34
  have K37 : Keep h0 h34 [] := K30.wr W34 (Or.inr sz_b1)
  have N38 := Fr.snoc X34 N31 g_b1
  have Zs39 : n0 ≤ h34.size := Nat.le_trans Zs32 (Keep.of_wr W34).1
  obtain ⟨clo40, Aro40, qo40, So40, No40, Ho40, Go40⟩ := id f35
  have hino40 : ¬ ((5 : Int32) < 0 ∨ clo40.slots.size ≤ ((5 : Int32)).toNatClampNeg) := inb_of So40 ⟨by decide, by decide⟩
  obtain ⟨T41, h41, X41, e41, W41, st41⟩ := stI X34 hx hZ e34 Aro40 (j := (5 : Int32)) hino40 (g := (mkF m 14 #[.val (.int (7 : Int32)), .val (.ref b1), .val (.int (5 : Int32))] [(.int (5 : Int32)), (.int (5 : Int32)), (.ref b1)])) rfl rfl (hb hby d1_14)
  have f42 : Arv Z h41 b1 k1 .int (7 : Int32) [(.int (0 : Int32)), (.int (1 : Int32)), (.int (2 : Int32)), (.int (3 : Int32)), (.int (4 : Int32)), (.int (5 : Int32)), (.int (0 : Int32))] (.int (0 : Int32)) := Arv.set Aro40 qo40 So40 No40 Ho40 Go40 rfl W41 5 rfl (by decide)
  have f43 : Exa Z h41 b1 "[I" := f36.wr W41
  have K44 : Keep h0 h41 [] := K37.wr W41 (Or.inr sz_b1)
  have N45 := Fr.snoc X41 N38 g_b1
  have Zs46 : n0 ≤ h41.size := Nat.le_trans Zs39 (Keep.of_wr W41).1
  obtain ⟨clo47, Aro47, qo47, So47, No47, Ho47, Go47⟩ := id f42
  have hino47 : ¬ ((6 : Int32) < 0 ∨ clo47.slots.size ≤ ((6 : Int32)).toNatClampNeg) := inb_of So47 ⟨by decide, by decide⟩
  obtain ⟨T48, h48, X48, e48, W48, st48⟩ := stI X41 hx hZ e41 Aro47 (j := (6 : Int32)) hino47 (g := (mkF m 14 #[.val (.int (7 : Int32)), .val (.ref b1), .val (.int (6 : Int32))] [(.int (6 : Int32)), (.int (6 : Int32)), (.ref b1)])) rfl rfl (hb hby d1_14)
  have f49 : Arv Z h48 b1 k1 .int (7 : Int32) [(.int (0 : Int32)), (.int (1 : Int32)), (.int (2 : Int32)), (.int (3 : Int32)), (.int (4 : Int32)), (.int (5 : Int32)), (.int (6 : Int32))] (.int (0 : Int32)) := Arv.set Aro47 qo47 So47 No47 Ho47 Go47 rfl W48 6 rfl (by decide)
  have f50 : Exa Z h48 b1 "[I" := f43.wr W48
  have K51 : Keep h0 h48 [] := K44.wr W48 (Or.inr sz_b1)
  have N52 := Fr.snoc X48 N45 g_b1
  have Zs53 : n0 ≤ h48.size := Nat.le_trans Zs46 (Keep.of_wr W48).1
  have f54 : Arv Z h48 b1 k1 .int (7 : Int32) own_ids (.int (0 : Int32)) := own_conv f49 (by decide)
  obtain ⟨fs, hr, hrun, hended, hW, hsame⟩ := X48.leave (v := some (.ref b1)) (fun h => by rw [Bd.returns] at h; cases h) Bd.notSynchronized
  refine ⟨_, _, pre0 _ ?_, hrun, hended, _, _, rfl, ?_, ⟨_, rfl⟩, hW, hsame.mono (by decide) (by decide)⟩
  · show Steps p.tables e below (s₁.setTop (mkF m 0 #[.val (.int (7 : Int32)), .unset, .unset] [])) _
    refine XS.iloadN X0.here hx rfl (hb hby d1_0) rfl ?_
    show Steps p.tables e below (s₁.setTop (mkF m 1 #[.val (.int (7 : Int32)), .unset, .unset] [(.int (7 : Int32))])) _
    refine st1 _ ?_
    show Steps p.tables e below (T1.setTop (mkF m 3 #[.val (.int (7 : Int32)), .unset, .unset] [(.ref b1)])) _
    refine XS.astoreN X1.here hx rfl (hb hby d1_3) rfl rfl (l' := #[.val (.int (7 : Int32)), .val (.ref b1), .unset]) rfl ?_
    show Steps p.tables e below (T1.setTop (mkF m 4 #[.val (.int (7 : Int32)), .val (.ref b1), .unset] [])) _
    refine XS.iconst X1.here hx rfl (hb hby d1_4) ?_
    show Steps p.tables e below (T1.setTop (mkF m 5 #[.val (.int (7 : Int32)), .val (.ref b1), .unset] [(.int (0 : Int32))])) _
    refine XS.istoreN X1.here hx rfl (hb hby d1_5) rfl (l' := #[.val (.int (7 : Int32)), .val (.ref b1), .val (.int (0 : Int32))]) rfl ?_
    show Steps p.tables e below (T1.setTop (mkF m 6 #[.val (.int (7 : Int32)), .val (.ref b1), .val (.int (0 : Int32))] [])) _
    refine XS.iloadN X1.here hx rfl (hb hby d1_6) rfl ?_
    show Steps p.tables e below (T1.setTop (mkF m 7 #[.val (.int (7 : Int32)), .val (.ref b1), .val (.int (0 : Int32))] [(.int (0 : Int32))])) _
    refine XS.iloadN X1.here hx rfl (hb hby d1_7) rfl ?_
    show Steps p.tables e below (T1.setTop (mkF m 8 #[.val (.int (7 : Int32)), .val (.ref b1), .val (.int (0 : Int32))] [(.int (7 : Int32)), (.int (0 : Int32))])) _
    refine XS.icmpNo X1.here hx rfl (hb hby d1_8) rfl (tlt (by decide : (0 : Int32) < (7 : Int32))).2.1 ?_
    show Steps p.tables e below (T1.setTop (mkF m 11 #[.val (.int (7 : Int32)), .val (.ref b1), .val (.int (0 : Int32))] [])) _
    refine XS.aloadN X1.here hx rfl (hb hby d1_11) rfl rfl ?_
    show Steps p.tables e below (T1.setTop (mkF m 12 #[.val (.int (7 : Int32)), .val (.ref b1), .val (.int (0 : Int32))] [(.ref b1)])) _
    refine XS.iloadN X1.here hx rfl (hb hby d1_12) rfl ?_
    show Steps p.tables e below (T1.setTop (mkF m 13 #[.val (.int (7 : Int32)), .val (.ref b1), .val (.int (0 : Int32))] [(.int (0 : Int32)), (.ref b1)])) _
    refine XS.iloadN X1.here hx rfl (hb hby d1_13) rfl ?_
    show Steps p.tables e below (T1.setTop (mkF m 14 #[.val (.int (7 : Int32)), .val (.ref b1), .val (.int (0 : Int32))] [(.int (0 : Int32)), (.int (0 : Int32)), (.ref b1)])) _
    refine st6 _ ?_
    show Steps p.tables e below (T6.setTop (mkF m 15 #[.val (.int (7 : Int32)), .val (.ref b1), .val (.int (0 : Int32))] [])) _
    refine XS.iinc X6.here hx rfl (hb hby d1_15) rfl (l' := #[.val (.int (7 : Int32)), .val (.ref b1), .val (.int (1 : Int32))]) rfl ?_
    show Steps p.tables e below (T6.setTop (mkF m 18 #[.val (.int (7 : Int32)), .val (.ref b1), .val (.int (1 : Int32))] [])) _
    refine XS.goto X6.here hx rfl (pc0 := 18) (pc' := 6) rfl (hb hby d1_18) (by decide) (by decide) ?_
    show Steps p.tables e below (T6.setTop (mkF m 6 #[.val (.int (7 : Int32)), .val (.ref b1), .val (.int (1 : Int32))] [])) _
    refine XS.iloadN X6.here hx rfl (hb hby d1_6) rfl ?_
    show Steps p.tables e below (T6.setTop (mkF m 7 #[.val (.int (7 : Int32)), .val (.ref b1), .val (.int (1 : Int32))] [(.int (1 : Int32))])) _
    refine XS.iloadN X6.here hx rfl (hb hby d1_7) rfl ?_
    show Steps p.tables e below (T6.setTop (mkF m 8 #[.val (.int (7 : Int32)), .val (.ref b1), .val (.int (1 : Int32))] [(.int (7 : Int32)), (.int (1 : Int32))])) _
    refine XS.icmpNo X6.here hx rfl (hb hby d1_8) rfl (tlt (by decide : (1 : Int32) < (7 : Int32))).2.1 ?_
    show Steps p.tables e below (T6.setTop (mkF m 11 #[.val (.int (7 : Int32)), .val (.ref b1), .val (.int (1 : Int32))] [])) _
    refine XS.aloadN X6.here hx rfl (hb hby d1_11) rfl rfl ?_
    show Steps p.tables e below (T6.setTop (mkF m 12 #[.val (.int (7 : Int32)), .val (.ref b1), .val (.int (1 : Int32))] [(.ref b1)])) _
    refine XS.iloadN X6.here hx rfl (hb hby d1_12) rfl ?_
    show Steps p.tables e below (T6.setTop (mkF m 13 #[.val (.int (7 : Int32)), .val (.ref b1), .val (.int (1 : Int32))] [(.int (1 : Int32)), (.ref b1)])) _
    refine XS.iloadN X6.here hx rfl (hb hby d1_13) rfl ?_
    show Steps p.tables e below (T6.setTop (mkF m 14 #[.val (.int (7 : Int32)), .val (.ref b1), .val (.int (1 : Int32))] [(.int (1 : Int32)), (.int (1 : Int32)), (.ref b1)])) _
    refine st13 _ ?_
    show Steps p.tables e below (T13.setTop (mkF m 15 #[.val (.int (7 : Int32)), .val (.ref b1), .val (.int (1 : Int32))] [])) _
    refine XS.iinc X13.here hx rfl (hb hby d1_15) rfl (l' := #[.val (.int (7 : Int32)), .val (.ref b1), .val (.int (2 : Int32))]) rfl ?_
    show Steps p.tables e below (T13.setTop (mkF m 18 #[.val (.int (7 : Int32)), .val (.ref b1), .val (.int (2 : Int32))] [])) _
    refine XS.goto X13.here hx rfl (pc0 := 18) (pc' := 6) rfl (hb hby d1_18) (by decide) (by decide) ?_
    show Steps p.tables e below (T13.setTop (mkF m 6 #[.val (.int (7 : Int32)), .val (.ref b1), .val (.int (2 : Int32))] [])) _
    refine XS.iloadN X13.here hx rfl (hb hby d1_6) rfl ?_
    show Steps p.tables e below (T13.setTop (mkF m 7 #[.val (.int (7 : Int32)), .val (.ref b1), .val (.int (2 : Int32))] [(.int (2 : Int32))])) _
    refine XS.iloadN X13.here hx rfl (hb hby d1_7) rfl ?_
    show Steps p.tables e below (T13.setTop (mkF m 8 #[.val (.int (7 : Int32)), .val (.ref b1), .val (.int (2 : Int32))] [(.int (7 : Int32)), (.int (2 : Int32))])) _
    refine XS.icmpNo X13.here hx rfl (hb hby d1_8) rfl (tlt (by decide : (2 : Int32) < (7 : Int32))).2.1 ?_
    show Steps p.tables e below (T13.setTop (mkF m 11 #[.val (.int (7 : Int32)), .val (.ref b1), .val (.int (2 : Int32))] [])) _
    refine XS.aloadN X13.here hx rfl (hb hby d1_11) rfl rfl ?_
    show Steps p.tables e below (T13.setTop (mkF m 12 #[.val (.int (7 : Int32)), .val (.ref b1), .val (.int (2 : Int32))] [(.ref b1)])) _
    refine XS.iloadN X13.here hx rfl (hb hby d1_12) rfl ?_
    show Steps p.tables e below (T13.setTop (mkF m 13 #[.val (.int (7 : Int32)), .val (.ref b1), .val (.int (2 : Int32))] [(.int (2 : Int32)), (.ref b1)])) _
    refine XS.iloadN X13.here hx rfl (hb hby d1_13) rfl ?_
    show Steps p.tables e below (T13.setTop (mkF m 14 #[.val (.int (7 : Int32)), .val (.ref b1), .val (.int (2 : Int32))] [(.int (2 : Int32)), (.int (2 : Int32)), (.ref b1)])) _
    refine st20 _ ?_
    show Steps p.tables e below (T20.setTop (mkF m 15 #[.val (.int (7 : Int32)), .val (.ref b1), .val (.int (2 : Int32))] [])) _
    refine XS.iinc X20.here hx rfl (hb hby d1_15) rfl (l' := #[.val (.int (7 : Int32)), .val (.ref b1), .val (.int (3 : Int32))]) rfl ?_
    show Steps p.tables e below (T20.setTop (mkF m 18 #[.val (.int (7 : Int32)), .val (.ref b1), .val (.int (3 : Int32))] [])) _
    refine XS.goto X20.here hx rfl (pc0 := 18) (pc' := 6) rfl (hb hby d1_18) (by decide) (by decide) ?_
    show Steps p.tables e below (T20.setTop (mkF m 6 #[.val (.int (7 : Int32)), .val (.ref b1), .val (.int (3 : Int32))] [])) _
    refine XS.iloadN X20.here hx rfl (hb hby d1_6) rfl ?_
    show Steps p.tables e below (T20.setTop (mkF m 7 #[.val (.int (7 : Int32)), .val (.ref b1), .val (.int (3 : Int32))] [(.int (3 : Int32))])) _
    refine XS.iloadN X20.here hx rfl (hb hby d1_7) rfl ?_
    show Steps p.tables e below (T20.setTop (mkF m 8 #[.val (.int (7 : Int32)), .val (.ref b1), .val (.int (3 : Int32))] [(.int (7 : Int32)), (.int (3 : Int32))])) _
    refine XS.icmpNo X20.here hx rfl (hb hby d1_8) rfl (tlt (by decide : (3 : Int32) < (7 : Int32))).2.1 ?_
    show Steps p.tables e below (T20.setTop (mkF m 11 #[.val (.int (7 : Int32)), .val (.ref b1), .val (.int (3 : Int32))] [])) _
    refine XS.aloadN X20.here hx rfl (hb hby d1_11) rfl rfl ?_
    show Steps p.tables e below (T20.setTop (mkF m 12 #[.val (.int (7 : Int32)), .val (.ref b1), .val (.int (3 : Int32))] [(.ref b1)])) _
    refine XS.iloadN X20.here hx rfl (hb hby d1_12) rfl ?_
    show Steps p.tables e below (T20.setTop (mkF m 13 #[.val (.int (7 : Int32)), .val (.ref b1), .val (.int (3 : Int32))] [(.int (3 : Int32)), (.ref b1)])) _
    refine XS.iloadN X20.here hx rfl (hb hby d1_13) rfl ?_
    show Steps p.tables e below (T20.setTop (mkF m 14 #[.val (.int (7 : Int32)), .val (.ref b1), .val (.int (3 : Int32))] [(.int (3 : Int32)), (.int (3 : Int32)), (.ref b1)])) _
    refine st27 _ ?_
    show Steps p.tables e below (T27.setTop (mkF m 15 #[.val (.int (7 : Int32)), .val (.ref b1), .val (.int (3 : Int32))] [])) _
    refine XS.iinc X27.here hx rfl (hb hby d1_15) rfl (l' := #[.val (.int (7 : Int32)), .val (.ref b1), .val (.int (4 : Int32))]) rfl ?_
    show Steps p.tables e below (T27.setTop (mkF m 18 #[.val (.int (7 : Int32)), .val (.ref b1), .val (.int (4 : Int32))] [])) _
    refine XS.goto X27.here hx rfl (pc0 := 18) (pc' := 6) rfl (hb hby d1_18) (by decide) (by decide) ?_
    show Steps p.tables e below (T27.setTop (mkF m 6 #[.val (.int (7 : Int32)), .val (.ref b1), .val (.int (4 : Int32))] [])) _
    refine XS.iloadN X27.here hx rfl (hb hby d1_6) rfl ?_
    show Steps p.tables e below (T27.setTop (mkF m 7 #[.val (.int (7 : Int32)), .val (.ref b1), .val (.int (4 : Int32))] [(.int (4 : Int32))])) _
    refine XS.iloadN X27.here hx rfl (hb hby d1_7) rfl ?_
    show Steps p.tables e below (T27.setTop (mkF m 8 #[.val (.int (7 : Int32)), .val (.ref b1), .val (.int (4 : Int32))] [(.int (7 : Int32)), (.int (4 : Int32))])) _
    refine XS.icmpNo X27.here hx rfl (hb hby d1_8) rfl (tlt (by decide : (4 : Int32) < (7 : Int32))).2.1 ?_
    show Steps p.tables e below (T27.setTop (mkF m 11 #[.val (.int (7 : Int32)), .val (.ref b1), .val (.int (4 : Int32))] [])) _
    refine XS.aloadN X27.here hx rfl (hb hby d1_11) rfl rfl ?_
    show Steps p.tables e below (T27.setTop (mkF m 12 #[.val (.int (7 : Int32)), .val (.ref b1), .val (.int (4 : Int32))] [(.ref b1)])) _
    refine XS.iloadN X27.here hx rfl (hb hby d1_12) rfl ?_
    show Steps p.tables e below (T27.setTop (mkF m 13 #[.val (.int (7 : Int32)), .val (.ref b1), .val (.int (4 : Int32))] [(.int (4 : Int32)), (.ref b1)])) _
    refine XS.iloadN X27.here hx rfl (hb hby d1_13) rfl ?_
    show Steps p.tables e below (T27.setTop (mkF m 14 #[.val (.int (7 : Int32)), .val (.ref b1), .val (.int (4 : Int32))] [(.int (4 : Int32)), (.int (4 : Int32)), (.ref b1)])) _
    refine st34 _ ?_
    show Steps p.tables e below (T34.setTop (mkF m 15 #[.val (.int (7 : Int32)), .val (.ref b1), .val (.int (4 : Int32))] [])) _
    refine XS.iinc X34.here hx rfl (hb hby d1_15) rfl (l' := #[.val (.int (7 : Int32)), .val (.ref b1), .val (.int (5 : Int32))]) rfl ?_
    show Steps p.tables e below (T34.setTop (mkF m 18 #[.val (.int (7 : Int32)), .val (.ref b1), .val (.int (5 : Int32))] [])) _
    refine XS.goto X34.here hx rfl (pc0 := 18) (pc' := 6) rfl (hb hby d1_18) (by decide) (by decide) ?_
    show Steps p.tables e below (T34.setTop (mkF m 6 #[.val (.int (7 : Int32)), .val (.ref b1), .val (.int (5 : Int32))] [])) _
    refine XS.iloadN X34.here hx rfl (hb hby d1_6) rfl ?_
    show Steps p.tables e below (T34.setTop (mkF m 7 #[.val (.int (7 : Int32)), .val (.ref b1), .val (.int (5 : Int32))] [(.int (5 : Int32))])) _
    refine XS.iloadN X34.here hx rfl (hb hby d1_7) rfl ?_
    show Steps p.tables e below (T34.setTop (mkF m 8 #[.val (.int (7 : Int32)), .val (.ref b1), .val (.int (5 : Int32))] [(.int (7 : Int32)), (.int (5 : Int32))])) _
    refine XS.icmpNo X34.here hx rfl (hb hby d1_8) rfl (tlt (by decide : (5 : Int32) < (7 : Int32))).2.1 ?_
    show Steps p.tables e below (T34.setTop (mkF m 11 #[.val (.int (7 : Int32)), .val (.ref b1), .val (.int (5 : Int32))] [])) _
    refine XS.aloadN X34.here hx rfl (hb hby d1_11) rfl rfl ?_
    show Steps p.tables e below (T34.setTop (mkF m 12 #[.val (.int (7 : Int32)), .val (.ref b1), .val (.int (5 : Int32))] [(.ref b1)])) _
    refine XS.iloadN X34.here hx rfl (hb hby d1_12) rfl ?_
    show Steps p.tables e below (T34.setTop (mkF m 13 #[.val (.int (7 : Int32)), .val (.ref b1), .val (.int (5 : Int32))] [(.int (5 : Int32)), (.ref b1)])) _
    refine XS.iloadN X34.here hx rfl (hb hby d1_13) rfl ?_
    show Steps p.tables e below (T34.setTop (mkF m 14 #[.val (.int (7 : Int32)), .val (.ref b1), .val (.int (5 : Int32))] [(.int (5 : Int32)), (.int (5 : Int32)), (.ref b1)])) _
    refine st41 _ ?_
    show Steps p.tables e below (T41.setTop (mkF m 15 #[.val (.int (7 : Int32)), .val (.ref b1), .val (.int (5 : Int32))] [])) _
    refine XS.iinc X41.here hx rfl (hb hby d1_15) rfl (l' := #[.val (.int (7 : Int32)), .val (.ref b1), .val (.int (6 : Int32))]) rfl ?_
    show Steps p.tables e below (T41.setTop (mkF m 18 #[.val (.int (7 : Int32)), .val (.ref b1), .val (.int (6 : Int32))] [])) _
    refine XS.goto X41.here hx rfl (pc0 := 18) (pc' := 6) rfl (hb hby d1_18) (by decide) (by decide) ?_
    show Steps p.tables e below (T41.setTop (mkF m 6 #[.val (.int (7 : Int32)), .val (.ref b1), .val (.int (6 : Int32))] [])) _
    refine XS.iloadN X41.here hx rfl (hb hby d1_6) rfl ?_
    show Steps p.tables e below (T41.setTop (mkF m 7 #[.val (.int (7 : Int32)), .val (.ref b1), .val (.int (6 : Int32))] [(.int (6 : Int32))])) _
    refine XS.iloadN X41.here hx rfl (hb hby d1_7) rfl ?_
    show Steps p.tables e below (T41.setTop (mkF m 8 #[.val (.int (7 : Int32)), .val (.ref b1), .val (.int (6 : Int32))] [(.int (7 : Int32)), (.int (6 : Int32))])) _
    refine XS.icmpNo X41.here hx rfl (hb hby d1_8) rfl (tlt (by decide : (6 : Int32) < (7 : Int32))).2.1 ?_
    show Steps p.tables e below (T41.setTop (mkF m 11 #[.val (.int (7 : Int32)), .val (.ref b1), .val (.int (6 : Int32))] [])) _
    refine XS.aloadN X41.here hx rfl (hb hby d1_11) rfl rfl ?_
    show Steps p.tables e below (T41.setTop (mkF m 12 #[.val (.int (7 : Int32)), .val (.ref b1), .val (.int (6 : Int32))] [(.ref b1)])) _
    refine XS.iloadN X41.here hx rfl (hb hby d1_12) rfl ?_
    show Steps p.tables e below (T41.setTop (mkF m 13 #[.val (.int (7 : Int32)), .val (.ref b1), .val (.int (6 : Int32))] [(.int (6 : Int32)), (.ref b1)])) _
    refine XS.iloadN X41.here hx rfl (hb hby d1_13) rfl ?_
    show Steps p.tables e below (T41.setTop (mkF m 14 #[.val (.int (7 : Int32)), .val (.ref b1), .val (.int (6 : Int32))] [(.int (6 : Int32)), (.int (6 : Int32)), (.ref b1)])) _
    refine st48 _ ?_
    show Steps p.tables e below (T48.setTop (mkF m 15 #[.val (.int (7 : Int32)), .val (.ref b1), .val (.int (6 : Int32))] [])) _
    refine XS.iinc X48.here hx rfl (hb hby d1_15) rfl (l' := #[.val (.int (7 : Int32)), .val (.ref b1), .val (.int (7 : Int32))]) rfl ?_
    show Steps p.tables e below (T48.setTop (mkF m 18 #[.val (.int (7 : Int32)), .val (.ref b1), .val (.int (7 : Int32))] [])) _
    refine XS.goto X48.here hx rfl (pc0 := 18) (pc' := 6) rfl (hb hby d1_18) (by decide) (by decide) ?_
    show Steps p.tables e below (T48.setTop (mkF m 6 #[.val (.int (7 : Int32)), .val (.ref b1), .val (.int (7 : Int32))] [])) _
    refine XS.iloadN X48.here hx rfl (hb hby d1_6) rfl ?_
    show Steps p.tables e below (T48.setTop (mkF m 7 #[.val (.int (7 : Int32)), .val (.ref b1), .val (.int (7 : Int32))] [(.int (7 : Int32))])) _
    refine XS.iloadN X48.here hx rfl (hb hby d1_7) rfl ?_
    show Steps p.tables e below (T48.setTop (mkF m 8 #[.val (.int (7 : Int32)), .val (.ref b1), .val (.int (7 : Int32))] [(.int (7 : Int32)), (.int (7 : Int32))])) _
    refine XS.icmpYes X48.here hx rfl (pc0 := 8) (pc' := 21) rfl (hb hby d1_8) rfl (flt (by decide : ¬ ((7 : Int32) < (7 : Int32)))).2.1 (by decide) (by decide) ?_
    show Steps p.tables e below (T48.setTop (mkF m 21 #[.val (.int (7 : Int32)), .val (.ref b1), .val (.int (7 : Int32))] [])) _
    refine XS.aloadN X48.here hx rfl (hb hby d1_21) rfl rfl ?_
    show Steps p.tables e below (T48.setTop (mkF m 22 #[.val (.int (7 : Int32)), .val (.ref b1), .val (.int (7 : Int32))] [(.ref b1)])) _
    exact retOut X48 hx (t := (.array .int)) (i := .areturn) Bd.returns rfl (Or.inr (Or.inr (Or.inr (Or.inr ⟨rfl, rfl, rfl⟩)))) (hb hby d1_22) hr
  · show Q_pos7 Z  h0 n0 _ T48.heap _
    rw [e48]
    exact ⟨b1, k1, rfl, N52, g_b1, sz_b1, K51, f50, f54⟩
def Q_pos8 (Z : State)  (h0 : Heap) (n0 : Nat) (v : Option Value) (h : Heap) (L : List Loc) : Prop := ∃ (o1 : Addr), ∃ (ko1 : ClassId), v = some (.ref o1) ∧ Fr n0 L ∧ n0 ≤ o1 ∧ h0.size ≤ o1 ∧ Keep h0 h [] ∧ Exa Z h o1 "[I" ∧ Arv Z h o1 ko1 .int (8 : Int32) own_ids (.int (0 : Int32))
set_option maxRecDepth 65536 in
set_option maxHeartbeats 40000000 in
theorem rm_pos8 (l : Launch) (Z : State) (a0 : Array Value) (hw : ∀ d ∈ tables_1, d.before a0 Z = true) (ws : List Jvm.Cond)  (h0 : Heap) (n0 : Nat) (Z0 : n0 ≤ h0.size) :
    MetFree l (⟨"com/example/trawl/trawl/gen/FisherYates", "positions", "(I)[I"⟩ : MethodName) (head1 (Jvm.Cond.code (⟨"com/example/trawl/trawl/gen/FisherYates", "positions", "(I)[I"⟩ : MethodName) prog_1_method_2_code 3 (some (.array .int)) :: ws) ({ frames := 0, cells := 1, slots := 16, locals := 0 } : Room)) (fun a U => a = #[(.int (8 : Int32))] ∧ Z.Warmed39 U.vm ∧ U.heap = h0) (fun _ _ _ _ _ => True) (fun _ U o U' => ∃ v L, o = .returned v ∧ Q_pos8 Z  h0 n0 v U'.heap L ∧ FrameEnd U o U' L ({ frames := 0, cells := 1, slots := 16, locals := 0 } : Room).cells ({ frames := 0, cells := 1, slots := 16, locals := 0 } : Room).slots) := by
  refine MetFree.of_bodySF (plainFor_of_name pn_com_example_trawl_trawl_gen_FisherYates) hisR ?_
  intro p e s m args below meth c s₁ Bd hml0 hP hK
  obtain ⟨rfl, hZ, hh⟩ := hP
  have hx := Bd.exec
  have hby := Bd.bytes
  have hml : c.maxLocals = 3 := hml0
  have hown : s.vm.findClass "com/example/trawl/trawl/gen/FisherYates" = some m.cls := findClass_of_methodNamed Bd.named
  have hnm := (name_of_methodNamed Bd.named Bd.method).1
  have X0 : Stand p l e ({ frames := 0, cells := 1, slots := 16, locals := 0 } : Room) s m #[(.int (8 : Int32))] below meth c s₁ [] 0 0 := Stand.of_body Bd
  have e0 : s₁.heap = h0 := by rw [← hh, Bd.state]; rfl
  have N0 := Fr.nil n0
  have pre0 : ∀ t, Steps p.tables e below (s₁.setTop (mkF m 0 #[.val (.int (8 : Int32)), .unset, .unset] [])) t → Steps p.tables e below (s₁.setTop (entryFrame m #[(.int (8 : Int32))] 3)) t := fun t k => castTop (ef_1_I m (8 : Int32)) k
  obtain ⟨T1, h1, k1, X1, e1, E1, A1, Ex1, st1⟩ := newPE X0 hx hZ (hw _ (List.mem_of_getElem? (i := 4) rfl)) e0 (g := (mkF m 1 #[.val (.int (8 : Int32)), .unset, .unset] [(.int (8 : Int32))])) rfl (hb hby d1_1) rfl (by decide) (cap := 8) (by decide) (by decide) (by decide) (by decide) (ad := "[I") (by decide)
  obtain ⟨b1, g1⟩ : ∃ z, z = h0.size := ⟨_, rfl⟩
  rw [← g1] at A1 Ex1 st1
  have g_b1 : n0 ≤ b1 := Nat.le_trans Z0 (Nat.le_of_eq g1.symm)
  have sz_b1 : h0.size ≤ b1 := Nat.le_trans (Keep.refl h0 []).1 (Nat.le_of_eq g1.symm)
  have K2 : Keep h0 h1 [] := (Keep.refl h0 []).ext E1
  have Zs3 : n0 ≤ h1.size := Nat.le_trans Z0 E1.1
  have f4 : Arv Z h1 b1 k1 .int (8 : Int32) [(.int (0 : Int32)), (.int (0 : Int32)), (.int (0 : Int32)), (.int (0 : Int32)), (.int (0 : Int32)), (.int (0 : Int32)), (.int (0 : Int32)), (.int (0 : Int32))] (.int (0 : Int32)) := (Arv.new A1 (by decide)).pad (pad_rep [] (.int (0 : Int32)) 8)
  obtain ⟨clo5, Aro5, qo5, So5, No5, Ho5, Go5⟩ := id f4
  have hino5 : ¬ ((0 : Int32) < 0 ∨ clo5.slots.size ≤ ((0 : Int32)).toNatClampNeg) := inb_of So5 ⟨by decide, by decide⟩
  obtain ⟨T6, h6, X6, e6, W6, st6⟩ := stI X1 hx hZ e1 Aro5 (j := (0 : Int32)) hino5 (g := (mkF m 14 #[.val (.int (8 : Int32)), .val (.ref b1), .val (.int (0 : Int32))] [(.int (0 : Int32)), (.int (0 : Int32)), (.ref b1)])) rfl rfl (hb hby d1_14)
  have f7 : Arv Z h6 b1 k1 .int (8 : Int32) [(.int (0 : Int32)), (.int (0 : Int32)), (.int (0 : Int32)), (.int (0 : Int32)), (.int (0 : Int32)), (.int (0 : Int32)), (.int (0 : Int32)), (.int (0 : Int32))] (.int (0 : Int32)) := Arv.set Aro5 qo5 So5 No5 Ho5 Go5 rfl W6 0 rfl (by decide)
  have f8 : Exa Z h6 b1 "[I" := Ex1.wr W6
  have K9 : Keep h0 h6 [] := K2.wr W6 (Or.inr sz_b1)
  have N10 := Fr.snoc X6 N0 g_b1
  have Zs11 : n0 ≤ h6.size := Nat.le_trans Zs3 (Keep.of_wr W6).1
  obtain ⟨clo12, Aro12, qo12, So12, No12, Ho12, Go12⟩ := id f7
  have hino12 : ¬ ((1 : Int32) < 0 ∨ clo12.slots.size ≤ ((1 : Int32)).toNatClampNeg) := inb_of So12 ⟨by decide, by decide⟩
  obtain ⟨T13, h13, X13, e13, W13, st13⟩ := stI X6 hx hZ e6 Aro12 (j := (1 : Int32)) hino12 (g := (mkF m 14 #[.val (.int (8 : Int32)), .val (.ref b1), .val (.int (1 : Int32))] [(.int (1 : Int32)), (.int (1 : Int32)), (.ref b1)])) rfl rfl (hb hby d1_14)
  have f14 : Arv Z h13 b1 k1 .int (8 : Int32) [(.int (0 : Int32)), (.int (1 : Int32)), (.int (0 : Int32)), (.int (0 : Int32)), (.int (0 : Int32)), (.int (0 : Int32)), (.int (0 : Int32)), (.int (0 : Int32))] (.int (0 : Int32)) := Arv.set Aro12 qo12 So12 No12 Ho12 Go12 rfl W13 1 rfl (by decide)
  have f15 : Exa Z h13 b1 "[I" := f8.wr W13
  have K16 : Keep h0 h13 [] := K9.wr W13 (Or.inr sz_b1)
  have N17 := Fr.snoc X13 N10 g_b1
  have Zs18 : n0 ≤ h13.size := Nat.le_trans Zs11 (Keep.of_wr W13).1
  obtain ⟨clo19, Aro19, qo19, So19, No19, Ho19, Go19⟩ := id f14
  have hino19 : ¬ ((2 : Int32) < 0 ∨ clo19.slots.size ≤ ((2 : Int32)).toNatClampNeg) := inb_of So19 ⟨by decide, by decide⟩
  obtain ⟨T20, h20, X20, e20, W20, st20⟩ := stI X13 hx hZ e13 Aro19 (j := (2 : Int32)) hino19 (g := (mkF m 14 #[.val (.int (8 : Int32)), .val (.ref b1), .val (.int (2 : Int32))] [(.int (2 : Int32)), (.int (2 : Int32)), (.ref b1)])) rfl rfl (hb hby d1_14)
  have f21 : Arv Z h20 b1 k1 .int (8 : Int32) [(.int (0 : Int32)), (.int (1 : Int32)), (.int (2 : Int32)), (.int (0 : Int32)), (.int (0 : Int32)), (.int (0 : Int32)), (.int (0 : Int32)), (.int (0 : Int32))] (.int (0 : Int32)) := Arv.set Aro19 qo19 So19 No19 Ho19 Go19 rfl W20 2 rfl (by decide)
  have f22 : Exa Z h20 b1 "[I" := f15.wr W20
  have K23 : Keep h0 h20 [] := K16.wr W20 (Or.inr sz_b1)
  have N24 := Fr.snoc X20 N17 g_b1
  have Zs25 : n0 ≤ h20.size := Nat.le_trans Zs18 (Keep.of_wr W20).1
  obtain ⟨clo26, Aro26, qo26, So26, No26, Ho26, Go26⟩ := id f21
  have hino26 : ¬ ((3 : Int32) < 0 ∨ clo26.slots.size ≤ ((3 : Int32)).toNatClampNeg) := inb_of So26 ⟨by decide, by decide⟩
  obtain ⟨T27, h27, X27, e27, W27, st27⟩ := stI X20 hx hZ e20 Aro26 (j := (3 : Int32)) hino26 (g := (mkF m 14 #[.val (.int (8 : Int32)), .val (.ref b1), .val (.int (3 : Int32))] [(.int (3 : Int32)), (.int (3 : Int32)), (.ref b1)])) rfl rfl (hb hby d1_14)
  have f28 : Arv Z h27 b1 k1 .int (8 : Int32) [(.int (0 : Int32)), (.int (1 : Int32)), (.int (2 : Int32)), (.int (3 : Int32)), (.int (0 : Int32)), (.int (0 : Int32)), (.int (0 : Int32)), (.int (0 : Int32))] (.int (0 : Int32)) := Arv.set Aro26 qo26 So26 No26 Ho26 Go26 rfl W27 3 rfl (by decide)
  have f29 : Exa Z h27 b1 "[I" := f22.wr W27
  have K30 : Keep h0 h27 [] := K23.wr W27 (Or.inr sz_b1)
  have N31 := Fr.snoc X27 N24 g_b1
  have Zs32 : n0 ≤ h27.size := Nat.le_trans Zs25 (Keep.of_wr W27).1
  obtain ⟨clo33, Aro33, qo33, So33, No33, Ho33, Go33⟩ := id f28
  have hino33 : ¬ ((4 : Int32) < 0 ∨ clo33.slots.size ≤ ((4 : Int32)).toNatClampNeg) := inb_of So33 ⟨by decide, by decide⟩
  obtain ⟨T34, h34, X34, e34, W34, st34⟩ := stI X27 hx hZ e27 Aro33 (j := (4 : Int32)) hino33 (g := (mkF m 14 #[.val (.int (8 : Int32)), .val (.ref b1), .val (.int (4 : Int32))] [(.int (4 : Int32)), (.int (4 : Int32)), (.ref b1)])) rfl rfl (hb hby d1_14)
  have f35 : Arv Z h34 b1 k1 .int (8 : Int32) [(.int (0 : Int32)), (.int (1 : Int32)), (.int (2 : Int32)), (.int (3 : Int32)), (.int (4 : Int32)), (.int (0 : Int32)), (.int (0 : Int32)), (.int (0 : Int32))] (.int (0 : Int32)) := Arv.set Aro33 qo33 So33 No33 Ho33 Go33 rfl W34 4 rfl (by decide)
  have f36 : Exa Z h34 b1 "[I" := f29.wr W34
  have K37 : Keep h0 h34 [] := K30.wr W34 (Or.inr sz_b1)
  have N38 := Fr.snoc X34 N31 g_b1
  have Zs39 : n0 ≤ h34.size := Nat.le_trans Zs32 (Keep.of_wr W34).1
  obtain ⟨clo40, Aro40, qo40, So40, No40, Ho40, Go40⟩ := id f35
  have hino40 : ¬ ((5 : Int32) < 0 ∨ clo40.slots.size ≤ ((5 : Int32)).toNatClampNeg) := inb_of So40 ⟨by decide, by decide⟩
  obtain ⟨T41, h41, X41, e41, W41, st41⟩ := stI X34 hx hZ e34 Aro40 (j := (5 : Int32)) hino40 (g := (mkF m 14 #[.val (.int (8 : Int32)), .val (.ref b1), .val (.int (5 : Int32))] [(.int (5 : Int32)), (.int (5 : Int32)), (.ref b1)])) rfl rfl (hb hby d1_14)
  have f42 : Arv Z h41 b1 k1 .int (8 : Int32) [(.int (0 : Int32)), (.int (1 : Int32)), (.int (2 : Int32)), (.int (3 : Int32)), (.int (4 : Int32)), (.int (5 : Int32)), (.int (0 : Int32)), (.int (0 : Int32))] (.int (0 : Int32)) := Arv.set Aro40 qo40 So40 No40 Ho40 Go40 rfl W41 5 rfl (by decide)
  have f43 : Exa Z h41 b1 "[I" := f36.wr W41
  have K44 : Keep h0 h41 [] := K37.wr W41 (Or.inr sz_b1)
  have N45 := Fr.snoc X41 N38 g_b1
  have Zs46 : n0 ≤ h41.size := Nat.le_trans Zs39 (Keep.of_wr W41).1
  obtain ⟨clo47, Aro47, qo47, So47, No47, Ho47, Go47⟩ := id f42
  have hino47 : ¬ ((6 : Int32) < 0 ∨ clo47.slots.size ≤ ((6 : Int32)).toNatClampNeg) := inb_of So47 ⟨by decide, by decide⟩
  obtain ⟨T48, h48, X48, e48, W48, st48⟩ := stI X41 hx hZ e41 Aro47 (j := (6 : Int32)) hino47 (g := (mkF m 14 #[.val (.int (8 : Int32)), .val (.ref b1), .val (.int (6 : Int32))] [(.int (6 : Int32)), (.int (6 : Int32)), (.ref b1)])) rfl rfl (hb hby d1_14)
  have f49 : Arv Z h48 b1 k1 .int (8 : Int32) [(.int (0 : Int32)), (.int (1 : Int32)), (.int (2 : Int32)), (.int (3 : Int32)), (.int (4 : Int32)), (.int (5 : Int32)), (.int (6 : Int32)), (.int (0 : Int32))] (.int (0 : Int32)) := Arv.set Aro47 qo47 So47 No47 Ho47 Go47 rfl W48 6 rfl (by decide)
  have f50 : Exa Z h48 b1 "[I" := f43.wr W48
  have K51 : Keep h0 h48 [] := K44.wr W48 (Or.inr sz_b1)
  have N52 := Fr.snoc X48 N45 g_b1
  have Zs53 : n0 ≤ h48.size := Nat.le_trans Zs46 (Keep.of_wr W48).1
  obtain ⟨clo54, Aro54, qo54, So54, No54, Ho54, Go54⟩ := id f49
  have hino54 : ¬ ((7 : Int32) < 0 ∨ clo54.slots.size ≤ ((7 : Int32)).toNatClampNeg) := inb_of So54 ⟨by decide, by decide⟩
  obtain ⟨T55, h55, X55, e55, W55, st55⟩ := stI X48 hx hZ e48 Aro54 (j := (7 : Int32)) hino54 (g := (mkF m 14 #[.val (.int (8 : Int32)), .val (.ref b1), .val (.int (7 : Int32))] [(.int (7 : Int32)), (.int (7 : Int32)), (.ref b1)])) rfl rfl (hb hby d1_14)
  have f56 : Arv Z h55 b1 k1 .int (8 : Int32) [(.int (0 : Int32)), (.int (1 : Int32)), (.int (2 : Int32)), (.int (3 : Int32)), (.int (4 : Int32)), (.int (5 : Int32)), (.int (6 : Int32)), (.int (7 : Int32))] (.int (0 : Int32)) := Arv.set Aro54 qo54 So54 No54 Ho54 Go54 rfl W55 7 rfl (by decide)
  have f57 : Exa Z h55 b1 "[I" := f50.wr W55
  have K58 : Keep h0 h55 [] := K51.wr W55 (Or.inr sz_b1)
  have N59 := Fr.snoc X55 N52 g_b1
  have Zs60 : n0 ≤ h55.size := Nat.le_trans Zs53 (Keep.of_wr W55).1
  have f61 : Arv Z h55 b1 k1 .int (8 : Int32) own_ids (.int (0 : Int32)) := own_conv f56 (by decide)
  obtain ⟨fs, hr, hrun, hended, hW, hsame⟩ := X55.leave (v := some (.ref b1)) (fun h => by rw [Bd.returns] at h; cases h) Bd.notSynchronized
  refine ⟨_, _, pre0 _ ?_, hrun, hended, _, _, rfl, ?_, ⟨_, rfl⟩, hW, hsame.mono (by decide) (by decide)⟩
  · show Steps p.tables e below (s₁.setTop (mkF m 0 #[.val (.int (8 : Int32)), .unset, .unset] [])) _
    refine XS.iloadN X0.here hx rfl (hb hby d1_0) rfl ?_
    show Steps p.tables e below (s₁.setTop (mkF m 1 #[.val (.int (8 : Int32)), .unset, .unset] [(.int (8 : Int32))])) _
    refine st1 _ ?_
    show Steps p.tables e below (T1.setTop (mkF m 3 #[.val (.int (8 : Int32)), .unset, .unset] [(.ref b1)])) _
    refine XS.astoreN X1.here hx rfl (hb hby d1_3) rfl rfl (l' := #[.val (.int (8 : Int32)), .val (.ref b1), .unset]) rfl ?_
    show Steps p.tables e below (T1.setTop (mkF m 4 #[.val (.int (8 : Int32)), .val (.ref b1), .unset] [])) _
    refine XS.iconst X1.here hx rfl (hb hby d1_4) ?_
    show Steps p.tables e below (T1.setTop (mkF m 5 #[.val (.int (8 : Int32)), .val (.ref b1), .unset] [(.int (0 : Int32))])) _
    refine XS.istoreN X1.here hx rfl (hb hby d1_5) rfl (l' := #[.val (.int (8 : Int32)), .val (.ref b1), .val (.int (0 : Int32))]) rfl ?_
    show Steps p.tables e below (T1.setTop (mkF m 6 #[.val (.int (8 : Int32)), .val (.ref b1), .val (.int (0 : Int32))] [])) _
    refine XS.iloadN X1.here hx rfl (hb hby d1_6) rfl ?_
    show Steps p.tables e below (T1.setTop (mkF m 7 #[.val (.int (8 : Int32)), .val (.ref b1), .val (.int (0 : Int32))] [(.int (0 : Int32))])) _
    refine XS.iloadN X1.here hx rfl (hb hby d1_7) rfl ?_
    show Steps p.tables e below (T1.setTop (mkF m 8 #[.val (.int (8 : Int32)), .val (.ref b1), .val (.int (0 : Int32))] [(.int (8 : Int32)), (.int (0 : Int32))])) _
    refine XS.icmpNo X1.here hx rfl (hb hby d1_8) rfl (tlt (by decide : (0 : Int32) < (8 : Int32))).2.1 ?_
    show Steps p.tables e below (T1.setTop (mkF m 11 #[.val (.int (8 : Int32)), .val (.ref b1), .val (.int (0 : Int32))] [])) _
    refine XS.aloadN X1.here hx rfl (hb hby d1_11) rfl rfl ?_
    show Steps p.tables e below (T1.setTop (mkF m 12 #[.val (.int (8 : Int32)), .val (.ref b1), .val (.int (0 : Int32))] [(.ref b1)])) _
    refine XS.iloadN X1.here hx rfl (hb hby d1_12) rfl ?_
    show Steps p.tables e below (T1.setTop (mkF m 13 #[.val (.int (8 : Int32)), .val (.ref b1), .val (.int (0 : Int32))] [(.int (0 : Int32)), (.ref b1)])) _
    refine XS.iloadN X1.here hx rfl (hb hby d1_13) rfl ?_
    show Steps p.tables e below (T1.setTop (mkF m 14 #[.val (.int (8 : Int32)), .val (.ref b1), .val (.int (0 : Int32))] [(.int (0 : Int32)), (.int (0 : Int32)), (.ref b1)])) _
    refine st6 _ ?_
    show Steps p.tables e below (T6.setTop (mkF m 15 #[.val (.int (8 : Int32)), .val (.ref b1), .val (.int (0 : Int32))] [])) _
    refine XS.iinc X6.here hx rfl (hb hby d1_15) rfl (l' := #[.val (.int (8 : Int32)), .val (.ref b1), .val (.int (1 : Int32))]) rfl ?_
    show Steps p.tables e below (T6.setTop (mkF m 18 #[.val (.int (8 : Int32)), .val (.ref b1), .val (.int (1 : Int32))] [])) _
    refine XS.goto X6.here hx rfl (pc0 := 18) (pc' := 6) rfl (hb hby d1_18) (by decide) (by decide) ?_
    show Steps p.tables e below (T6.setTop (mkF m 6 #[.val (.int (8 : Int32)), .val (.ref b1), .val (.int (1 : Int32))] [])) _
    refine XS.iloadN X6.here hx rfl (hb hby d1_6) rfl ?_
    show Steps p.tables e below (T6.setTop (mkF m 7 #[.val (.int (8 : Int32)), .val (.ref b1), .val (.int (1 : Int32))] [(.int (1 : Int32))])) _
    refine XS.iloadN X6.here hx rfl (hb hby d1_7) rfl ?_
    show Steps p.tables e below (T6.setTop (mkF m 8 #[.val (.int (8 : Int32)), .val (.ref b1), .val (.int (1 : Int32))] [(.int (8 : Int32)), (.int (1 : Int32))])) _
    refine XS.icmpNo X6.here hx rfl (hb hby d1_8) rfl (tlt (by decide : (1 : Int32) < (8 : Int32))).2.1 ?_
    show Steps p.tables e below (T6.setTop (mkF m 11 #[.val (.int (8 : Int32)), .val (.ref b1), .val (.int (1 : Int32))] [])) _
    refine XS.aloadN X6.here hx rfl (hb hby d1_11) rfl rfl ?_
    show Steps p.tables e below (T6.setTop (mkF m 12 #[.val (.int (8 : Int32)), .val (.ref b1), .val (.int (1 : Int32))] [(.ref b1)])) _
    refine XS.iloadN X6.here hx rfl (hb hby d1_12) rfl ?_
    show Steps p.tables e below (T6.setTop (mkF m 13 #[.val (.int (8 : Int32)), .val (.ref b1), .val (.int (1 : Int32))] [(.int (1 : Int32)), (.ref b1)])) _
    refine XS.iloadN X6.here hx rfl (hb hby d1_13) rfl ?_
    show Steps p.tables e below (T6.setTop (mkF m 14 #[.val (.int (8 : Int32)), .val (.ref b1), .val (.int (1 : Int32))] [(.int (1 : Int32)), (.int (1 : Int32)), (.ref b1)])) _
    refine st13 _ ?_
    show Steps p.tables e below (T13.setTop (mkF m 15 #[.val (.int (8 : Int32)), .val (.ref b1), .val (.int (1 : Int32))] [])) _
    refine XS.iinc X13.here hx rfl (hb hby d1_15) rfl (l' := #[.val (.int (8 : Int32)), .val (.ref b1), .val (.int (2 : Int32))]) rfl ?_
    show Steps p.tables e below (T13.setTop (mkF m 18 #[.val (.int (8 : Int32)), .val (.ref b1), .val (.int (2 : Int32))] [])) _
    refine XS.goto X13.here hx rfl (pc0 := 18) (pc' := 6) rfl (hb hby d1_18) (by decide) (by decide) ?_
    show Steps p.tables e below (T13.setTop (mkF m 6 #[.val (.int (8 : Int32)), .val (.ref b1), .val (.int (2 : Int32))] [])) _
    refine XS.iloadN X13.here hx rfl (hb hby d1_6) rfl ?_
    show Steps p.tables e below (T13.setTop (mkF m 7 #[.val (.int (8 : Int32)), .val (.ref b1), .val (.int (2 : Int32))] [(.int (2 : Int32))])) _
    refine XS.iloadN X13.here hx rfl (hb hby d1_7) rfl ?_
    show Steps p.tables e below (T13.setTop (mkF m 8 #[.val (.int (8 : Int32)), .val (.ref b1), .val (.int (2 : Int32))] [(.int (8 : Int32)), (.int (2 : Int32))])) _
    refine XS.icmpNo X13.here hx rfl (hb hby d1_8) rfl (tlt (by decide : (2 : Int32) < (8 : Int32))).2.1 ?_
    show Steps p.tables e below (T13.setTop (mkF m 11 #[.val (.int (8 : Int32)), .val (.ref b1), .val (.int (2 : Int32))] [])) _
    refine XS.aloadN X13.here hx rfl (hb hby d1_11) rfl rfl ?_
    show Steps p.tables e below (T13.setTop (mkF m 12 #[.val (.int (8 : Int32)), .val (.ref b1), .val (.int (2 : Int32))] [(.ref b1)])) _
    refine XS.iloadN X13.here hx rfl (hb hby d1_12) rfl ?_
    show Steps p.tables e below (T13.setTop (mkF m 13 #[.val (.int (8 : Int32)), .val (.ref b1), .val (.int (2 : Int32))] [(.int (2 : Int32)), (.ref b1)])) _
    refine XS.iloadN X13.here hx rfl (hb hby d1_13) rfl ?_
    show Steps p.tables e below (T13.setTop (mkF m 14 #[.val (.int (8 : Int32)), .val (.ref b1), .val (.int (2 : Int32))] [(.int (2 : Int32)), (.int (2 : Int32)), (.ref b1)])) _
    refine st20 _ ?_
    show Steps p.tables e below (T20.setTop (mkF m 15 #[.val (.int (8 : Int32)), .val (.ref b1), .val (.int (2 : Int32))] [])) _
    refine XS.iinc X20.here hx rfl (hb hby d1_15) rfl (l' := #[.val (.int (8 : Int32)), .val (.ref b1), .val (.int (3 : Int32))]) rfl ?_
    show Steps p.tables e below (T20.setTop (mkF m 18 #[.val (.int (8 : Int32)), .val (.ref b1), .val (.int (3 : Int32))] [])) _
    refine XS.goto X20.here hx rfl (pc0 := 18) (pc' := 6) rfl (hb hby d1_18) (by decide) (by decide) ?_
    show Steps p.tables e below (T20.setTop (mkF m 6 #[.val (.int (8 : Int32)), .val (.ref b1), .val (.int (3 : Int32))] [])) _
    refine XS.iloadN X20.here hx rfl (hb hby d1_6) rfl ?_
    show Steps p.tables e below (T20.setTop (mkF m 7 #[.val (.int (8 : Int32)), .val (.ref b1), .val (.int (3 : Int32))] [(.int (3 : Int32))])) _
    refine XS.iloadN X20.here hx rfl (hb hby d1_7) rfl ?_
    show Steps p.tables e below (T20.setTop (mkF m 8 #[.val (.int (8 : Int32)), .val (.ref b1), .val (.int (3 : Int32))] [(.int (8 : Int32)), (.int (3 : Int32))])) _
    refine XS.icmpNo X20.here hx rfl (hb hby d1_8) rfl (tlt (by decide : (3 : Int32) < (8 : Int32))).2.1 ?_
    show Steps p.tables e below (T20.setTop (mkF m 11 #[.val (.int (8 : Int32)), .val (.ref b1), .val (.int (3 : Int32))] [])) _
    refine XS.aloadN X20.here hx rfl (hb hby d1_11) rfl rfl ?_
    show Steps p.tables e below (T20.setTop (mkF m 12 #[.val (.int (8 : Int32)), .val (.ref b1), .val (.int (3 : Int32))] [(.ref b1)])) _
    refine XS.iloadN X20.here hx rfl (hb hby d1_12) rfl ?_
    show Steps p.tables e below (T20.setTop (mkF m 13 #[.val (.int (8 : Int32)), .val (.ref b1), .val (.int (3 : Int32))] [(.int (3 : Int32)), (.ref b1)])) _
    refine XS.iloadN X20.here hx rfl (hb hby d1_13) rfl ?_
    show Steps p.tables e below (T20.setTop (mkF m 14 #[.val (.int (8 : Int32)), .val (.ref b1), .val (.int (3 : Int32))] [(.int (3 : Int32)), (.int (3 : Int32)), (.ref b1)])) _
    refine st27 _ ?_
    show Steps p.tables e below (T27.setTop (mkF m 15 #[.val (.int (8 : Int32)), .val (.ref b1), .val (.int (3 : Int32))] [])) _
    refine XS.iinc X27.here hx rfl (hb hby d1_15) rfl (l' := #[.val (.int (8 : Int32)), .val (.ref b1), .val (.int (4 : Int32))]) rfl ?_
    show Steps p.tables e below (T27.setTop (mkF m 18 #[.val (.int (8 : Int32)), .val (.ref b1), .val (.int (4 : Int32))] [])) _
    refine XS.goto X27.here hx rfl (pc0 := 18) (pc' := 6) rfl (hb hby d1_18) (by decide) (by decide) ?_
    show Steps p.tables e below (T27.setTop (mkF m 6 #[.val (.int (8 : Int32)), .val (.ref b1), .val (.int (4 : Int32))] [])) _
    refine XS.iloadN X27.here hx rfl (hb hby d1_6) rfl ?_
    show Steps p.tables e below (T27.setTop (mkF m 7 #[.val (.int (8 : Int32)), .val (.ref b1), .val (.int (4 : Int32))] [(.int (4 : Int32))])) _
    refine XS.iloadN X27.here hx rfl (hb hby d1_7) rfl ?_
    show Steps p.tables e below (T27.setTop (mkF m 8 #[.val (.int (8 : Int32)), .val (.ref b1), .val (.int (4 : Int32))] [(.int (8 : Int32)), (.int (4 : Int32))])) _
    refine XS.icmpNo X27.here hx rfl (hb hby d1_8) rfl (tlt (by decide : (4 : Int32) < (8 : Int32))).2.1 ?_
    show Steps p.tables e below (T27.setTop (mkF m 11 #[.val (.int (8 : Int32)), .val (.ref b1), .val (.int (4 : Int32))] [])) _
    refine XS.aloadN X27.here hx rfl (hb hby d1_11) rfl rfl ?_
    show Steps p.tables e below (T27.setTop (mkF m 12 #[.val (.int (8 : Int32)), .val (.ref b1), .val (.int (4 : Int32))] [(.ref b1)])) _
    refine XS.iloadN X27.here hx rfl (hb hby d1_12) rfl ?_
    show Steps p.tables e below (T27.setTop (mkF m 13 #[.val (.int (8 : Int32)), .val (.ref b1), .val (.int (4 : Int32))] [(.int (4 : Int32)), (.ref b1)])) _
    refine XS.iloadN X27.here hx rfl (hb hby d1_13) rfl ?_
    show Steps p.tables e below (T27.setTop (mkF m 14 #[.val (.int (8 : Int32)), .val (.ref b1), .val (.int (4 : Int32))] [(.int (4 : Int32)), (.int (4 : Int32)), (.ref b1)])) _
    refine st34 _ ?_
    show Steps p.tables e below (T34.setTop (mkF m 15 #[.val (.int (8 : Int32)), .val (.ref b1), .val (.int (4 : Int32))] [])) _
    refine XS.iinc X34.here hx rfl (hb hby d1_15) rfl (l' := #[.val (.int (8 : Int32)), .val (.ref b1), .val (.int (5 : Int32))]) rfl ?_
    show Steps p.tables e below (T34.setTop (mkF m 18 #[.val (.int (8 : Int32)), .val (.ref b1), .val (.int (5 : Int32))] [])) _
    refine XS.goto X34.here hx rfl (pc0 := 18) (pc' := 6) rfl (hb hby d1_18) (by decide) (by decide) ?_
    show Steps p.tables e below (T34.setTop (mkF m 6 #[.val (.int (8 : Int32)), .val (.ref b1), .val (.int (5 : Int32))] [])) _
    refine XS.iloadN X34.here hx rfl (hb hby d1_6) rfl ?_
    show Steps p.tables e below (T34.setTop (mkF m 7 #[.val (.int (8 : Int32)), .val (.ref b1), .val (.int (5 : Int32))] [(.int (5 : Int32))])) _
    refine XS.iloadN X34.here hx rfl (hb hby d1_7) rfl ?_
    show Steps p.tables e below (T34.setTop (mkF m 8 #[.val (.int (8 : Int32)), .val (.ref b1), .val (.int (5 : Int32))] [(.int (8 : Int32)), (.int (5 : Int32))])) _
    refine XS.icmpNo X34.here hx rfl (hb hby d1_8) rfl (tlt (by decide : (5 : Int32) < (8 : Int32))).2.1 ?_
    show Steps p.tables e below (T34.setTop (mkF m 11 #[.val (.int (8 : Int32)), .val (.ref b1), .val (.int (5 : Int32))] [])) _
    refine XS.aloadN X34.here hx rfl (hb hby d1_11) rfl rfl ?_
    show Steps p.tables e below (T34.setTop (mkF m 12 #[.val (.int (8 : Int32)), .val (.ref b1), .val (.int (5 : Int32))] [(.ref b1)])) _
    refine XS.iloadN X34.here hx rfl (hb hby d1_12) rfl ?_
    show Steps p.tables e below (T34.setTop (mkF m 13 #[.val (.int (8 : Int32)), .val (.ref b1), .val (.int (5 : Int32))] [(.int (5 : Int32)), (.ref b1)])) _
    refine XS.iloadN X34.here hx rfl (hb hby d1_13) rfl ?_
    show Steps p.tables e below (T34.setTop (mkF m 14 #[.val (.int (8 : Int32)), .val (.ref b1), .val (.int (5 : Int32))] [(.int (5 : Int32)), (.int (5 : Int32)), (.ref b1)])) _
    refine st41 _ ?_
    show Steps p.tables e below (T41.setTop (mkF m 15 #[.val (.int (8 : Int32)), .val (.ref b1), .val (.int (5 : Int32))] [])) _
    refine XS.iinc X41.here hx rfl (hb hby d1_15) rfl (l' := #[.val (.int (8 : Int32)), .val (.ref b1), .val (.int (6 : Int32))]) rfl ?_
    show Steps p.tables e below (T41.setTop (mkF m 18 #[.val (.int (8 : Int32)), .val (.ref b1), .val (.int (6 : Int32))] [])) _
    refine XS.goto X41.here hx rfl (pc0 := 18) (pc' := 6) rfl (hb hby d1_18) (by decide) (by decide) ?_
    show Steps p.tables e below (T41.setTop (mkF m 6 #[.val (.int (8 : Int32)), .val (.ref b1), .val (.int (6 : Int32))] [])) _
    refine XS.iloadN X41.here hx rfl (hb hby d1_6) rfl ?_
    show Steps p.tables e below (T41.setTop (mkF m 7 #[.val (.int (8 : Int32)), .val (.ref b1), .val (.int (6 : Int32))] [(.int (6 : Int32))])) _
    refine XS.iloadN X41.here hx rfl (hb hby d1_7) rfl ?_
    show Steps p.tables e below (T41.setTop (mkF m 8 #[.val (.int (8 : Int32)), .val (.ref b1), .val (.int (6 : Int32))] [(.int (8 : Int32)), (.int (6 : Int32))])) _
    refine XS.icmpNo X41.here hx rfl (hb hby d1_8) rfl (tlt (by decide : (6 : Int32) < (8 : Int32))).2.1 ?_
    show Steps p.tables e below (T41.setTop (mkF m 11 #[.val (.int (8 : Int32)), .val (.ref b1), .val (.int (6 : Int32))] [])) _
    refine XS.aloadN X41.here hx rfl (hb hby d1_11) rfl rfl ?_
    show Steps p.tables e below (T41.setTop (mkF m 12 #[.val (.int (8 : Int32)), .val (.ref b1), .val (.int (6 : Int32))] [(.ref b1)])) _
    refine XS.iloadN X41.here hx rfl (hb hby d1_12) rfl ?_
    show Steps p.tables e below (T41.setTop (mkF m 13 #[.val (.int (8 : Int32)), .val (.ref b1), .val (.int (6 : Int32))] [(.int (6 : Int32)), (.ref b1)])) _
    refine XS.iloadN X41.here hx rfl (hb hby d1_13) rfl ?_
    show Steps p.tables e below (T41.setTop (mkF m 14 #[.val (.int (8 : Int32)), .val (.ref b1), .val (.int (6 : Int32))] [(.int (6 : Int32)), (.int (6 : Int32)), (.ref b1)])) _
    refine st48 _ ?_
    show Steps p.tables e below (T48.setTop (mkF m 15 #[.val (.int (8 : Int32)), .val (.ref b1), .val (.int (6 : Int32))] [])) _
    refine XS.iinc X48.here hx rfl (hb hby d1_15) rfl (l' := #[.val (.int (8 : Int32)), .val (.ref b1), .val (.int (7 : Int32))]) rfl ?_
    show Steps p.tables e below (T48.setTop (mkF m 18 #[.val (.int (8 : Int32)), .val (.ref b1), .val (.int (7 : Int32))] [])) _
    refine XS.goto X48.here hx rfl (pc0 := 18) (pc' := 6) rfl (hb hby d1_18) (by decide) (by decide) ?_
    show Steps p.tables e below (T48.setTop (mkF m 6 #[.val (.int (8 : Int32)), .val (.ref b1), .val (.int (7 : Int32))] [])) _
    refine XS.iloadN X48.here hx rfl (hb hby d1_6) rfl ?_
    show Steps p.tables e below (T48.setTop (mkF m 7 #[.val (.int (8 : Int32)), .val (.ref b1), .val (.int (7 : Int32))] [(.int (7 : Int32))])) _
    refine XS.iloadN X48.here hx rfl (hb hby d1_7) rfl ?_
    show Steps p.tables e below (T48.setTop (mkF m 8 #[.val (.int (8 : Int32)), .val (.ref b1), .val (.int (7 : Int32))] [(.int (8 : Int32)), (.int (7 : Int32))])) _
    refine XS.icmpNo X48.here hx rfl (hb hby d1_8) rfl (tlt (by decide : (7 : Int32) < (8 : Int32))).2.1 ?_
    show Steps p.tables e below (T48.setTop (mkF m 11 #[.val (.int (8 : Int32)), .val (.ref b1), .val (.int (7 : Int32))] [])) _
    refine XS.aloadN X48.here hx rfl (hb hby d1_11) rfl rfl ?_
    show Steps p.tables e below (T48.setTop (mkF m 12 #[.val (.int (8 : Int32)), .val (.ref b1), .val (.int (7 : Int32))] [(.ref b1)])) _
    refine XS.iloadN X48.here hx rfl (hb hby d1_12) rfl ?_
    show Steps p.tables e below (T48.setTop (mkF m 13 #[.val (.int (8 : Int32)), .val (.ref b1), .val (.int (7 : Int32))] [(.int (7 : Int32)), (.ref b1)])) _
    refine XS.iloadN X48.here hx rfl (hb hby d1_13) rfl ?_
    show Steps p.tables e below (T48.setTop (mkF m 14 #[.val (.int (8 : Int32)), .val (.ref b1), .val (.int (7 : Int32))] [(.int (7 : Int32)), (.int (7 : Int32)), (.ref b1)])) _
    refine st55 _ ?_
    show Steps p.tables e below (T55.setTop (mkF m 15 #[.val (.int (8 : Int32)), .val (.ref b1), .val (.int (7 : Int32))] [])) _
    refine XS.iinc X55.here hx rfl (hb hby d1_15) rfl (l' := #[.val (.int (8 : Int32)), .val (.ref b1), .val (.int (8 : Int32))]) rfl ?_
    show Steps p.tables e below (T55.setTop (mkF m 18 #[.val (.int (8 : Int32)), .val (.ref b1), .val (.int (8 : Int32))] [])) _
    refine XS.goto X55.here hx rfl (pc0 := 18) (pc' := 6) rfl (hb hby d1_18) (by decide) (by decide) ?_
    show Steps p.tables e below (T55.setTop (mkF m 6 #[.val (.int (8 : Int32)), .val (.ref b1), .val (.int (8 : Int32))] [])) _
    refine XS.iloadN X55.here hx rfl (hb hby d1_6) rfl ?_
    show Steps p.tables e below (T55.setTop (mkF m 7 #[.val (.int (8 : Int32)), .val (.ref b1), .val (.int (8 : Int32))] [(.int (8 : Int32))])) _
    refine XS.iloadN X55.here hx rfl (hb hby d1_7) rfl ?_
    show Steps p.tables e below (T55.setTop (mkF m 8 #[.val (.int (8 : Int32)), .val (.ref b1), .val (.int (8 : Int32))] [(.int (8 : Int32)), (.int (8 : Int32))])) _
    refine XS.icmpYes X55.here hx rfl (pc0 := 8) (pc' := 21) rfl (hb hby d1_8) rfl (flt (by decide : ¬ ((8 : Int32) < (8 : Int32)))).2.1 (by decide) (by decide) ?_
    show Steps p.tables e below (T55.setTop (mkF m 21 #[.val (.int (8 : Int32)), .val (.ref b1), .val (.int (8 : Int32))] [])) _
    refine XS.aloadN X55.here hx rfl (hb hby d1_21) rfl rfl ?_
    show Steps p.tables e below (T55.setTop (mkF m 22 #[.val (.int (8 : Int32)), .val (.ref b1), .val (.int (8 : Int32))] [(.ref b1)])) _
    exact retOut X55 hx (t := (.array .int)) (i := .areturn) Bd.returns rfl (Or.inr (Or.inr (Or.inr (Or.inr ⟨rfl, rfl, rfl⟩)))) (hb hby d1_22) hr
  · show Q_pos8 Z  h0 n0 _ T55.heap _
    rw [e55]
    exact ⟨b1, k1, rfl, N59, g_b1, sz_b1, K58, f57, f61⟩
def Q_pos9 (Z : State)  (h0 : Heap) (n0 : Nat) (v : Option Value) (h : Heap) (L : List Loc) : Prop := ∃ (o1 : Addr), ∃ (ko1 : ClassId), v = some (.ref o1) ∧ Fr n0 L ∧ n0 ≤ o1 ∧ h0.size ≤ o1 ∧ Keep h0 h [] ∧ Exa Z h o1 "[I" ∧ Arv Z h o1 ko1 .int (9 : Int32) own_ids (.int (0 : Int32))
set_option maxRecDepth 65536 in
set_option maxHeartbeats 40000000 in
theorem rm_pos9 (l : Launch) (Z : State) (a0 : Array Value) (hw : ∀ d ∈ tables_1, d.before a0 Z = true) (ws : List Jvm.Cond)  (h0 : Heap) (n0 : Nat) (Z0 : n0 ≤ h0.size) :
    MetFree l (⟨"com/example/trawl/trawl/gen/FisherYates", "positions", "(I)[I"⟩ : MethodName) (head1 (Jvm.Cond.code (⟨"com/example/trawl/trawl/gen/FisherYates", "positions", "(I)[I"⟩ : MethodName) prog_1_method_2_code 3 (some (.array .int)) :: ws) ({ frames := 0, cells := 1, slots := 16, locals := 0 } : Room)) (fun a U => a = #[(.int (9 : Int32))] ∧ Z.Warmed39 U.vm ∧ U.heap = h0) (fun _ _ _ _ _ => True) (fun _ U o U' => ∃ v L, o = .returned v ∧ Q_pos9 Z  h0 n0 v U'.heap L ∧ FrameEnd U o U' L ({ frames := 0, cells := 1, slots := 16, locals := 0 } : Room).cells ({ frames := 0, cells := 1, slots := 16, locals := 0 } : Room).slots) := by
  refine MetFree.of_bodySF (plainFor_of_name pn_com_example_trawl_trawl_gen_FisherYates) hisR ?_
  intro p e s m args below meth c s₁ Bd hml0 hP hK
  obtain ⟨rfl, hZ, hh⟩ := hP
  have hx := Bd.exec
  have hby := Bd.bytes
  have hml : c.maxLocals = 3 := hml0
  have hown : s.vm.findClass "com/example/trawl/trawl/gen/FisherYates" = some m.cls := findClass_of_methodNamed Bd.named
  have hnm := (name_of_methodNamed Bd.named Bd.method).1
  have X0 : Stand p l e ({ frames := 0, cells := 1, slots := 16, locals := 0 } : Room) s m #[(.int (9 : Int32))] below meth c s₁ [] 0 0 := Stand.of_body Bd
  have e0 : s₁.heap = h0 := by rw [← hh, Bd.state]; rfl
  have N0 := Fr.nil n0
  have pre0 : ∀ t, Steps p.tables e below (s₁.setTop (mkF m 0 #[.val (.int (9 : Int32)), .unset, .unset] [])) t → Steps p.tables e below (s₁.setTop (entryFrame m #[(.int (9 : Int32))] 3)) t := fun t k => castTop (ef_1_I m (9 : Int32)) k
  obtain ⟨T1, h1, k1, X1, e1, E1, A1, Ex1, st1⟩ := newPE X0 hx hZ (hw _ (List.mem_of_getElem? (i := 4) rfl)) e0 (g := (mkF m 1 #[.val (.int (9 : Int32)), .unset, .unset] [(.int (9 : Int32))])) rfl (hb hby d1_1) rfl (by decide) (cap := 9) (by decide) (by decide) (by decide) (by decide) (ad := "[I") (by decide)
  obtain ⟨b1, g1⟩ : ∃ z, z = h0.size := ⟨_, rfl⟩
  rw [← g1] at A1 Ex1 st1
  have g_b1 : n0 ≤ b1 := Nat.le_trans Z0 (Nat.le_of_eq g1.symm)
  have sz_b1 : h0.size ≤ b1 := Nat.le_trans (Keep.refl h0 []).1 (Nat.le_of_eq g1.symm)
  have K2 : Keep h0 h1 [] := (Keep.refl h0 []).ext E1
  have Zs3 : n0 ≤ h1.size := Nat.le_trans Z0 E1.1
  have f4 : Arv Z h1 b1 k1 .int (9 : Int32) [(.int (0 : Int32)), (.int (0 : Int32)), (.int (0 : Int32)), (.int (0 : Int32)), (.int (0 : Int32)), (.int (0 : Int32)), (.int (0 : Int32)), (.int (0 : Int32)), (.int (0 : Int32))] (.int (0 : Int32)) := (Arv.new A1 (by decide)).pad (pad_rep [] (.int (0 : Int32)) 9)
  obtain ⟨clo5, Aro5, qo5, So5, No5, Ho5, Go5⟩ := id f4
  have hino5 : ¬ ((0 : Int32) < 0 ∨ clo5.slots.size ≤ ((0 : Int32)).toNatClampNeg) := inb_of So5 ⟨by decide, by decide⟩
  obtain ⟨T6, h6, X6, e6, W6, st6⟩ := stI X1 hx hZ e1 Aro5 (j := (0 : Int32)) hino5 (g := (mkF m 14 #[.val (.int (9 : Int32)), .val (.ref b1), .val (.int (0 : Int32))] [(.int (0 : Int32)), (.int (0 : Int32)), (.ref b1)])) rfl rfl (hb hby d1_14)
  have f7 : Arv Z h6 b1 k1 .int (9 : Int32) [(.int (0 : Int32)), (.int (0 : Int32)), (.int (0 : Int32)), (.int (0 : Int32)), (.int (0 : Int32)), (.int (0 : Int32)), (.int (0 : Int32)), (.int (0 : Int32)), (.int (0 : Int32))] (.int (0 : Int32)) := Arv.set Aro5 qo5 So5 No5 Ho5 Go5 rfl W6 0 rfl (by decide)
  have f8 : Exa Z h6 b1 "[I" := Ex1.wr W6
  have K9 : Keep h0 h6 [] := K2.wr W6 (Or.inr sz_b1)
  have N10 := Fr.snoc X6 N0 g_b1
  have Zs11 : n0 ≤ h6.size := Nat.le_trans Zs3 (Keep.of_wr W6).1
  obtain ⟨clo12, Aro12, qo12, So12, No12, Ho12, Go12⟩ := id f7
  have hino12 : ¬ ((1 : Int32) < 0 ∨ clo12.slots.size ≤ ((1 : Int32)).toNatClampNeg) := inb_of So12 ⟨by decide, by decide⟩
  obtain ⟨T13, h13, X13, e13, W13, st13⟩ := stI X6 hx hZ e6 Aro12 (j := (1 : Int32)) hino12 (g := (mkF m 14 #[.val (.int (9 : Int32)), .val (.ref b1), .val (.int (1 : Int32))] [(.int (1 : Int32)), (.int (1 : Int32)), (.ref b1)])) rfl rfl (hb hby d1_14)
  have f14 : Arv Z h13 b1 k1 .int (9 : Int32) [(.int (0 : Int32)), (.int (1 : Int32)), (.int (0 : Int32)), (.int (0 : Int32)), (.int (0 : Int32)), (.int (0 : Int32)), (.int (0 : Int32)), (.int (0 : Int32)), (.int (0 : Int32))] (.int (0 : Int32)) := Arv.set Aro12 qo12 So12 No12 Ho12 Go12 rfl W13 1 rfl (by decide)
  have f15 : Exa Z h13 b1 "[I" := f8.wr W13
  have K16 : Keep h0 h13 [] := K9.wr W13 (Or.inr sz_b1)
  have N17 := Fr.snoc X13 N10 g_b1
  have Zs18 : n0 ≤ h13.size := Nat.le_trans Zs11 (Keep.of_wr W13).1
  obtain ⟨clo19, Aro19, qo19, So19, No19, Ho19, Go19⟩ := id f14
  have hino19 : ¬ ((2 : Int32) < 0 ∨ clo19.slots.size ≤ ((2 : Int32)).toNatClampNeg) := inb_of So19 ⟨by decide, by decide⟩
  obtain ⟨T20, h20, X20, e20, W20, st20⟩ := stI X13 hx hZ e13 Aro19 (j := (2 : Int32)) hino19 (g := (mkF m 14 #[.val (.int (9 : Int32)), .val (.ref b1), .val (.int (2 : Int32))] [(.int (2 : Int32)), (.int (2 : Int32)), (.ref b1)])) rfl rfl (hb hby d1_14)
  have f21 : Arv Z h20 b1 k1 .int (9 : Int32) [(.int (0 : Int32)), (.int (1 : Int32)), (.int (2 : Int32)), (.int (0 : Int32)), (.int (0 : Int32)), (.int (0 : Int32)), (.int (0 : Int32)), (.int (0 : Int32)), (.int (0 : Int32))] (.int (0 : Int32)) := Arv.set Aro19 qo19 So19 No19 Ho19 Go19 rfl W20 2 rfl (by decide)
  have f22 : Exa Z h20 b1 "[I" := f15.wr W20
  have K23 : Keep h0 h20 [] := K16.wr W20 (Or.inr sz_b1)
  have N24 := Fr.snoc X20 N17 g_b1
  have Zs25 : n0 ≤ h20.size := Nat.le_trans Zs18 (Keep.of_wr W20).1
  obtain ⟨clo26, Aro26, qo26, So26, No26, Ho26, Go26⟩ := id f21
  have hino26 : ¬ ((3 : Int32) < 0 ∨ clo26.slots.size ≤ ((3 : Int32)).toNatClampNeg) := inb_of So26 ⟨by decide, by decide⟩
  obtain ⟨T27, h27, X27, e27, W27, st27⟩ := stI X20 hx hZ e20 Aro26 (j := (3 : Int32)) hino26 (g := (mkF m 14 #[.val (.int (9 : Int32)), .val (.ref b1), .val (.int (3 : Int32))] [(.int (3 : Int32)), (.int (3 : Int32)), (.ref b1)])) rfl rfl (hb hby d1_14)
  have f28 : Arv Z h27 b1 k1 .int (9 : Int32) [(.int (0 : Int32)), (.int (1 : Int32)), (.int (2 : Int32)), (.int (3 : Int32)), (.int (0 : Int32)), (.int (0 : Int32)), (.int (0 : Int32)), (.int (0 : Int32)), (.int (0 : Int32))] (.int (0 : Int32)) := Arv.set Aro26 qo26 So26 No26 Ho26 Go26 rfl W27 3 rfl (by decide)
  have f29 : Exa Z h27 b1 "[I" := f22.wr W27
  have K30 : Keep h0 h27 [] := K23.wr W27 (Or.inr sz_b1)
  have N31 := Fr.snoc X27 N24 g_b1
  have Zs32 : n0 ≤ h27.size := Nat.le_trans Zs25 (Keep.of_wr W27).1
  obtain ⟨clo33, Aro33, qo33, So33, No33, Ho33, Go33⟩ := id f28
  have hino33 : ¬ ((4 : Int32) < 0 ∨ clo33.slots.size ≤ ((4 : Int32)).toNatClampNeg) := inb_of So33 ⟨by decide, by decide⟩
  obtain ⟨T34, h34, X34, e34, W34, st34⟩ := stI X27 hx hZ e27 Aro33 (j := (4 : Int32)) hino33 (g := (mkF m 14 #[.val (.int (9 : Int32)), .val (.ref b1), .val (.int (4 : Int32))] [(.int (4 : Int32)), (.int (4 : Int32)), (.ref b1)])) rfl rfl (hb hby d1_14)
  have f35 : Arv Z h34 b1 k1 .int (9 : Int32) [(.int (0 : Int32)), (.int (1 : Int32)), (.int (2 : Int32)), (.int (3 : Int32)), (.int (4 : Int32)), (.int (0 : Int32)), (.int (0 : Int32)), (.int (0 : Int32)), (.int (0 : Int32))] (.int (0 : Int32)) := Arv.set Aro33 qo33 So33 No33 Ho33 Go33 rfl W34 4 rfl (by decide)
  have f36 : Exa Z h34 b1 "[I" := f29.wr W34
  have K37 : Keep h0 h34 [] := K30.wr W34 (Or.inr sz_b1)
  have N38 := Fr.snoc X34 N31 g_b1
  have Zs39 : n0 ≤ h34.size := Nat.le_trans Zs32 (Keep.of_wr W34).1
  obtain ⟨clo40, Aro40, qo40, So40, No40, Ho40, Go40⟩ := id f35
  have hino40 : ¬ ((5 : Int32) < 0 ∨ clo40.slots.size ≤ ((5 : Int32)).toNatClampNeg) := inb_of So40 ⟨by decide, by decide⟩
  obtain ⟨T41, h41, X41, e41, W41, st41⟩ := stI X34 hx hZ e34 Aro40 (j := (5 : Int32)) hino40 (g := (mkF m 14 #[.val (.int (9 : Int32)), .val (.ref b1), .val (.int (5 : Int32))] [(.int (5 : Int32)), (.int (5 : Int32)), (.ref b1)])) rfl rfl (hb hby d1_14)
  have f42 : Arv Z h41 b1 k1 .int (9 : Int32) [(.int (0 : Int32)), (.int (1 : Int32)), (.int (2 : Int32)), (.int (3 : Int32)), (.int (4 : Int32)), (.int (5 : Int32)), (.int (0 : Int32)), (.int (0 : Int32)), (.int (0 : Int32))] (.int (0 : Int32)) := Arv.set Aro40 qo40 So40 No40 Ho40 Go40 rfl W41 5 rfl (by decide)
  have f43 : Exa Z h41 b1 "[I" := f36.wr W41
  have K44 : Keep h0 h41 [] := K37.wr W41 (Or.inr sz_b1)
  have N45 := Fr.snoc X41 N38 g_b1
  have Zs46 : n0 ≤ h41.size := Nat.le_trans Zs39 (Keep.of_wr W41).1
  obtain ⟨clo47, Aro47, qo47, So47, No47, Ho47, Go47⟩ := id f42
  have hino47 : ¬ ((6 : Int32) < 0 ∨ clo47.slots.size ≤ ((6 : Int32)).toNatClampNeg) := inb_of So47 ⟨by decide, by decide⟩
  obtain ⟨T48, h48, X48, e48, W48, st48⟩ := stI X41 hx hZ e41 Aro47 (j := (6 : Int32)) hino47 (g := (mkF m 14 #[.val (.int (9 : Int32)), .val (.ref b1), .val (.int (6 : Int32))] [(.int (6 : Int32)), (.int (6 : Int32)), (.ref b1)])) rfl rfl (hb hby d1_14)
  have f49 : Arv Z h48 b1 k1 .int (9 : Int32) [(.int (0 : Int32)), (.int (1 : Int32)), (.int (2 : Int32)), (.int (3 : Int32)), (.int (4 : Int32)), (.int (5 : Int32)), (.int (6 : Int32)), (.int (0 : Int32)), (.int (0 : Int32))] (.int (0 : Int32)) := Arv.set Aro47 qo47 So47 No47 Ho47 Go47 rfl W48 6 rfl (by decide)
  have f50 : Exa Z h48 b1 "[I" := f43.wr W48
  have K51 : Keep h0 h48 [] := K44.wr W48 (Or.inr sz_b1)
  have N52 := Fr.snoc X48 N45 g_b1
  have Zs53 : n0 ≤ h48.size := Nat.le_trans Zs46 (Keep.of_wr W48).1
  obtain ⟨clo54, Aro54, qo54, So54, No54, Ho54, Go54⟩ := id f49
  have hino54 : ¬ ((7 : Int32) < 0 ∨ clo54.slots.size ≤ ((7 : Int32)).toNatClampNeg) := inb_of So54 ⟨by decide, by decide⟩
  obtain ⟨T55, h55, X55, e55, W55, st55⟩ := stI X48 hx hZ e48 Aro54 (j := (7 : Int32)) hino54 (g := (mkF m 14 #[.val (.int (9 : Int32)), .val (.ref b1), .val (.int (7 : Int32))] [(.int (7 : Int32)), (.int (7 : Int32)), (.ref b1)])) rfl rfl (hb hby d1_14)
  have f56 : Arv Z h55 b1 k1 .int (9 : Int32) [(.int (0 : Int32)), (.int (1 : Int32)), (.int (2 : Int32)), (.int (3 : Int32)), (.int (4 : Int32)), (.int (5 : Int32)), (.int (6 : Int32)), (.int (7 : Int32)), (.int (0 : Int32))] (.int (0 : Int32)) := Arv.set Aro54 qo54 So54 No54 Ho54 Go54 rfl W55 7 rfl (by decide)
  have f57 : Exa Z h55 b1 "[I" := f50.wr W55
  have K58 : Keep h0 h55 [] := K51.wr W55 (Or.inr sz_b1)
  have N59 := Fr.snoc X55 N52 g_b1
  have Zs60 : n0 ≤ h55.size := Nat.le_trans Zs53 (Keep.of_wr W55).1
  obtain ⟨clo61, Aro61, qo61, So61, No61, Ho61, Go61⟩ := id f56
  have hino61 : ¬ ((8 : Int32) < 0 ∨ clo61.slots.size ≤ ((8 : Int32)).toNatClampNeg) := inb_of So61 ⟨by decide, by decide⟩
  obtain ⟨T62, h62, X62, e62, W62, st62⟩ := stI X55 hx hZ e55 Aro61 (j := (8 : Int32)) hino61 (g := (mkF m 14 #[.val (.int (9 : Int32)), .val (.ref b1), .val (.int (8 : Int32))] [(.int (8 : Int32)), (.int (8 : Int32)), (.ref b1)])) rfl rfl (hb hby d1_14)
  have f63 : Arv Z h62 b1 k1 .int (9 : Int32) [(.int (0 : Int32)), (.int (1 : Int32)), (.int (2 : Int32)), (.int (3 : Int32)), (.int (4 : Int32)), (.int (5 : Int32)), (.int (6 : Int32)), (.int (7 : Int32)), (.int (8 : Int32))] (.int (0 : Int32)) := Arv.set Aro61 qo61 So61 No61 Ho61 Go61 rfl W62 8 rfl (by decide)
  have f64 : Exa Z h62 b1 "[I" := f57.wr W62
  have K65 : Keep h0 h62 [] := K58.wr W62 (Or.inr sz_b1)
  have N66 := Fr.snoc X62 N59 g_b1
  have Zs67 : n0 ≤ h62.size := Nat.le_trans Zs60 (Keep.of_wr W62).1
  have f68 : Arv Z h62 b1 k1 .int (9 : Int32) own_ids (.int (0 : Int32)) := own_conv f63 (by decide)
  obtain ⟨fs, hr, hrun, hended, hW, hsame⟩ := X62.leave (v := some (.ref b1)) (fun h => by rw [Bd.returns] at h; cases h) Bd.notSynchronized
  refine ⟨_, _, pre0 _ ?_, hrun, hended, _, _, rfl, ?_, ⟨_, rfl⟩, hW, hsame.mono (by decide) (by decide)⟩
  · show Steps p.tables e below (s₁.setTop (mkF m 0 #[.val (.int (9 : Int32)), .unset, .unset] [])) _
    refine XS.iloadN X0.here hx rfl (hb hby d1_0) rfl ?_
    show Steps p.tables e below (s₁.setTop (mkF m 1 #[.val (.int (9 : Int32)), .unset, .unset] [(.int (9 : Int32))])) _
    refine st1 _ ?_
    show Steps p.tables e below (T1.setTop (mkF m 3 #[.val (.int (9 : Int32)), .unset, .unset] [(.ref b1)])) _
    refine XS.astoreN X1.here hx rfl (hb hby d1_3) rfl rfl (l' := #[.val (.int (9 : Int32)), .val (.ref b1), .unset]) rfl ?_
    show Steps p.tables e below (T1.setTop (mkF m 4 #[.val (.int (9 : Int32)), .val (.ref b1), .unset] [])) _
    refine XS.iconst X1.here hx rfl (hb hby d1_4) ?_
    show Steps p.tables e below (T1.setTop (mkF m 5 #[.val (.int (9 : Int32)), .val (.ref b1), .unset] [(.int (0 : Int32))])) _
    refine XS.istoreN X1.here hx rfl (hb hby d1_5) rfl (l' := #[.val (.int (9 : Int32)), .val (.ref b1), .val (.int (0 : Int32))]) rfl ?_
    show Steps p.tables e below (T1.setTop (mkF m 6 #[.val (.int (9 : Int32)), .val (.ref b1), .val (.int (0 : Int32))] [])) _
    refine XS.iloadN X1.here hx rfl (hb hby d1_6) rfl ?_
    show Steps p.tables e below (T1.setTop (mkF m 7 #[.val (.int (9 : Int32)), .val (.ref b1), .val (.int (0 : Int32))] [(.int (0 : Int32))])) _
    refine XS.iloadN X1.here hx rfl (hb hby d1_7) rfl ?_
    show Steps p.tables e below (T1.setTop (mkF m 8 #[.val (.int (9 : Int32)), .val (.ref b1), .val (.int (0 : Int32))] [(.int (9 : Int32)), (.int (0 : Int32))])) _
    refine XS.icmpNo X1.here hx rfl (hb hby d1_8) rfl (tlt (by decide : (0 : Int32) < (9 : Int32))).2.1 ?_
    show Steps p.tables e below (T1.setTop (mkF m 11 #[.val (.int (9 : Int32)), .val (.ref b1), .val (.int (0 : Int32))] [])) _
    refine XS.aloadN X1.here hx rfl (hb hby d1_11) rfl rfl ?_
    show Steps p.tables e below (T1.setTop (mkF m 12 #[.val (.int (9 : Int32)), .val (.ref b1), .val (.int (0 : Int32))] [(.ref b1)])) _
    refine XS.iloadN X1.here hx rfl (hb hby d1_12) rfl ?_
    show Steps p.tables e below (T1.setTop (mkF m 13 #[.val (.int (9 : Int32)), .val (.ref b1), .val (.int (0 : Int32))] [(.int (0 : Int32)), (.ref b1)])) _
    refine XS.iloadN X1.here hx rfl (hb hby d1_13) rfl ?_
    show Steps p.tables e below (T1.setTop (mkF m 14 #[.val (.int (9 : Int32)), .val (.ref b1), .val (.int (0 : Int32))] [(.int (0 : Int32)), (.int (0 : Int32)), (.ref b1)])) _
    refine st6 _ ?_
    show Steps p.tables e below (T6.setTop (mkF m 15 #[.val (.int (9 : Int32)), .val (.ref b1), .val (.int (0 : Int32))] [])) _
    refine XS.iinc X6.here hx rfl (hb hby d1_15) rfl (l' := #[.val (.int (9 : Int32)), .val (.ref b1), .val (.int (1 : Int32))]) rfl ?_
    show Steps p.tables e below (T6.setTop (mkF m 18 #[.val (.int (9 : Int32)), .val (.ref b1), .val (.int (1 : Int32))] [])) _
    refine XS.goto X6.here hx rfl (pc0 := 18) (pc' := 6) rfl (hb hby d1_18) (by decide) (by decide) ?_
    show Steps p.tables e below (T6.setTop (mkF m 6 #[.val (.int (9 : Int32)), .val (.ref b1), .val (.int (1 : Int32))] [])) _
    refine XS.iloadN X6.here hx rfl (hb hby d1_6) rfl ?_
    show Steps p.tables e below (T6.setTop (mkF m 7 #[.val (.int (9 : Int32)), .val (.ref b1), .val (.int (1 : Int32))] [(.int (1 : Int32))])) _
    refine XS.iloadN X6.here hx rfl (hb hby d1_7) rfl ?_
    show Steps p.tables e below (T6.setTop (mkF m 8 #[.val (.int (9 : Int32)), .val (.ref b1), .val (.int (1 : Int32))] [(.int (9 : Int32)), (.int (1 : Int32))])) _
    refine XS.icmpNo X6.here hx rfl (hb hby d1_8) rfl (tlt (by decide : (1 : Int32) < (9 : Int32))).2.1 ?_
    show Steps p.tables e below (T6.setTop (mkF m 11 #[.val (.int (9 : Int32)), .val (.ref b1), .val (.int (1 : Int32))] [])) _
    refine XS.aloadN X6.here hx rfl (hb hby d1_11) rfl rfl ?_
    show Steps p.tables e below (T6.setTop (mkF m 12 #[.val (.int (9 : Int32)), .val (.ref b1), .val (.int (1 : Int32))] [(.ref b1)])) _
    refine XS.iloadN X6.here hx rfl (hb hby d1_12) rfl ?_
    show Steps p.tables e below (T6.setTop (mkF m 13 #[.val (.int (9 : Int32)), .val (.ref b1), .val (.int (1 : Int32))] [(.int (1 : Int32)), (.ref b1)])) _
    refine XS.iloadN X6.here hx rfl (hb hby d1_13) rfl ?_
    show Steps p.tables e below (T6.setTop (mkF m 14 #[.val (.int (9 : Int32)), .val (.ref b1), .val (.int (1 : Int32))] [(.int (1 : Int32)), (.int (1 : Int32)), (.ref b1)])) _
    refine st13 _ ?_
    show Steps p.tables e below (T13.setTop (mkF m 15 #[.val (.int (9 : Int32)), .val (.ref b1), .val (.int (1 : Int32))] [])) _
    refine XS.iinc X13.here hx rfl (hb hby d1_15) rfl (l' := #[.val (.int (9 : Int32)), .val (.ref b1), .val (.int (2 : Int32))]) rfl ?_
    show Steps p.tables e below (T13.setTop (mkF m 18 #[.val (.int (9 : Int32)), .val (.ref b1), .val (.int (2 : Int32))] [])) _
    refine XS.goto X13.here hx rfl (pc0 := 18) (pc' := 6) rfl (hb hby d1_18) (by decide) (by decide) ?_
    show Steps p.tables e below (T13.setTop (mkF m 6 #[.val (.int (9 : Int32)), .val (.ref b1), .val (.int (2 : Int32))] [])) _
    refine XS.iloadN X13.here hx rfl (hb hby d1_6) rfl ?_
    show Steps p.tables e below (T13.setTop (mkF m 7 #[.val (.int (9 : Int32)), .val (.ref b1), .val (.int (2 : Int32))] [(.int (2 : Int32))])) _
    refine XS.iloadN X13.here hx rfl (hb hby d1_7) rfl ?_
    show Steps p.tables e below (T13.setTop (mkF m 8 #[.val (.int (9 : Int32)), .val (.ref b1), .val (.int (2 : Int32))] [(.int (9 : Int32)), (.int (2 : Int32))])) _
    refine XS.icmpNo X13.here hx rfl (hb hby d1_8) rfl (tlt (by decide : (2 : Int32) < (9 : Int32))).2.1 ?_
    show Steps p.tables e below (T13.setTop (mkF m 11 #[.val (.int (9 : Int32)), .val (.ref b1), .val (.int (2 : Int32))] [])) _
    refine XS.aloadN X13.here hx rfl (hb hby d1_11) rfl rfl ?_
    show Steps p.tables e below (T13.setTop (mkF m 12 #[.val (.int (9 : Int32)), .val (.ref b1), .val (.int (2 : Int32))] [(.ref b1)])) _
    refine XS.iloadN X13.here hx rfl (hb hby d1_12) rfl ?_
    show Steps p.tables e below (T13.setTop (mkF m 13 #[.val (.int (9 : Int32)), .val (.ref b1), .val (.int (2 : Int32))] [(.int (2 : Int32)), (.ref b1)])) _
    refine XS.iloadN X13.here hx rfl (hb hby d1_13) rfl ?_
    show Steps p.tables e below (T13.setTop (mkF m 14 #[.val (.int (9 : Int32)), .val (.ref b1), .val (.int (2 : Int32))] [(.int (2 : Int32)), (.int (2 : Int32)), (.ref b1)])) _
    refine st20 _ ?_
    show Steps p.tables e below (T20.setTop (mkF m 15 #[.val (.int (9 : Int32)), .val (.ref b1), .val (.int (2 : Int32))] [])) _
    refine XS.iinc X20.here hx rfl (hb hby d1_15) rfl (l' := #[.val (.int (9 : Int32)), .val (.ref b1), .val (.int (3 : Int32))]) rfl ?_
    show Steps p.tables e below (T20.setTop (mkF m 18 #[.val (.int (9 : Int32)), .val (.ref b1), .val (.int (3 : Int32))] [])) _
    refine XS.goto X20.here hx rfl (pc0 := 18) (pc' := 6) rfl (hb hby d1_18) (by decide) (by decide) ?_
    show Steps p.tables e below (T20.setTop (mkF m 6 #[.val (.int (9 : Int32)), .val (.ref b1), .val (.int (3 : Int32))] [])) _
    refine XS.iloadN X20.here hx rfl (hb hby d1_6) rfl ?_
    show Steps p.tables e below (T20.setTop (mkF m 7 #[.val (.int (9 : Int32)), .val (.ref b1), .val (.int (3 : Int32))] [(.int (3 : Int32))])) _
    refine XS.iloadN X20.here hx rfl (hb hby d1_7) rfl ?_
    show Steps p.tables e below (T20.setTop (mkF m 8 #[.val (.int (9 : Int32)), .val (.ref b1), .val (.int (3 : Int32))] [(.int (9 : Int32)), (.int (3 : Int32))])) _
    refine XS.icmpNo X20.here hx rfl (hb hby d1_8) rfl (tlt (by decide : (3 : Int32) < (9 : Int32))).2.1 ?_
    show Steps p.tables e below (T20.setTop (mkF m 11 #[.val (.int (9 : Int32)), .val (.ref b1), .val (.int (3 : Int32))] [])) _
    refine XS.aloadN X20.here hx rfl (hb hby d1_11) rfl rfl ?_
    show Steps p.tables e below (T20.setTop (mkF m 12 #[.val (.int (9 : Int32)), .val (.ref b1), .val (.int (3 : Int32))] [(.ref b1)])) _
    refine XS.iloadN X20.here hx rfl (hb hby d1_12) rfl ?_
    show Steps p.tables e below (T20.setTop (mkF m 13 #[.val (.int (9 : Int32)), .val (.ref b1), .val (.int (3 : Int32))] [(.int (3 : Int32)), (.ref b1)])) _
    refine XS.iloadN X20.here hx rfl (hb hby d1_13) rfl ?_
    show Steps p.tables e below (T20.setTop (mkF m 14 #[.val (.int (9 : Int32)), .val (.ref b1), .val (.int (3 : Int32))] [(.int (3 : Int32)), (.int (3 : Int32)), (.ref b1)])) _
    refine st27 _ ?_
    show Steps p.tables e below (T27.setTop (mkF m 15 #[.val (.int (9 : Int32)), .val (.ref b1), .val (.int (3 : Int32))] [])) _
    refine XS.iinc X27.here hx rfl (hb hby d1_15) rfl (l' := #[.val (.int (9 : Int32)), .val (.ref b1), .val (.int (4 : Int32))]) rfl ?_
    show Steps p.tables e below (T27.setTop (mkF m 18 #[.val (.int (9 : Int32)), .val (.ref b1), .val (.int (4 : Int32))] [])) _
    refine XS.goto X27.here hx rfl (pc0 := 18) (pc' := 6) rfl (hb hby d1_18) (by decide) (by decide) ?_
    show Steps p.tables e below (T27.setTop (mkF m 6 #[.val (.int (9 : Int32)), .val (.ref b1), .val (.int (4 : Int32))] [])) _
    refine XS.iloadN X27.here hx rfl (hb hby d1_6) rfl ?_
    show Steps p.tables e below (T27.setTop (mkF m 7 #[.val (.int (9 : Int32)), .val (.ref b1), .val (.int (4 : Int32))] [(.int (4 : Int32))])) _
    refine XS.iloadN X27.here hx rfl (hb hby d1_7) rfl ?_
    show Steps p.tables e below (T27.setTop (mkF m 8 #[.val (.int (9 : Int32)), .val (.ref b1), .val (.int (4 : Int32))] [(.int (9 : Int32)), (.int (4 : Int32))])) _
    refine XS.icmpNo X27.here hx rfl (hb hby d1_8) rfl (tlt (by decide : (4 : Int32) < (9 : Int32))).2.1 ?_
    show Steps p.tables e below (T27.setTop (mkF m 11 #[.val (.int (9 : Int32)), .val (.ref b1), .val (.int (4 : Int32))] [])) _
    refine XS.aloadN X27.here hx rfl (hb hby d1_11) rfl rfl ?_
    show Steps p.tables e below (T27.setTop (mkF m 12 #[.val (.int (9 : Int32)), .val (.ref b1), .val (.int (4 : Int32))] [(.ref b1)])) _
    refine XS.iloadN X27.here hx rfl (hb hby d1_12) rfl ?_
    show Steps p.tables e below (T27.setTop (mkF m 13 #[.val (.int (9 : Int32)), .val (.ref b1), .val (.int (4 : Int32))] [(.int (4 : Int32)), (.ref b1)])) _
    refine XS.iloadN X27.here hx rfl (hb hby d1_13) rfl ?_
    show Steps p.tables e below (T27.setTop (mkF m 14 #[.val (.int (9 : Int32)), .val (.ref b1), .val (.int (4 : Int32))] [(.int (4 : Int32)), (.int (4 : Int32)), (.ref b1)])) _
    refine st34 _ ?_
    show Steps p.tables e below (T34.setTop (mkF m 15 #[.val (.int (9 : Int32)), .val (.ref b1), .val (.int (4 : Int32))] [])) _
    refine XS.iinc X34.here hx rfl (hb hby d1_15) rfl (l' := #[.val (.int (9 : Int32)), .val (.ref b1), .val (.int (5 : Int32))]) rfl ?_
    show Steps p.tables e below (T34.setTop (mkF m 18 #[.val (.int (9 : Int32)), .val (.ref b1), .val (.int (5 : Int32))] [])) _
    refine XS.goto X34.here hx rfl (pc0 := 18) (pc' := 6) rfl (hb hby d1_18) (by decide) (by decide) ?_
    show Steps p.tables e below (T34.setTop (mkF m 6 #[.val (.int (9 : Int32)), .val (.ref b1), .val (.int (5 : Int32))] [])) _
    refine XS.iloadN X34.here hx rfl (hb hby d1_6) rfl ?_
    show Steps p.tables e below (T34.setTop (mkF m 7 #[.val (.int (9 : Int32)), .val (.ref b1), .val (.int (5 : Int32))] [(.int (5 : Int32))])) _
    refine XS.iloadN X34.here hx rfl (hb hby d1_7) rfl ?_
    show Steps p.tables e below (T34.setTop (mkF m 8 #[.val (.int (9 : Int32)), .val (.ref b1), .val (.int (5 : Int32))] [(.int (9 : Int32)), (.int (5 : Int32))])) _
    refine XS.icmpNo X34.here hx rfl (hb hby d1_8) rfl (tlt (by decide : (5 : Int32) < (9 : Int32))).2.1 ?_
    show Steps p.tables e below (T34.setTop (mkF m 11 #[.val (.int (9 : Int32)), .val (.ref b1), .val (.int (5 : Int32))] [])) _
    refine XS.aloadN X34.here hx rfl (hb hby d1_11) rfl rfl ?_
    show Steps p.tables e below (T34.setTop (mkF m 12 #[.val (.int (9 : Int32)), .val (.ref b1), .val (.int (5 : Int32))] [(.ref b1)])) _
    refine XS.iloadN X34.here hx rfl (hb hby d1_12) rfl ?_
    show Steps p.tables e below (T34.setTop (mkF m 13 #[.val (.int (9 : Int32)), .val (.ref b1), .val (.int (5 : Int32))] [(.int (5 : Int32)), (.ref b1)])) _
    refine XS.iloadN X34.here hx rfl (hb hby d1_13) rfl ?_
    show Steps p.tables e below (T34.setTop (mkF m 14 #[.val (.int (9 : Int32)), .val (.ref b1), .val (.int (5 : Int32))] [(.int (5 : Int32)), (.int (5 : Int32)), (.ref b1)])) _
    refine st41 _ ?_
    show Steps p.tables e below (T41.setTop (mkF m 15 #[.val (.int (9 : Int32)), .val (.ref b1), .val (.int (5 : Int32))] [])) _
    refine XS.iinc X41.here hx rfl (hb hby d1_15) rfl (l' := #[.val (.int (9 : Int32)), .val (.ref b1), .val (.int (6 : Int32))]) rfl ?_
    show Steps p.tables e below (T41.setTop (mkF m 18 #[.val (.int (9 : Int32)), .val (.ref b1), .val (.int (6 : Int32))] [])) _
    refine XS.goto X41.here hx rfl (pc0 := 18) (pc' := 6) rfl (hb hby d1_18) (by decide) (by decide) ?_
    show Steps p.tables e below (T41.setTop (mkF m 6 #[.val (.int (9 : Int32)), .val (.ref b1), .val (.int (6 : Int32))] [])) _
    refine XS.iloadN X41.here hx rfl (hb hby d1_6) rfl ?_
    show Steps p.tables e below (T41.setTop (mkF m 7 #[.val (.int (9 : Int32)), .val (.ref b1), .val (.int (6 : Int32))] [(.int (6 : Int32))])) _
    refine XS.iloadN X41.here hx rfl (hb hby d1_7) rfl ?_
    show Steps p.tables e below (T41.setTop (mkF m 8 #[.val (.int (9 : Int32)), .val (.ref b1), .val (.int (6 : Int32))] [(.int (9 : Int32)), (.int (6 : Int32))])) _
    refine XS.icmpNo X41.here hx rfl (hb hby d1_8) rfl (tlt (by decide : (6 : Int32) < (9 : Int32))).2.1 ?_
    show Steps p.tables e below (T41.setTop (mkF m 11 #[.val (.int (9 : Int32)), .val (.ref b1), .val (.int (6 : Int32))] [])) _
    refine XS.aloadN X41.here hx rfl (hb hby d1_11) rfl rfl ?_
    show Steps p.tables e below (T41.setTop (mkF m 12 #[.val (.int (9 : Int32)), .val (.ref b1), .val (.int (6 : Int32))] [(.ref b1)])) _
    refine XS.iloadN X41.here hx rfl (hb hby d1_12) rfl ?_
    show Steps p.tables e below (T41.setTop (mkF m 13 #[.val (.int (9 : Int32)), .val (.ref b1), .val (.int (6 : Int32))] [(.int (6 : Int32)), (.ref b1)])) _
    refine XS.iloadN X41.here hx rfl (hb hby d1_13) rfl ?_
    show Steps p.tables e below (T41.setTop (mkF m 14 #[.val (.int (9 : Int32)), .val (.ref b1), .val (.int (6 : Int32))] [(.int (6 : Int32)), (.int (6 : Int32)), (.ref b1)])) _
    refine st48 _ ?_
    show Steps p.tables e below (T48.setTop (mkF m 15 #[.val (.int (9 : Int32)), .val (.ref b1), .val (.int (6 : Int32))] [])) _
    refine XS.iinc X48.here hx rfl (hb hby d1_15) rfl (l' := #[.val (.int (9 : Int32)), .val (.ref b1), .val (.int (7 : Int32))]) rfl ?_
    show Steps p.tables e below (T48.setTop (mkF m 18 #[.val (.int (9 : Int32)), .val (.ref b1), .val (.int (7 : Int32))] [])) _
    refine XS.goto X48.here hx rfl (pc0 := 18) (pc' := 6) rfl (hb hby d1_18) (by decide) (by decide) ?_
    show Steps p.tables e below (T48.setTop (mkF m 6 #[.val (.int (9 : Int32)), .val (.ref b1), .val (.int (7 : Int32))] [])) _
    refine XS.iloadN X48.here hx rfl (hb hby d1_6) rfl ?_
    show Steps p.tables e below (T48.setTop (mkF m 7 #[.val (.int (9 : Int32)), .val (.ref b1), .val (.int (7 : Int32))] [(.int (7 : Int32))])) _
    refine XS.iloadN X48.here hx rfl (hb hby d1_7) rfl ?_
    show Steps p.tables e below (T48.setTop (mkF m 8 #[.val (.int (9 : Int32)), .val (.ref b1), .val (.int (7 : Int32))] [(.int (9 : Int32)), (.int (7 : Int32))])) _
    refine XS.icmpNo X48.here hx rfl (hb hby d1_8) rfl (tlt (by decide : (7 : Int32) < (9 : Int32))).2.1 ?_
    show Steps p.tables e below (T48.setTop (mkF m 11 #[.val (.int (9 : Int32)), .val (.ref b1), .val (.int (7 : Int32))] [])) _
    refine XS.aloadN X48.here hx rfl (hb hby d1_11) rfl rfl ?_
    show Steps p.tables e below (T48.setTop (mkF m 12 #[.val (.int (9 : Int32)), .val (.ref b1), .val (.int (7 : Int32))] [(.ref b1)])) _
    refine XS.iloadN X48.here hx rfl (hb hby d1_12) rfl ?_
    show Steps p.tables e below (T48.setTop (mkF m 13 #[.val (.int (9 : Int32)), .val (.ref b1), .val (.int (7 : Int32))] [(.int (7 : Int32)), (.ref b1)])) _
    refine XS.iloadN X48.here hx rfl (hb hby d1_13) rfl ?_
    show Steps p.tables e below (T48.setTop (mkF m 14 #[.val (.int (9 : Int32)), .val (.ref b1), .val (.int (7 : Int32))] [(.int (7 : Int32)), (.int (7 : Int32)), (.ref b1)])) _
    refine st55 _ ?_
    show Steps p.tables e below (T55.setTop (mkF m 15 #[.val (.int (9 : Int32)), .val (.ref b1), .val (.int (7 : Int32))] [])) _
    refine XS.iinc X55.here hx rfl (hb hby d1_15) rfl (l' := #[.val (.int (9 : Int32)), .val (.ref b1), .val (.int (8 : Int32))]) rfl ?_
    show Steps p.tables e below (T55.setTop (mkF m 18 #[.val (.int (9 : Int32)), .val (.ref b1), .val (.int (8 : Int32))] [])) _
    refine XS.goto X55.here hx rfl (pc0 := 18) (pc' := 6) rfl (hb hby d1_18) (by decide) (by decide) ?_
    show Steps p.tables e below (T55.setTop (mkF m 6 #[.val (.int (9 : Int32)), .val (.ref b1), .val (.int (8 : Int32))] [])) _
    refine XS.iloadN X55.here hx rfl (hb hby d1_6) rfl ?_
    show Steps p.tables e below (T55.setTop (mkF m 7 #[.val (.int (9 : Int32)), .val (.ref b1), .val (.int (8 : Int32))] [(.int (8 : Int32))])) _
    refine XS.iloadN X55.here hx rfl (hb hby d1_7) rfl ?_
    show Steps p.tables e below (T55.setTop (mkF m 8 #[.val (.int (9 : Int32)), .val (.ref b1), .val (.int (8 : Int32))] [(.int (9 : Int32)), (.int (8 : Int32))])) _
    refine XS.icmpNo X55.here hx rfl (hb hby d1_8) rfl (tlt (by decide : (8 : Int32) < (9 : Int32))).2.1 ?_
    show Steps p.tables e below (T55.setTop (mkF m 11 #[.val (.int (9 : Int32)), .val (.ref b1), .val (.int (8 : Int32))] [])) _
    refine XS.aloadN X55.here hx rfl (hb hby d1_11) rfl rfl ?_
    show Steps p.tables e below (T55.setTop (mkF m 12 #[.val (.int (9 : Int32)), .val (.ref b1), .val (.int (8 : Int32))] [(.ref b1)])) _
    refine XS.iloadN X55.here hx rfl (hb hby d1_12) rfl ?_
    show Steps p.tables e below (T55.setTop (mkF m 13 #[.val (.int (9 : Int32)), .val (.ref b1), .val (.int (8 : Int32))] [(.int (8 : Int32)), (.ref b1)])) _
    refine XS.iloadN X55.here hx rfl (hb hby d1_13) rfl ?_
    show Steps p.tables e below (T55.setTop (mkF m 14 #[.val (.int (9 : Int32)), .val (.ref b1), .val (.int (8 : Int32))] [(.int (8 : Int32)), (.int (8 : Int32)), (.ref b1)])) _
    refine st62 _ ?_
    show Steps p.tables e below (T62.setTop (mkF m 15 #[.val (.int (9 : Int32)), .val (.ref b1), .val (.int (8 : Int32))] [])) _
    refine XS.iinc X62.here hx rfl (hb hby d1_15) rfl (l' := #[.val (.int (9 : Int32)), .val (.ref b1), .val (.int (9 : Int32))]) rfl ?_
    show Steps p.tables e below (T62.setTop (mkF m 18 #[.val (.int (9 : Int32)), .val (.ref b1), .val (.int (9 : Int32))] [])) _
    refine XS.goto X62.here hx rfl (pc0 := 18) (pc' := 6) rfl (hb hby d1_18) (by decide) (by decide) ?_
    show Steps p.tables e below (T62.setTop (mkF m 6 #[.val (.int (9 : Int32)), .val (.ref b1), .val (.int (9 : Int32))] [])) _
    refine XS.iloadN X62.here hx rfl (hb hby d1_6) rfl ?_
    show Steps p.tables e below (T62.setTop (mkF m 7 #[.val (.int (9 : Int32)), .val (.ref b1), .val (.int (9 : Int32))] [(.int (9 : Int32))])) _
    refine XS.iloadN X62.here hx rfl (hb hby d1_7) rfl ?_
    show Steps p.tables e below (T62.setTop (mkF m 8 #[.val (.int (9 : Int32)), .val (.ref b1), .val (.int (9 : Int32))] [(.int (9 : Int32)), (.int (9 : Int32))])) _
    refine XS.icmpYes X62.here hx rfl (pc0 := 8) (pc' := 21) rfl (hb hby d1_8) rfl (flt (by decide : ¬ ((9 : Int32) < (9 : Int32)))).2.1 (by decide) (by decide) ?_
    show Steps p.tables e below (T62.setTop (mkF m 21 #[.val (.int (9 : Int32)), .val (.ref b1), .val (.int (9 : Int32))] [])) _
    refine XS.aloadN X62.here hx rfl (hb hby d1_21) rfl rfl ?_
    show Steps p.tables e below (T62.setTop (mkF m 22 #[.val (.int (9 : Int32)), .val (.ref b1), .val (.int (9 : Int32))] [(.ref b1)])) _
    exact retOut X62 hx (t := (.array .int)) (i := .areturn) Bd.returns rfl (Or.inr (Or.inr (Or.inr (Or.inr ⟨rfl, rfl, rfl⟩)))) (hb hby d1_22) hr
  · show Q_pos9 Z  h0 n0 _ T62.heap _
    rw [e62]
    exact ⟨b1, k1, rfl, N66, g_b1, sz_b1, K65, f64, f68⟩
def Q_pos10 (Z : State)  (h0 : Heap) (n0 : Nat) (v : Option Value) (h : Heap) (L : List Loc) : Prop := ∃ (o1 : Addr), ∃ (ko1 : ClassId), v = some (.ref o1) ∧ Fr n0 L ∧ n0 ≤ o1 ∧ h0.size ≤ o1 ∧ Keep h0 h [] ∧ Exa Z h o1 "[I" ∧ Arv Z h o1 ko1 .int (10 : Int32) own_ids (.int (0 : Int32))
set_option maxRecDepth 65536 in
set_option maxHeartbeats 40000000 in
theorem rm_pos10 (l : Launch) (Z : State) (a0 : Array Value) (hw : ∀ d ∈ tables_1, d.before a0 Z = true) (ws : List Jvm.Cond)  (h0 : Heap) (n0 : Nat) (Z0 : n0 ≤ h0.size) :
    MetFree l (⟨"com/example/trawl/trawl/gen/FisherYates", "positions", "(I)[I"⟩ : MethodName) (head1 (Jvm.Cond.code (⟨"com/example/trawl/trawl/gen/FisherYates", "positions", "(I)[I"⟩ : MethodName) prog_1_method_2_code 3 (some (.array .int)) :: ws) ({ frames := 0, cells := 1, slots := 16, locals := 0 } : Room)) (fun a U => a = #[(.int (10 : Int32))] ∧ Z.Warmed39 U.vm ∧ U.heap = h0) (fun _ _ _ _ _ => True) (fun _ U o U' => ∃ v L, o = .returned v ∧ Q_pos10 Z  h0 n0 v U'.heap L ∧ FrameEnd U o U' L ({ frames := 0, cells := 1, slots := 16, locals := 0 } : Room).cells ({ frames := 0, cells := 1, slots := 16, locals := 0 } : Room).slots) := by
  refine MetFree.of_bodySF (plainFor_of_name pn_com_example_trawl_trawl_gen_FisherYates) hisR ?_
  intro p e s m args below meth c s₁ Bd hml0 hP hK
  obtain ⟨rfl, hZ, hh⟩ := hP
  have hx := Bd.exec
  have hby := Bd.bytes
  have hml : c.maxLocals = 3 := hml0
  have hown : s.vm.findClass "com/example/trawl/trawl/gen/FisherYates" = some m.cls := findClass_of_methodNamed Bd.named
  have hnm := (name_of_methodNamed Bd.named Bd.method).1
  have X0 : Stand p l e ({ frames := 0, cells := 1, slots := 16, locals := 0 } : Room) s m #[(.int (10 : Int32))] below meth c s₁ [] 0 0 := Stand.of_body Bd
  have e0 : s₁.heap = h0 := by rw [← hh, Bd.state]; rfl
  have N0 := Fr.nil n0
  have pre0 : ∀ t, Steps p.tables e below (s₁.setTop (mkF m 0 #[.val (.int (10 : Int32)), .unset, .unset] [])) t → Steps p.tables e below (s₁.setTop (entryFrame m #[(.int (10 : Int32))] 3)) t := fun t k => castTop (ef_1_I m (10 : Int32)) k
  obtain ⟨T1, h1, k1, X1, e1, E1, A1, Ex1, st1⟩ := newPE X0 hx hZ (hw _ (List.mem_of_getElem? (i := 4) rfl)) e0 (g := (mkF m 1 #[.val (.int (10 : Int32)), .unset, .unset] [(.int (10 : Int32))])) rfl (hb hby d1_1) rfl (by decide) (cap := 10) (by decide) (by decide) (by decide) (by decide) (ad := "[I") (by decide)
  obtain ⟨b1, g1⟩ : ∃ z, z = h0.size := ⟨_, rfl⟩
  rw [← g1] at A1 Ex1 st1
  have g_b1 : n0 ≤ b1 := Nat.le_trans Z0 (Nat.le_of_eq g1.symm)
  have sz_b1 : h0.size ≤ b1 := Nat.le_trans (Keep.refl h0 []).1 (Nat.le_of_eq g1.symm)
  have K2 : Keep h0 h1 [] := (Keep.refl h0 []).ext E1
  have Zs3 : n0 ≤ h1.size := Nat.le_trans Z0 E1.1
  have f4 : Arv Z h1 b1 k1 .int (10 : Int32) [(.int (0 : Int32)), (.int (0 : Int32)), (.int (0 : Int32)), (.int (0 : Int32)), (.int (0 : Int32)), (.int (0 : Int32)), (.int (0 : Int32)), (.int (0 : Int32)), (.int (0 : Int32)), (.int (0 : Int32))] (.int (0 : Int32)) := (Arv.new A1 (by decide)).pad (pad_rep [] (.int (0 : Int32)) 10)
  obtain ⟨clo5, Aro5, qo5, So5, No5, Ho5, Go5⟩ := id f4
  have hino5 : ¬ ((0 : Int32) < 0 ∨ clo5.slots.size ≤ ((0 : Int32)).toNatClampNeg) := inb_of So5 ⟨by decide, by decide⟩
  obtain ⟨T6, h6, X6, e6, W6, st6⟩ := stI X1 hx hZ e1 Aro5 (j := (0 : Int32)) hino5 (g := (mkF m 14 #[.val (.int (10 : Int32)), .val (.ref b1), .val (.int (0 : Int32))] [(.int (0 : Int32)), (.int (0 : Int32)), (.ref b1)])) rfl rfl (hb hby d1_14)
  have f7 : Arv Z h6 b1 k1 .int (10 : Int32) [(.int (0 : Int32)), (.int (0 : Int32)), (.int (0 : Int32)), (.int (0 : Int32)), (.int (0 : Int32)), (.int (0 : Int32)), (.int (0 : Int32)), (.int (0 : Int32)), (.int (0 : Int32)), (.int (0 : Int32))] (.int (0 : Int32)) := Arv.set Aro5 qo5 So5 No5 Ho5 Go5 rfl W6 0 rfl (by decide)
  have f8 : Exa Z h6 b1 "[I" := Ex1.wr W6
  have K9 : Keep h0 h6 [] := K2.wr W6 (Or.inr sz_b1)
  have N10 := Fr.snoc X6 N0 g_b1
  have Zs11 : n0 ≤ h6.size := Nat.le_trans Zs3 (Keep.of_wr W6).1
  obtain ⟨clo12, Aro12, qo12, So12, No12, Ho12, Go12⟩ := id f7
  have hino12 : ¬ ((1 : Int32) < 0 ∨ clo12.slots.size ≤ ((1 : Int32)).toNatClampNeg) := inb_of So12 ⟨by decide, by decide⟩
  obtain ⟨T13, h13, X13, e13, W13, st13⟩ := stI X6 hx hZ e6 Aro12 (j := (1 : Int32)) hino12 (g := (mkF m 14 #[.val (.int (10 : Int32)), .val (.ref b1), .val (.int (1 : Int32))] [(.int (1 : Int32)), (.int (1 : Int32)), (.ref b1)])) rfl rfl (hb hby d1_14)
  have f14 : Arv Z h13 b1 k1 .int (10 : Int32) [(.int (0 : Int32)), (.int (1 : Int32)), (.int (0 : Int32)), (.int (0 : Int32)), (.int (0 : Int32)), (.int (0 : Int32)), (.int (0 : Int32)), (.int (0 : Int32)), (.int (0 : Int32)), (.int (0 : Int32))] (.int (0 : Int32)) := Arv.set Aro12 qo12 So12 No12 Ho12 Go12 rfl W13 1 rfl (by decide)
  have f15 : Exa Z h13 b1 "[I" := f8.wr W13
  have K16 : Keep h0 h13 [] := K9.wr W13 (Or.inr sz_b1)
  have N17 := Fr.snoc X13 N10 g_b1
  have Zs18 : n0 ≤ h13.size := Nat.le_trans Zs11 (Keep.of_wr W13).1
  obtain ⟨clo19, Aro19, qo19, So19, No19, Ho19, Go19⟩ := id f14
  have hino19 : ¬ ((2 : Int32) < 0 ∨ clo19.slots.size ≤ ((2 : Int32)).toNatClampNeg) := inb_of So19 ⟨by decide, by decide⟩
  obtain ⟨T20, h20, X20, e20, W20, st20⟩ := stI X13 hx hZ e13 Aro19 (j := (2 : Int32)) hino19 (g := (mkF m 14 #[.val (.int (10 : Int32)), .val (.ref b1), .val (.int (2 : Int32))] [(.int (2 : Int32)), (.int (2 : Int32)), (.ref b1)])) rfl rfl (hb hby d1_14)
  have f21 : Arv Z h20 b1 k1 .int (10 : Int32) [(.int (0 : Int32)), (.int (1 : Int32)), (.int (2 : Int32)), (.int (0 : Int32)), (.int (0 : Int32)), (.int (0 : Int32)), (.int (0 : Int32)), (.int (0 : Int32)), (.int (0 : Int32)), (.int (0 : Int32))] (.int (0 : Int32)) := Arv.set Aro19 qo19 So19 No19 Ho19 Go19 rfl W20 2 rfl (by decide)
  have f22 : Exa Z h20 b1 "[I" := f15.wr W20
  have K23 : Keep h0 h20 [] := K16.wr W20 (Or.inr sz_b1)
  have N24 := Fr.snoc X20 N17 g_b1
  have Zs25 : n0 ≤ h20.size := Nat.le_trans Zs18 (Keep.of_wr W20).1
  obtain ⟨clo26, Aro26, qo26, So26, No26, Ho26, Go26⟩ := id f21
  have hino26 : ¬ ((3 : Int32) < 0 ∨ clo26.slots.size ≤ ((3 : Int32)).toNatClampNeg) := inb_of So26 ⟨by decide, by decide⟩
  obtain ⟨T27, h27, X27, e27, W27, st27⟩ := stI X20 hx hZ e20 Aro26 (j := (3 : Int32)) hino26 (g := (mkF m 14 #[.val (.int (10 : Int32)), .val (.ref b1), .val (.int (3 : Int32))] [(.int (3 : Int32)), (.int (3 : Int32)), (.ref b1)])) rfl rfl (hb hby d1_14)
  have f28 : Arv Z h27 b1 k1 .int (10 : Int32) [(.int (0 : Int32)), (.int (1 : Int32)), (.int (2 : Int32)), (.int (3 : Int32)), (.int (0 : Int32)), (.int (0 : Int32)), (.int (0 : Int32)), (.int (0 : Int32)), (.int (0 : Int32)), (.int (0 : Int32))] (.int (0 : Int32)) := Arv.set Aro26 qo26 So26 No26 Ho26 Go26 rfl W27 3 rfl (by decide)
  have f29 : Exa Z h27 b1 "[I" := f22.wr W27
  have K30 : Keep h0 h27 [] := K23.wr W27 (Or.inr sz_b1)
  have N31 := Fr.snoc X27 N24 g_b1
  have Zs32 : n0 ≤ h27.size := Nat.le_trans Zs25 (Keep.of_wr W27).1
  obtain ⟨clo33, Aro33, qo33, So33, No33, Ho33, Go33⟩ := id f28
  have hino33 : ¬ ((4 : Int32) < 0 ∨ clo33.slots.size ≤ ((4 : Int32)).toNatClampNeg) := inb_of So33 ⟨by decide, by decide⟩
  obtain ⟨T34, h34, X34, e34, W34, st34⟩ := stI X27 hx hZ e27 Aro33 (j := (4 : Int32)) hino33 (g := (mkF m 14 #[.val (.int (10 : Int32)), .val (.ref b1), .val (.int (4 : Int32))] [(.int (4 : Int32)), (.int (4 : Int32)), (.ref b1)])) rfl rfl (hb hby d1_14)
  have f35 : Arv Z h34 b1 k1 .int (10 : Int32) [(.int (0 : Int32)), (.int (1 : Int32)), (.int (2 : Int32)), (.int (3 : Int32)), (.int (4 : Int32)), (.int (0 : Int32)), (.int (0 : Int32)), (.int (0 : Int32)), (.int (0 : Int32)), (.int (0 : Int32))] (.int (0 : Int32)) := Arv.set Aro33 qo33 So33 No33 Ho33 Go33 rfl W34 4 rfl (by decide)
  have f36 : Exa Z h34 b1 "[I" := f29.wr W34
  have K37 : Keep h0 h34 [] := K30.wr W34 (Or.inr sz_b1)
  have N38 := Fr.snoc X34 N31 g_b1
  have Zs39 : n0 ≤ h34.size := Nat.le_trans Zs32 (Keep.of_wr W34).1
  obtain ⟨clo40, Aro40, qo40, So40, No40, Ho40, Go40⟩ := id f35
  have hino40 : ¬ ((5 : Int32) < 0 ∨ clo40.slots.size ≤ ((5 : Int32)).toNatClampNeg) := inb_of So40 ⟨by decide, by decide⟩
  obtain ⟨T41, h41, X41, e41, W41, st41⟩ := stI X34 hx hZ e34 Aro40 (j := (5 : Int32)) hino40 (g := (mkF m 14 #[.val (.int (10 : Int32)), .val (.ref b1), .val (.int (5 : Int32))] [(.int (5 : Int32)), (.int (5 : Int32)), (.ref b1)])) rfl rfl (hb hby d1_14)
  have f42 : Arv Z h41 b1 k1 .int (10 : Int32) [(.int (0 : Int32)), (.int (1 : Int32)), (.int (2 : Int32)), (.int (3 : Int32)), (.int (4 : Int32)), (.int (5 : Int32)), (.int (0 : Int32)), (.int (0 : Int32)), (.int (0 : Int32)), (.int (0 : Int32))] (.int (0 : Int32)) := Arv.set Aro40 qo40 So40 No40 Ho40 Go40 rfl W41 5 rfl (by decide)
  have f43 : Exa Z h41 b1 "[I" := f36.wr W41
  have K44 : Keep h0 h41 [] := K37.wr W41 (Or.inr sz_b1)
  have N45 := Fr.snoc X41 N38 g_b1
  have Zs46 : n0 ≤ h41.size := Nat.le_trans Zs39 (Keep.of_wr W41).1
  obtain ⟨clo47, Aro47, qo47, So47, No47, Ho47, Go47⟩ := id f42
  have hino47 : ¬ ((6 : Int32) < 0 ∨ clo47.slots.size ≤ ((6 : Int32)).toNatClampNeg) := inb_of So47 ⟨by decide, by decide⟩
  obtain ⟨T48, h48, X48, e48, W48, st48⟩ := stI X41 hx hZ e41 Aro47 (j := (6 : Int32)) hino47 (g := (mkF m 14 #[.val (.int (10 : Int32)), .val (.ref b1), .val (.int (6 : Int32))] [(.int (6 : Int32)), (.int (6 : Int32)), (.ref b1)])) rfl rfl (hb hby d1_14)
  have f49 : Arv Z h48 b1 k1 .int (10 : Int32) [(.int (0 : Int32)), (.int (1 : Int32)), (.int (2 : Int32)), (.int (3 : Int32)), (.int (4 : Int32)), (.int (5 : Int32)), (.int (6 : Int32)), (.int (0 : Int32)), (.int (0 : Int32)), (.int (0 : Int32))] (.int (0 : Int32)) := Arv.set Aro47 qo47 So47 No47 Ho47 Go47 rfl W48 6 rfl (by decide)
  have f50 : Exa Z h48 b1 "[I" := f43.wr W48
  have K51 : Keep h0 h48 [] := K44.wr W48 (Or.inr sz_b1)
  have N52 := Fr.snoc X48 N45 g_b1
  have Zs53 : n0 ≤ h48.size := Nat.le_trans Zs46 (Keep.of_wr W48).1
  obtain ⟨clo54, Aro54, qo54, So54, No54, Ho54, Go54⟩ := id f49
  have hino54 : ¬ ((7 : Int32) < 0 ∨ clo54.slots.size ≤ ((7 : Int32)).toNatClampNeg) := inb_of So54 ⟨by decide, by decide⟩
  obtain ⟨T55, h55, X55, e55, W55, st55⟩ := stI X48 hx hZ e48 Aro54 (j := (7 : Int32)) hino54 (g := (mkF m 14 #[.val (.int (10 : Int32)), .val (.ref b1), .val (.int (7 : Int32))] [(.int (7 : Int32)), (.int (7 : Int32)), (.ref b1)])) rfl rfl (hb hby d1_14)
  have f56 : Arv Z h55 b1 k1 .int (10 : Int32) [(.int (0 : Int32)), (.int (1 : Int32)), (.int (2 : Int32)), (.int (3 : Int32)), (.int (4 : Int32)), (.int (5 : Int32)), (.int (6 : Int32)), (.int (7 : Int32)), (.int (0 : Int32)), (.int (0 : Int32))] (.int (0 : Int32)) := Arv.set Aro54 qo54 So54 No54 Ho54 Go54 rfl W55 7 rfl (by decide)
  have f57 : Exa Z h55 b1 "[I" := f50.wr W55
  have K58 : Keep h0 h55 [] := K51.wr W55 (Or.inr sz_b1)
  have N59 := Fr.snoc X55 N52 g_b1
  have Zs60 : n0 ≤ h55.size := Nat.le_trans Zs53 (Keep.of_wr W55).1
  obtain ⟨clo61, Aro61, qo61, So61, No61, Ho61, Go61⟩ := id f56
  have hino61 : ¬ ((8 : Int32) < 0 ∨ clo61.slots.size ≤ ((8 : Int32)).toNatClampNeg) := inb_of So61 ⟨by decide, by decide⟩
  obtain ⟨T62, h62, X62, e62, W62, st62⟩ := stI X55 hx hZ e55 Aro61 (j := (8 : Int32)) hino61 (g := (mkF m 14 #[.val (.int (10 : Int32)), .val (.ref b1), .val (.int (8 : Int32))] [(.int (8 : Int32)), (.int (8 : Int32)), (.ref b1)])) rfl rfl (hb hby d1_14)
  have f63 : Arv Z h62 b1 k1 .int (10 : Int32) [(.int (0 : Int32)), (.int (1 : Int32)), (.int (2 : Int32)), (.int (3 : Int32)), (.int (4 : Int32)), (.int (5 : Int32)), (.int (6 : Int32)), (.int (7 : Int32)), (.int (8 : Int32)), (.int (0 : Int32))] (.int (0 : Int32)) := Arv.set Aro61 qo61 So61 No61 Ho61 Go61 rfl W62 8 rfl (by decide)
  have f64 : Exa Z h62 b1 "[I" := f57.wr W62
  have K65 : Keep h0 h62 [] := K58.wr W62 (Or.inr sz_b1)
  have N66 := Fr.snoc X62 N59 g_b1
  have Zs67 : n0 ≤ h62.size := Nat.le_trans Zs60 (Keep.of_wr W62).1
  obtain ⟨clo68, Aro68, qo68, So68, No68, Ho68, Go68⟩ := id f63
  have hino68 : ¬ ((9 : Int32) < 0 ∨ clo68.slots.size ≤ ((9 : Int32)).toNatClampNeg) := inb_of So68 ⟨by decide, by decide⟩
  obtain ⟨T69, h69, X69, e69, W69, st69⟩ := stI X62 hx hZ e62 Aro68 (j := (9 : Int32)) hino68 (g := (mkF m 14 #[.val (.int (10 : Int32)), .val (.ref b1), .val (.int (9 : Int32))] [(.int (9 : Int32)), (.int (9 : Int32)), (.ref b1)])) rfl rfl (hb hby d1_14)
  have f70 : Arv Z h69 b1 k1 .int (10 : Int32) [(.int (0 : Int32)), (.int (1 : Int32)), (.int (2 : Int32)), (.int (3 : Int32)), (.int (4 : Int32)), (.int (5 : Int32)), (.int (6 : Int32)), (.int (7 : Int32)), (.int (8 : Int32)), (.int (9 : Int32))] (.int (0 : Int32)) := Arv.set Aro68 qo68 So68 No68 Ho68 Go68 rfl W69 9 rfl (by decide)
  have f71 : Exa Z h69 b1 "[I" := f64.wr W69
  have K72 : Keep h0 h69 [] := K65.wr W69 (Or.inr sz_b1)
  have N73 := Fr.snoc X69 N66 g_b1
  have Zs74 : n0 ≤ h69.size := Nat.le_trans Zs67 (Keep.of_wr W69).1
  have f75 : Arv Z h69 b1 k1 .int (10 : Int32) own_ids (.int (0 : Int32)) := own_conv f70 (by decide)
  obtain ⟨fs, hr, hrun, hended, hW, hsame⟩ := X69.leave (v := some (.ref b1)) (fun h => by rw [Bd.returns] at h; cases h) Bd.notSynchronized
  refine ⟨_, _, pre0 _ ?_, hrun, hended, _, _, rfl, ?_, ⟨_, rfl⟩, hW, hsame.mono (by decide) (by decide)⟩
  · show Steps p.tables e below (s₁.setTop (mkF m 0 #[.val (.int (10 : Int32)), .unset, .unset] [])) _
    refine XS.iloadN X0.here hx rfl (hb hby d1_0) rfl ?_
    show Steps p.tables e below (s₁.setTop (mkF m 1 #[.val (.int (10 : Int32)), .unset, .unset] [(.int (10 : Int32))])) _
    refine st1 _ ?_
    show Steps p.tables e below (T1.setTop (mkF m 3 #[.val (.int (10 : Int32)), .unset, .unset] [(.ref b1)])) _
    refine XS.astoreN X1.here hx rfl (hb hby d1_3) rfl rfl (l' := #[.val (.int (10 : Int32)), .val (.ref b1), .unset]) rfl ?_
    show Steps p.tables e below (T1.setTop (mkF m 4 #[.val (.int (10 : Int32)), .val (.ref b1), .unset] [])) _
    refine XS.iconst X1.here hx rfl (hb hby d1_4) ?_
    show Steps p.tables e below (T1.setTop (mkF m 5 #[.val (.int (10 : Int32)), .val (.ref b1), .unset] [(.int (0 : Int32))])) _
    refine XS.istoreN X1.here hx rfl (hb hby d1_5) rfl (l' := #[.val (.int (10 : Int32)), .val (.ref b1), .val (.int (0 : Int32))]) rfl ?_
    show Steps p.tables e below (T1.setTop (mkF m 6 #[.val (.int (10 : Int32)), .val (.ref b1), .val (.int (0 : Int32))] [])) _
    refine XS.iloadN X1.here hx rfl (hb hby d1_6) rfl ?_
    show Steps p.tables e below (T1.setTop (mkF m 7 #[.val (.int (10 : Int32)), .val (.ref b1), .val (.int (0 : Int32))] [(.int (0 : Int32))])) _
    refine XS.iloadN X1.here hx rfl (hb hby d1_7) rfl ?_
    show Steps p.tables e below (T1.setTop (mkF m 8 #[.val (.int (10 : Int32)), .val (.ref b1), .val (.int (0 : Int32))] [(.int (10 : Int32)), (.int (0 : Int32))])) _
    refine XS.icmpNo X1.here hx rfl (hb hby d1_8) rfl (tlt (by decide : (0 : Int32) < (10 : Int32))).2.1 ?_
    show Steps p.tables e below (T1.setTop (mkF m 11 #[.val (.int (10 : Int32)), .val (.ref b1), .val (.int (0 : Int32))] [])) _
    refine XS.aloadN X1.here hx rfl (hb hby d1_11) rfl rfl ?_
    show Steps p.tables e below (T1.setTop (mkF m 12 #[.val (.int (10 : Int32)), .val (.ref b1), .val (.int (0 : Int32))] [(.ref b1)])) _
    refine XS.iloadN X1.here hx rfl (hb hby d1_12) rfl ?_
    show Steps p.tables e below (T1.setTop (mkF m 13 #[.val (.int (10 : Int32)), .val (.ref b1), .val (.int (0 : Int32))] [(.int (0 : Int32)), (.ref b1)])) _
    refine XS.iloadN X1.here hx rfl (hb hby d1_13) rfl ?_
    show Steps p.tables e below (T1.setTop (mkF m 14 #[.val (.int (10 : Int32)), .val (.ref b1), .val (.int (0 : Int32))] [(.int (0 : Int32)), (.int (0 : Int32)), (.ref b1)])) _
    refine st6 _ ?_
    show Steps p.tables e below (T6.setTop (mkF m 15 #[.val (.int (10 : Int32)), .val (.ref b1), .val (.int (0 : Int32))] [])) _
    refine XS.iinc X6.here hx rfl (hb hby d1_15) rfl (l' := #[.val (.int (10 : Int32)), .val (.ref b1), .val (.int (1 : Int32))]) rfl ?_
    show Steps p.tables e below (T6.setTop (mkF m 18 #[.val (.int (10 : Int32)), .val (.ref b1), .val (.int (1 : Int32))] [])) _
    refine XS.goto X6.here hx rfl (pc0 := 18) (pc' := 6) rfl (hb hby d1_18) (by decide) (by decide) ?_
    show Steps p.tables e below (T6.setTop (mkF m 6 #[.val (.int (10 : Int32)), .val (.ref b1), .val (.int (1 : Int32))] [])) _
    refine XS.iloadN X6.here hx rfl (hb hby d1_6) rfl ?_
    show Steps p.tables e below (T6.setTop (mkF m 7 #[.val (.int (10 : Int32)), .val (.ref b1), .val (.int (1 : Int32))] [(.int (1 : Int32))])) _
    refine XS.iloadN X6.here hx rfl (hb hby d1_7) rfl ?_
    show Steps p.tables e below (T6.setTop (mkF m 8 #[.val (.int (10 : Int32)), .val (.ref b1), .val (.int (1 : Int32))] [(.int (10 : Int32)), (.int (1 : Int32))])) _
    refine XS.icmpNo X6.here hx rfl (hb hby d1_8) rfl (tlt (by decide : (1 : Int32) < (10 : Int32))).2.1 ?_
    show Steps p.tables e below (T6.setTop (mkF m 11 #[.val (.int (10 : Int32)), .val (.ref b1), .val (.int (1 : Int32))] [])) _
    refine XS.aloadN X6.here hx rfl (hb hby d1_11) rfl rfl ?_
    show Steps p.tables e below (T6.setTop (mkF m 12 #[.val (.int (10 : Int32)), .val (.ref b1), .val (.int (1 : Int32))] [(.ref b1)])) _
    refine XS.iloadN X6.here hx rfl (hb hby d1_12) rfl ?_
    show Steps p.tables e below (T6.setTop (mkF m 13 #[.val (.int (10 : Int32)), .val (.ref b1), .val (.int (1 : Int32))] [(.int (1 : Int32)), (.ref b1)])) _
    refine XS.iloadN X6.here hx rfl (hb hby d1_13) rfl ?_
    show Steps p.tables e below (T6.setTop (mkF m 14 #[.val (.int (10 : Int32)), .val (.ref b1), .val (.int (1 : Int32))] [(.int (1 : Int32)), (.int (1 : Int32)), (.ref b1)])) _
    refine st13 _ ?_
    show Steps p.tables e below (T13.setTop (mkF m 15 #[.val (.int (10 : Int32)), .val (.ref b1), .val (.int (1 : Int32))] [])) _
    refine XS.iinc X13.here hx rfl (hb hby d1_15) rfl (l' := #[.val (.int (10 : Int32)), .val (.ref b1), .val (.int (2 : Int32))]) rfl ?_
    show Steps p.tables e below (T13.setTop (mkF m 18 #[.val (.int (10 : Int32)), .val (.ref b1), .val (.int (2 : Int32))] [])) _
    refine XS.goto X13.here hx rfl (pc0 := 18) (pc' := 6) rfl (hb hby d1_18) (by decide) (by decide) ?_
    show Steps p.tables e below (T13.setTop (mkF m 6 #[.val (.int (10 : Int32)), .val (.ref b1), .val (.int (2 : Int32))] [])) _
    refine XS.iloadN X13.here hx rfl (hb hby d1_6) rfl ?_
    show Steps p.tables e below (T13.setTop (mkF m 7 #[.val (.int (10 : Int32)), .val (.ref b1), .val (.int (2 : Int32))] [(.int (2 : Int32))])) _
    refine XS.iloadN X13.here hx rfl (hb hby d1_7) rfl ?_
    show Steps p.tables e below (T13.setTop (mkF m 8 #[.val (.int (10 : Int32)), .val (.ref b1), .val (.int (2 : Int32))] [(.int (10 : Int32)), (.int (2 : Int32))])) _
    refine XS.icmpNo X13.here hx rfl (hb hby d1_8) rfl (tlt (by decide : (2 : Int32) < (10 : Int32))).2.1 ?_
    show Steps p.tables e below (T13.setTop (mkF m 11 #[.val (.int (10 : Int32)), .val (.ref b1), .val (.int (2 : Int32))] [])) _
    refine XS.aloadN X13.here hx rfl (hb hby d1_11) rfl rfl ?_
    show Steps p.tables e below (T13.setTop (mkF m 12 #[.val (.int (10 : Int32)), .val (.ref b1), .val (.int (2 : Int32))] [(.ref b1)])) _
    refine XS.iloadN X13.here hx rfl (hb hby d1_12) rfl ?_
    show Steps p.tables e below (T13.setTop (mkF m 13 #[.val (.int (10 : Int32)), .val (.ref b1), .val (.int (2 : Int32))] [(.int (2 : Int32)), (.ref b1)])) _
    refine XS.iloadN X13.here hx rfl (hb hby d1_13) rfl ?_
    show Steps p.tables e below (T13.setTop (mkF m 14 #[.val (.int (10 : Int32)), .val (.ref b1), .val (.int (2 : Int32))] [(.int (2 : Int32)), (.int (2 : Int32)), (.ref b1)])) _
    refine st20 _ ?_
    show Steps p.tables e below (T20.setTop (mkF m 15 #[.val (.int (10 : Int32)), .val (.ref b1), .val (.int (2 : Int32))] [])) _
    refine XS.iinc X20.here hx rfl (hb hby d1_15) rfl (l' := #[.val (.int (10 : Int32)), .val (.ref b1), .val (.int (3 : Int32))]) rfl ?_
    show Steps p.tables e below (T20.setTop (mkF m 18 #[.val (.int (10 : Int32)), .val (.ref b1), .val (.int (3 : Int32))] [])) _
    refine XS.goto X20.here hx rfl (pc0 := 18) (pc' := 6) rfl (hb hby d1_18) (by decide) (by decide) ?_
    show Steps p.tables e below (T20.setTop (mkF m 6 #[.val (.int (10 : Int32)), .val (.ref b1), .val (.int (3 : Int32))] [])) _
    refine XS.iloadN X20.here hx rfl (hb hby d1_6) rfl ?_
    show Steps p.tables e below (T20.setTop (mkF m 7 #[.val (.int (10 : Int32)), .val (.ref b1), .val (.int (3 : Int32))] [(.int (3 : Int32))])) _
    refine XS.iloadN X20.here hx rfl (hb hby d1_7) rfl ?_
    show Steps p.tables e below (T20.setTop (mkF m 8 #[.val (.int (10 : Int32)), .val (.ref b1), .val (.int (3 : Int32))] [(.int (10 : Int32)), (.int (3 : Int32))])) _
    refine XS.icmpNo X20.here hx rfl (hb hby d1_8) rfl (tlt (by decide : (3 : Int32) < (10 : Int32))).2.1 ?_
    show Steps p.tables e below (T20.setTop (mkF m 11 #[.val (.int (10 : Int32)), .val (.ref b1), .val (.int (3 : Int32))] [])) _
    refine XS.aloadN X20.here hx rfl (hb hby d1_11) rfl rfl ?_
    show Steps p.tables e below (T20.setTop (mkF m 12 #[.val (.int (10 : Int32)), .val (.ref b1), .val (.int (3 : Int32))] [(.ref b1)])) _
    refine XS.iloadN X20.here hx rfl (hb hby d1_12) rfl ?_
    show Steps p.tables e below (T20.setTop (mkF m 13 #[.val (.int (10 : Int32)), .val (.ref b1), .val (.int (3 : Int32))] [(.int (3 : Int32)), (.ref b1)])) _
    refine XS.iloadN X20.here hx rfl (hb hby d1_13) rfl ?_
    show Steps p.tables e below (T20.setTop (mkF m 14 #[.val (.int (10 : Int32)), .val (.ref b1), .val (.int (3 : Int32))] [(.int (3 : Int32)), (.int (3 : Int32)), (.ref b1)])) _
    refine st27 _ ?_
    show Steps p.tables e below (T27.setTop (mkF m 15 #[.val (.int (10 : Int32)), .val (.ref b1), .val (.int (3 : Int32))] [])) _
    refine XS.iinc X27.here hx rfl (hb hby d1_15) rfl (l' := #[.val (.int (10 : Int32)), .val (.ref b1), .val (.int (4 : Int32))]) rfl ?_
    show Steps p.tables e below (T27.setTop (mkF m 18 #[.val (.int (10 : Int32)), .val (.ref b1), .val (.int (4 : Int32))] [])) _
    refine XS.goto X27.here hx rfl (pc0 := 18) (pc' := 6) rfl (hb hby d1_18) (by decide) (by decide) ?_
    show Steps p.tables e below (T27.setTop (mkF m 6 #[.val (.int (10 : Int32)), .val (.ref b1), .val (.int (4 : Int32))] [])) _
    refine XS.iloadN X27.here hx rfl (hb hby d1_6) rfl ?_
    show Steps p.tables e below (T27.setTop (mkF m 7 #[.val (.int (10 : Int32)), .val (.ref b1), .val (.int (4 : Int32))] [(.int (4 : Int32))])) _
    refine XS.iloadN X27.here hx rfl (hb hby d1_7) rfl ?_
    show Steps p.tables e below (T27.setTop (mkF m 8 #[.val (.int (10 : Int32)), .val (.ref b1), .val (.int (4 : Int32))] [(.int (10 : Int32)), (.int (4 : Int32))])) _
    refine XS.icmpNo X27.here hx rfl (hb hby d1_8) rfl (tlt (by decide : (4 : Int32) < (10 : Int32))).2.1 ?_
    show Steps p.tables e below (T27.setTop (mkF m 11 #[.val (.int (10 : Int32)), .val (.ref b1), .val (.int (4 : Int32))] [])) _
    refine XS.aloadN X27.here hx rfl (hb hby d1_11) rfl rfl ?_
    show Steps p.tables e below (T27.setTop (mkF m 12 #[.val (.int (10 : Int32)), .val (.ref b1), .val (.int (4 : Int32))] [(.ref b1)])) _
    refine XS.iloadN X27.here hx rfl (hb hby d1_12) rfl ?_
    show Steps p.tables e below (T27.setTop (mkF m 13 #[.val (.int (10 : Int32)), .val (.ref b1), .val (.int (4 : Int32))] [(.int (4 : Int32)), (.ref b1)])) _
    refine XS.iloadN X27.here hx rfl (hb hby d1_13) rfl ?_
    show Steps p.tables e below (T27.setTop (mkF m 14 #[.val (.int (10 : Int32)), .val (.ref b1), .val (.int (4 : Int32))] [(.int (4 : Int32)), (.int (4 : Int32)), (.ref b1)])) _
    refine st34 _ ?_
    show Steps p.tables e below (T34.setTop (mkF m 15 #[.val (.int (10 : Int32)), .val (.ref b1), .val (.int (4 : Int32))] [])) _
    refine XS.iinc X34.here hx rfl (hb hby d1_15) rfl (l' := #[.val (.int (10 : Int32)), .val (.ref b1), .val (.int (5 : Int32))]) rfl ?_
    show Steps p.tables e below (T34.setTop (mkF m 18 #[.val (.int (10 : Int32)), .val (.ref b1), .val (.int (5 : Int32))] [])) _
    refine XS.goto X34.here hx rfl (pc0 := 18) (pc' := 6) rfl (hb hby d1_18) (by decide) (by decide) ?_
    show Steps p.tables e below (T34.setTop (mkF m 6 #[.val (.int (10 : Int32)), .val (.ref b1), .val (.int (5 : Int32))] [])) _
    refine XS.iloadN X34.here hx rfl (hb hby d1_6) rfl ?_
    show Steps p.tables e below (T34.setTop (mkF m 7 #[.val (.int (10 : Int32)), .val (.ref b1), .val (.int (5 : Int32))] [(.int (5 : Int32))])) _
    refine XS.iloadN X34.here hx rfl (hb hby d1_7) rfl ?_
    show Steps p.tables e below (T34.setTop (mkF m 8 #[.val (.int (10 : Int32)), .val (.ref b1), .val (.int (5 : Int32))] [(.int (10 : Int32)), (.int (5 : Int32))])) _
    refine XS.icmpNo X34.here hx rfl (hb hby d1_8) rfl (tlt (by decide : (5 : Int32) < (10 : Int32))).2.1 ?_
    show Steps p.tables e below (T34.setTop (mkF m 11 #[.val (.int (10 : Int32)), .val (.ref b1), .val (.int (5 : Int32))] [])) _
    refine XS.aloadN X34.here hx rfl (hb hby d1_11) rfl rfl ?_
    show Steps p.tables e below (T34.setTop (mkF m 12 #[.val (.int (10 : Int32)), .val (.ref b1), .val (.int (5 : Int32))] [(.ref b1)])) _
    refine XS.iloadN X34.here hx rfl (hb hby d1_12) rfl ?_
    show Steps p.tables e below (T34.setTop (mkF m 13 #[.val (.int (10 : Int32)), .val (.ref b1), .val (.int (5 : Int32))] [(.int (5 : Int32)), (.ref b1)])) _
    refine XS.iloadN X34.here hx rfl (hb hby d1_13) rfl ?_
    show Steps p.tables e below (T34.setTop (mkF m 14 #[.val (.int (10 : Int32)), .val (.ref b1), .val (.int (5 : Int32))] [(.int (5 : Int32)), (.int (5 : Int32)), (.ref b1)])) _
    refine st41 _ ?_
    show Steps p.tables e below (T41.setTop (mkF m 15 #[.val (.int (10 : Int32)), .val (.ref b1), .val (.int (5 : Int32))] [])) _
    refine XS.iinc X41.here hx rfl (hb hby d1_15) rfl (l' := #[.val (.int (10 : Int32)), .val (.ref b1), .val (.int (6 : Int32))]) rfl ?_
    show Steps p.tables e below (T41.setTop (mkF m 18 #[.val (.int (10 : Int32)), .val (.ref b1), .val (.int (6 : Int32))] [])) _
    refine XS.goto X41.here hx rfl (pc0 := 18) (pc' := 6) rfl (hb hby d1_18) (by decide) (by decide) ?_
    show Steps p.tables e below (T41.setTop (mkF m 6 #[.val (.int (10 : Int32)), .val (.ref b1), .val (.int (6 : Int32))] [])) _
    refine XS.iloadN X41.here hx rfl (hb hby d1_6) rfl ?_
    show Steps p.tables e below (T41.setTop (mkF m 7 #[.val (.int (10 : Int32)), .val (.ref b1), .val (.int (6 : Int32))] [(.int (6 : Int32))])) _
    refine XS.iloadN X41.here hx rfl (hb hby d1_7) rfl ?_
    show Steps p.tables e below (T41.setTop (mkF m 8 #[.val (.int (10 : Int32)), .val (.ref b1), .val (.int (6 : Int32))] [(.int (10 : Int32)), (.int (6 : Int32))])) _
    refine XS.icmpNo X41.here hx rfl (hb hby d1_8) rfl (tlt (by decide : (6 : Int32) < (10 : Int32))).2.1 ?_
    show Steps p.tables e below (T41.setTop (mkF m 11 #[.val (.int (10 : Int32)), .val (.ref b1), .val (.int (6 : Int32))] [])) _
    refine XS.aloadN X41.here hx rfl (hb hby d1_11) rfl rfl ?_
    show Steps p.tables e below (T41.setTop (mkF m 12 #[.val (.int (10 : Int32)), .val (.ref b1), .val (.int (6 : Int32))] [(.ref b1)])) _
    refine XS.iloadN X41.here hx rfl (hb hby d1_12) rfl ?_
    show Steps p.tables e below (T41.setTop (mkF m 13 #[.val (.int (10 : Int32)), .val (.ref b1), .val (.int (6 : Int32))] [(.int (6 : Int32)), (.ref b1)])) _
    refine XS.iloadN X41.here hx rfl (hb hby d1_13) rfl ?_
    show Steps p.tables e below (T41.setTop (mkF m 14 #[.val (.int (10 : Int32)), .val (.ref b1), .val (.int (6 : Int32))] [(.int (6 : Int32)), (.int (6 : Int32)), (.ref b1)])) _
    refine st48 _ ?_
    show Steps p.tables e below (T48.setTop (mkF m 15 #[.val (.int (10 : Int32)), .val (.ref b1), .val (.int (6 : Int32))] [])) _
    refine XS.iinc X48.here hx rfl (hb hby d1_15) rfl (l' := #[.val (.int (10 : Int32)), .val (.ref b1), .val (.int (7 : Int32))]) rfl ?_
    show Steps p.tables e below (T48.setTop (mkF m 18 #[.val (.int (10 : Int32)), .val (.ref b1), .val (.int (7 : Int32))] [])) _
    refine XS.goto X48.here hx rfl (pc0 := 18) (pc' := 6) rfl (hb hby d1_18) (by decide) (by decide) ?_
    show Steps p.tables e below (T48.setTop (mkF m 6 #[.val (.int (10 : Int32)), .val (.ref b1), .val (.int (7 : Int32))] [])) _
    refine XS.iloadN X48.here hx rfl (hb hby d1_6) rfl ?_
    show Steps p.tables e below (T48.setTop (mkF m 7 #[.val (.int (10 : Int32)), .val (.ref b1), .val (.int (7 : Int32))] [(.int (7 : Int32))])) _
    refine XS.iloadN X48.here hx rfl (hb hby d1_7) rfl ?_
    show Steps p.tables e below (T48.setTop (mkF m 8 #[.val (.int (10 : Int32)), .val (.ref b1), .val (.int (7 : Int32))] [(.int (10 : Int32)), (.int (7 : Int32))])) _
    refine XS.icmpNo X48.here hx rfl (hb hby d1_8) rfl (tlt (by decide : (7 : Int32) < (10 : Int32))).2.1 ?_
    show Steps p.tables e below (T48.setTop (mkF m 11 #[.val (.int (10 : Int32)), .val (.ref b1), .val (.int (7 : Int32))] [])) _
    refine XS.aloadN X48.here hx rfl (hb hby d1_11) rfl rfl ?_
    show Steps p.tables e below (T48.setTop (mkF m 12 #[.val (.int (10 : Int32)), .val (.ref b1), .val (.int (7 : Int32))] [(.ref b1)])) _
    refine XS.iloadN X48.here hx rfl (hb hby d1_12) rfl ?_
    show Steps p.tables e below (T48.setTop (mkF m 13 #[.val (.int (10 : Int32)), .val (.ref b1), .val (.int (7 : Int32))] [(.int (7 : Int32)), (.ref b1)])) _
    refine XS.iloadN X48.here hx rfl (hb hby d1_13) rfl ?_
    show Steps p.tables e below (T48.setTop (mkF m 14 #[.val (.int (10 : Int32)), .val (.ref b1), .val (.int (7 : Int32))] [(.int (7 : Int32)), (.int (7 : Int32)), (.ref b1)])) _
    refine st55 _ ?_
    show Steps p.tables e below (T55.setTop (mkF m 15 #[.val (.int (10 : Int32)), .val (.ref b1), .val (.int (7 : Int32))] [])) _
    refine XS.iinc X55.here hx rfl (hb hby d1_15) rfl (l' := #[.val (.int (10 : Int32)), .val (.ref b1), .val (.int (8 : Int32))]) rfl ?_
    show Steps p.tables e below (T55.setTop (mkF m 18 #[.val (.int (10 : Int32)), .val (.ref b1), .val (.int (8 : Int32))] [])) _
    refine XS.goto X55.here hx rfl (pc0 := 18) (pc' := 6) rfl (hb hby d1_18) (by decide) (by decide) ?_
    show Steps p.tables e below (T55.setTop (mkF m 6 #[.val (.int (10 : Int32)), .val (.ref b1), .val (.int (8 : Int32))] [])) _
    refine XS.iloadN X55.here hx rfl (hb hby d1_6) rfl ?_
    show Steps p.tables e below (T55.setTop (mkF m 7 #[.val (.int (10 : Int32)), .val (.ref b1), .val (.int (8 : Int32))] [(.int (8 : Int32))])) _
    refine XS.iloadN X55.here hx rfl (hb hby d1_7) rfl ?_
    show Steps p.tables e below (T55.setTop (mkF m 8 #[.val (.int (10 : Int32)), .val (.ref b1), .val (.int (8 : Int32))] [(.int (10 : Int32)), (.int (8 : Int32))])) _
    refine XS.icmpNo X55.here hx rfl (hb hby d1_8) rfl (tlt (by decide : (8 : Int32) < (10 : Int32))).2.1 ?_
    show Steps p.tables e below (T55.setTop (mkF m 11 #[.val (.int (10 : Int32)), .val (.ref b1), .val (.int (8 : Int32))] [])) _
    refine XS.aloadN X55.here hx rfl (hb hby d1_11) rfl rfl ?_
    show Steps p.tables e below (T55.setTop (mkF m 12 #[.val (.int (10 : Int32)), .val (.ref b1), .val (.int (8 : Int32))] [(.ref b1)])) _
    refine XS.iloadN X55.here hx rfl (hb hby d1_12) rfl ?_
    show Steps p.tables e below (T55.setTop (mkF m 13 #[.val (.int (10 : Int32)), .val (.ref b1), .val (.int (8 : Int32))] [(.int (8 : Int32)), (.ref b1)])) _
    refine XS.iloadN X55.here hx rfl (hb hby d1_13) rfl ?_
    show Steps p.tables e below (T55.setTop (mkF m 14 #[.val (.int (10 : Int32)), .val (.ref b1), .val (.int (8 : Int32))] [(.int (8 : Int32)), (.int (8 : Int32)), (.ref b1)])) _
    refine st62 _ ?_
    show Steps p.tables e below (T62.setTop (mkF m 15 #[.val (.int (10 : Int32)), .val (.ref b1), .val (.int (8 : Int32))] [])) _
    refine XS.iinc X62.here hx rfl (hb hby d1_15) rfl (l' := #[.val (.int (10 : Int32)), .val (.ref b1), .val (.int (9 : Int32))]) rfl ?_
    show Steps p.tables e below (T62.setTop (mkF m 18 #[.val (.int (10 : Int32)), .val (.ref b1), .val (.int (9 : Int32))] [])) _
    refine XS.goto X62.here hx rfl (pc0 := 18) (pc' := 6) rfl (hb hby d1_18) (by decide) (by decide) ?_
    show Steps p.tables e below (T62.setTop (mkF m 6 #[.val (.int (10 : Int32)), .val (.ref b1), .val (.int (9 : Int32))] [])) _
    refine XS.iloadN X62.here hx rfl (hb hby d1_6) rfl ?_
    show Steps p.tables e below (T62.setTop (mkF m 7 #[.val (.int (10 : Int32)), .val (.ref b1), .val (.int (9 : Int32))] [(.int (9 : Int32))])) _
    refine XS.iloadN X62.here hx rfl (hb hby d1_7) rfl ?_
    show Steps p.tables e below (T62.setTop (mkF m 8 #[.val (.int (10 : Int32)), .val (.ref b1), .val (.int (9 : Int32))] [(.int (10 : Int32)), (.int (9 : Int32))])) _
    refine XS.icmpNo X62.here hx rfl (hb hby d1_8) rfl (tlt (by decide : (9 : Int32) < (10 : Int32))).2.1 ?_
    show Steps p.tables e below (T62.setTop (mkF m 11 #[.val (.int (10 : Int32)), .val (.ref b1), .val (.int (9 : Int32))] [])) _
    refine XS.aloadN X62.here hx rfl (hb hby d1_11) rfl rfl ?_
    show Steps p.tables e below (T62.setTop (mkF m 12 #[.val (.int (10 : Int32)), .val (.ref b1), .val (.int (9 : Int32))] [(.ref b1)])) _
    refine XS.iloadN X62.here hx rfl (hb hby d1_12) rfl ?_
    show Steps p.tables e below (T62.setTop (mkF m 13 #[.val (.int (10 : Int32)), .val (.ref b1), .val (.int (9 : Int32))] [(.int (9 : Int32)), (.ref b1)])) _
    refine XS.iloadN X62.here hx rfl (hb hby d1_13) rfl ?_
    show Steps p.tables e below (T62.setTop (mkF m 14 #[.val (.int (10 : Int32)), .val (.ref b1), .val (.int (9 : Int32))] [(.int (9 : Int32)), (.int (9 : Int32)), (.ref b1)])) _
    refine st69 _ ?_
    show Steps p.tables e below (T69.setTop (mkF m 15 #[.val (.int (10 : Int32)), .val (.ref b1), .val (.int (9 : Int32))] [])) _
    refine XS.iinc X69.here hx rfl (hb hby d1_15) rfl (l' := #[.val (.int (10 : Int32)), .val (.ref b1), .val (.int (10 : Int32))]) rfl ?_
    show Steps p.tables e below (T69.setTop (mkF m 18 #[.val (.int (10 : Int32)), .val (.ref b1), .val (.int (10 : Int32))] [])) _
    refine XS.goto X69.here hx rfl (pc0 := 18) (pc' := 6) rfl (hb hby d1_18) (by decide) (by decide) ?_
    show Steps p.tables e below (T69.setTop (mkF m 6 #[.val (.int (10 : Int32)), .val (.ref b1), .val (.int (10 : Int32))] [])) _
    refine XS.iloadN X69.here hx rfl (hb hby d1_6) rfl ?_
    show Steps p.tables e below (T69.setTop (mkF m 7 #[.val (.int (10 : Int32)), .val (.ref b1), .val (.int (10 : Int32))] [(.int (10 : Int32))])) _
    refine XS.iloadN X69.here hx rfl (hb hby d1_7) rfl ?_
    show Steps p.tables e below (T69.setTop (mkF m 8 #[.val (.int (10 : Int32)), .val (.ref b1), .val (.int (10 : Int32))] [(.int (10 : Int32)), (.int (10 : Int32))])) _
    refine XS.icmpYes X69.here hx rfl (pc0 := 8) (pc' := 21) rfl (hb hby d1_8) rfl (flt (by decide : ¬ ((10 : Int32) < (10 : Int32)))).2.1 (by decide) (by decide) ?_
    show Steps p.tables e below (T69.setTop (mkF m 21 #[.val (.int (10 : Int32)), .val (.ref b1), .val (.int (10 : Int32))] [])) _
    refine XS.aloadN X69.here hx rfl (hb hby d1_21) rfl rfl ?_
    show Steps p.tables e below (T69.setTop (mkF m 22 #[.val (.int (10 : Int32)), .val (.ref b1), .val (.int (10 : Int32))] [(.ref b1)])) _
    exact retOut X69 hx (t := (.array .int)) (i := .areturn) Bd.returns rfl (Or.inr (Or.inr (Or.inr (Or.inr ⟨rfl, rfl, rfl⟩)))) (hb hby d1_22) hr
  · show Q_pos10 Z  h0 n0 _ T69.heap _
    rw [e69]
    exact ⟨b1, k1, rfl, N73, g_b1, sz_b1, K72, f71, f75⟩
def Q_pos11 (Z : State)  (h0 : Heap) (n0 : Nat) (v : Option Value) (h : Heap) (L : List Loc) : Prop := ∃ (o1 : Addr), ∃ (ko1 : ClassId), v = some (.ref o1) ∧ Fr n0 L ∧ n0 ≤ o1 ∧ h0.size ≤ o1 ∧ Keep h0 h [] ∧ Exa Z h o1 "[I" ∧ Arv Z h o1 ko1 .int (11 : Int32) own_ids (.int (0 : Int32))
set_option maxRecDepth 65536 in
set_option maxHeartbeats 40000000 in
theorem rm_pos11 (l : Launch) (Z : State) (a0 : Array Value) (hw : ∀ d ∈ tables_1, d.before a0 Z = true) (ws : List Jvm.Cond)  (h0 : Heap) (n0 : Nat) (Z0 : n0 ≤ h0.size) :
    MetFree l (⟨"com/example/trawl/trawl/gen/FisherYates", "positions", "(I)[I"⟩ : MethodName) (head1 (Jvm.Cond.code (⟨"com/example/trawl/trawl/gen/FisherYates", "positions", "(I)[I"⟩ : MethodName) prog_1_method_2_code 3 (some (.array .int)) :: ws) ({ frames := 0, cells := 1, slots := 16, locals := 0 } : Room)) (fun a U => a = #[(.int (11 : Int32))] ∧ Z.Warmed39 U.vm ∧ U.heap = h0) (fun _ _ _ _ _ => True) (fun _ U o U' => ∃ v L, o = .returned v ∧ Q_pos11 Z  h0 n0 v U'.heap L ∧ FrameEnd U o U' L ({ frames := 0, cells := 1, slots := 16, locals := 0 } : Room).cells ({ frames := 0, cells := 1, slots := 16, locals := 0 } : Room).slots) := by
  refine MetFree.of_bodySF (plainFor_of_name pn_com_example_trawl_trawl_gen_FisherYates) hisR ?_
  intro p e s m args below meth c s₁ Bd hml0 hP hK
  obtain ⟨rfl, hZ, hh⟩ := hP
  have hx := Bd.exec
  have hby := Bd.bytes
  have hml : c.maxLocals = 3 := hml0
  have hown : s.vm.findClass "com/example/trawl/trawl/gen/FisherYates" = some m.cls := findClass_of_methodNamed Bd.named
  have hnm := (name_of_methodNamed Bd.named Bd.method).1
  have X0 : Stand p l e ({ frames := 0, cells := 1, slots := 16, locals := 0 } : Room) s m #[(.int (11 : Int32))] below meth c s₁ [] 0 0 := Stand.of_body Bd
  have e0 : s₁.heap = h0 := by rw [← hh, Bd.state]; rfl
  have N0 := Fr.nil n0
  have pre0 : ∀ t, Steps p.tables e below (s₁.setTop (mkF m 0 #[.val (.int (11 : Int32)), .unset, .unset] [])) t → Steps p.tables e below (s₁.setTop (entryFrame m #[(.int (11 : Int32))] 3)) t := fun t k => castTop (ef_1_I m (11 : Int32)) k
  obtain ⟨T1, h1, k1, X1, e1, E1, A1, Ex1, st1⟩ := newPE X0 hx hZ (hw _ (List.mem_of_getElem? (i := 4) rfl)) e0 (g := (mkF m 1 #[.val (.int (11 : Int32)), .unset, .unset] [(.int (11 : Int32))])) rfl (hb hby d1_1) rfl (by decide) (cap := 11) (by decide) (by decide) (by decide) (by decide) (ad := "[I") (by decide)
  obtain ⟨b1, g1⟩ : ∃ z, z = h0.size := ⟨_, rfl⟩
  rw [← g1] at A1 Ex1 st1
  have g_b1 : n0 ≤ b1 := Nat.le_trans Z0 (Nat.le_of_eq g1.symm)
  have sz_b1 : h0.size ≤ b1 := Nat.le_trans (Keep.refl h0 []).1 (Nat.le_of_eq g1.symm)
  have K2 : Keep h0 h1 [] := (Keep.refl h0 []).ext E1
  have Zs3 : n0 ≤ h1.size := Nat.le_trans Z0 E1.1
  have f4 : Arv Z h1 b1 k1 .int (11 : Int32) [(.int (0 : Int32)), (.int (0 : Int32)), (.int (0 : Int32)), (.int (0 : Int32)), (.int (0 : Int32)), (.int (0 : Int32)), (.int (0 : Int32)), (.int (0 : Int32)), (.int (0 : Int32)), (.int (0 : Int32)), (.int (0 : Int32))] (.int (0 : Int32)) := (Arv.new A1 (by decide)).pad (pad_rep [] (.int (0 : Int32)) 11)
  obtain ⟨clo5, Aro5, qo5, So5, No5, Ho5, Go5⟩ := id f4
  have hino5 : ¬ ((0 : Int32) < 0 ∨ clo5.slots.size ≤ ((0 : Int32)).toNatClampNeg) := inb_of So5 ⟨by decide, by decide⟩
  obtain ⟨T6, h6, X6, e6, W6, st6⟩ := stI X1 hx hZ e1 Aro5 (j := (0 : Int32)) hino5 (g := (mkF m 14 #[.val (.int (11 : Int32)), .val (.ref b1), .val (.int (0 : Int32))] [(.int (0 : Int32)), (.int (0 : Int32)), (.ref b1)])) rfl rfl (hb hby d1_14)
  have f7 : Arv Z h6 b1 k1 .int (11 : Int32) [(.int (0 : Int32)), (.int (0 : Int32)), (.int (0 : Int32)), (.int (0 : Int32)), (.int (0 : Int32)), (.int (0 : Int32)), (.int (0 : Int32)), (.int (0 : Int32)), (.int (0 : Int32)), (.int (0 : Int32)), (.int (0 : Int32))] (.int (0 : Int32)) := Arv.set Aro5 qo5 So5 No5 Ho5 Go5 rfl W6 0 rfl (by decide)
  have f8 : Exa Z h6 b1 "[I" := Ex1.wr W6
  have K9 : Keep h0 h6 [] := K2.wr W6 (Or.inr sz_b1)
  have N10 := Fr.snoc X6 N0 g_b1
  have Zs11 : n0 ≤ h6.size := Nat.le_trans Zs3 (Keep.of_wr W6).1
  obtain ⟨clo12, Aro12, qo12, So12, No12, Ho12, Go12⟩ := id f7
  have hino12 : ¬ ((1 : Int32) < 0 ∨ clo12.slots.size ≤ ((1 : Int32)).toNatClampNeg) := inb_of So12 ⟨by decide, by decide⟩
  obtain ⟨T13, h13, X13, e13, W13, st13⟩ := stI X6 hx hZ e6 Aro12 (j := (1 : Int32)) hino12 (g := (mkF m 14 #[.val (.int (11 : Int32)), .val (.ref b1), .val (.int (1 : Int32))] [(.int (1 : Int32)), (.int (1 : Int32)), (.ref b1)])) rfl rfl (hb hby d1_14)
  have f14 : Arv Z h13 b1 k1 .int (11 : Int32) [(.int (0 : Int32)), (.int (1 : Int32)), (.int (0 : Int32)), (.int (0 : Int32)), (.int (0 : Int32)), (.int (0 : Int32)), (.int (0 : Int32)), (.int (0 : Int32)), (.int (0 : Int32)), (.int (0 : Int32)), (.int (0 : Int32))] (.int (0 : Int32)) := Arv.set Aro12 qo12 So12 No12 Ho12 Go12 rfl W13 1 rfl (by decide)
  have f15 : Exa Z h13 b1 "[I" := f8.wr W13
  have K16 : Keep h0 h13 [] := K9.wr W13 (Or.inr sz_b1)
  have N17 := Fr.snoc X13 N10 g_b1
  have Zs18 : n0 ≤ h13.size := Nat.le_trans Zs11 (Keep.of_wr W13).1
  obtain ⟨clo19, Aro19, qo19, So19, No19, Ho19, Go19⟩ := id f14
  have hino19 : ¬ ((2 : Int32) < 0 ∨ clo19.slots.size ≤ ((2 : Int32)).toNatClampNeg) := inb_of So19 ⟨by decide, by decide⟩
  obtain ⟨T20, h20, X20, e20, W20, st20⟩ := stI X13 hx hZ e13 Aro19 (j := (2 : Int32)) hino19 (g := (mkF m 14 #[.val (.int (11 : Int32)), .val (.ref b1), .val (.int (2 : Int32))] [(.int (2 : Int32)), (.int (2 : Int32)), (.ref b1)])) rfl rfl (hb hby d1_14)
  have f21 : Arv Z h20 b1 k1 .int (11 : Int32) [(.int (0 : Int32)), (.int (1 : Int32)), (.int (2 : Int32)), (.int (0 : Int32)), (.int (0 : Int32)), (.int (0 : Int32)), (.int (0 : Int32)), (.int (0 : Int32)), (.int (0 : Int32)), (.int (0 : Int32)), (.int (0 : Int32))] (.int (0 : Int32)) := Arv.set Aro19 qo19 So19 No19 Ho19 Go19 rfl W20 2 rfl (by decide)
  have f22 : Exa Z h20 b1 "[I" := f15.wr W20
  have K23 : Keep h0 h20 [] := K16.wr W20 (Or.inr sz_b1)
  have N24 := Fr.snoc X20 N17 g_b1
  have Zs25 : n0 ≤ h20.size := Nat.le_trans Zs18 (Keep.of_wr W20).1
  obtain ⟨clo26, Aro26, qo26, So26, No26, Ho26, Go26⟩ := id f21
  have hino26 : ¬ ((3 : Int32) < 0 ∨ clo26.slots.size ≤ ((3 : Int32)).toNatClampNeg) := inb_of So26 ⟨by decide, by decide⟩
  obtain ⟨T27, h27, X27, e27, W27, st27⟩ := stI X20 hx hZ e20 Aro26 (j := (3 : Int32)) hino26 (g := (mkF m 14 #[.val (.int (11 : Int32)), .val (.ref b1), .val (.int (3 : Int32))] [(.int (3 : Int32)), (.int (3 : Int32)), (.ref b1)])) rfl rfl (hb hby d1_14)
  have f28 : Arv Z h27 b1 k1 .int (11 : Int32) [(.int (0 : Int32)), (.int (1 : Int32)), (.int (2 : Int32)), (.int (3 : Int32)), (.int (0 : Int32)), (.int (0 : Int32)), (.int (0 : Int32)), (.int (0 : Int32)), (.int (0 : Int32)), (.int (0 : Int32)), (.int (0 : Int32))] (.int (0 : Int32)) := Arv.set Aro26 qo26 So26 No26 Ho26 Go26 rfl W27 3 rfl (by decide)
  have f29 : Exa Z h27 b1 "[I" := f22.wr W27
  have K30 : Keep h0 h27 [] := K23.wr W27 (Or.inr sz_b1)
  have N31 := Fr.snoc X27 N24 g_b1
  have Zs32 : n0 ≤ h27.size := Nat.le_trans Zs25 (Keep.of_wr W27).1
  obtain ⟨clo33, Aro33, qo33, So33, No33, Ho33, Go33⟩ := id f28
  have hino33 : ¬ ((4 : Int32) < 0 ∨ clo33.slots.size ≤ ((4 : Int32)).toNatClampNeg) := inb_of So33 ⟨by decide, by decide⟩
  obtain ⟨T34, h34, X34, e34, W34, st34⟩ := stI X27 hx hZ e27 Aro33 (j := (4 : Int32)) hino33 (g := (mkF m 14 #[.val (.int (11 : Int32)), .val (.ref b1), .val (.int (4 : Int32))] [(.int (4 : Int32)), (.int (4 : Int32)), (.ref b1)])) rfl rfl (hb hby d1_14)
  have f35 : Arv Z h34 b1 k1 .int (11 : Int32) [(.int (0 : Int32)), (.int (1 : Int32)), (.int (2 : Int32)), (.int (3 : Int32)), (.int (4 : Int32)), (.int (0 : Int32)), (.int (0 : Int32)), (.int (0 : Int32)), (.int (0 : Int32)), (.int (0 : Int32)), (.int (0 : Int32))] (.int (0 : Int32)) := Arv.set Aro33 qo33 So33 No33 Ho33 Go33 rfl W34 4 rfl (by decide)
  have f36 : Exa Z h34 b1 "[I" := f29.wr W34
  have K37 : Keep h0 h34 [] := K30.wr W34 (Or.inr sz_b1)
  have N38 := Fr.snoc X34 N31 g_b1
  have Zs39 : n0 ≤ h34.size := Nat.le_trans Zs32 (Keep.of_wr W34).1
  obtain ⟨clo40, Aro40, qo40, So40, No40, Ho40, Go40⟩ := id f35
  have hino40 : ¬ ((5 : Int32) < 0 ∨ clo40.slots.size ≤ ((5 : Int32)).toNatClampNeg) := inb_of So40 ⟨by decide, by decide⟩
  obtain ⟨T41, h41, X41, e41, W41, st41⟩ := stI X34 hx hZ e34 Aro40 (j := (5 : Int32)) hino40 (g := (mkF m 14 #[.val (.int (11 : Int32)), .val (.ref b1), .val (.int (5 : Int32))] [(.int (5 : Int32)), (.int (5 : Int32)), (.ref b1)])) rfl rfl (hb hby d1_14)
  have f42 : Arv Z h41 b1 k1 .int (11 : Int32) [(.int (0 : Int32)), (.int (1 : Int32)), (.int (2 : Int32)), (.int (3 : Int32)), (.int (4 : Int32)), (.int (5 : Int32)), (.int (0 : Int32)), (.int (0 : Int32)), (.int (0 : Int32)), (.int (0 : Int32)), (.int (0 : Int32))] (.int (0 : Int32)) := Arv.set Aro40 qo40 So40 No40 Ho40 Go40 rfl W41 5 rfl (by decide)
  have f43 : Exa Z h41 b1 "[I" := f36.wr W41
  have K44 : Keep h0 h41 [] := K37.wr W41 (Or.inr sz_b1)
  have N45 := Fr.snoc X41 N38 g_b1
  have Zs46 : n0 ≤ h41.size := Nat.le_trans Zs39 (Keep.of_wr W41).1
  obtain ⟨clo47, Aro47, qo47, So47, No47, Ho47, Go47⟩ := id f42
  have hino47 : ¬ ((6 : Int32) < 0 ∨ clo47.slots.size ≤ ((6 : Int32)).toNatClampNeg) := inb_of So47 ⟨by decide, by decide⟩
  obtain ⟨T48, h48, X48, e48, W48, st48⟩ := stI X41 hx hZ e41 Aro47 (j := (6 : Int32)) hino47 (g := (mkF m 14 #[.val (.int (11 : Int32)), .val (.ref b1), .val (.int (6 : Int32))] [(.int (6 : Int32)), (.int (6 : Int32)), (.ref b1)])) rfl rfl (hb hby d1_14)
  have f49 : Arv Z h48 b1 k1 .int (11 : Int32) [(.int (0 : Int32)), (.int (1 : Int32)), (.int (2 : Int32)), (.int (3 : Int32)), (.int (4 : Int32)), (.int (5 : Int32)), (.int (6 : Int32)), (.int (0 : Int32)), (.int (0 : Int32)), (.int (0 : Int32)), (.int (0 : Int32))] (.int (0 : Int32)) := Arv.set Aro47 qo47 So47 No47 Ho47 Go47 rfl W48 6 rfl (by decide)
  have f50 : Exa Z h48 b1 "[I" := f43.wr W48
  have K51 : Keep h0 h48 [] := K44.wr W48 (Or.inr sz_b1)
  have N52 := Fr.snoc X48 N45 g_b1
  have Zs53 : n0 ≤ h48.size := Nat.le_trans Zs46 (Keep.of_wr W48).1
  obtain ⟨clo54, Aro54, qo54, So54, No54, Ho54, Go54⟩ := id f49
  have hino54 : ¬ ((7 : Int32) < 0 ∨ clo54.slots.size ≤ ((7 : Int32)).toNatClampNeg) := inb_of So54 ⟨by decide, by decide⟩
  obtain ⟨T55, h55, X55, e55, W55, st55⟩ := stI X48 hx hZ e48 Aro54 (j := (7 : Int32)) hino54 (g := (mkF m 14 #[.val (.int (11 : Int32)), .val (.ref b1), .val (.int (7 : Int32))] [(.int (7 : Int32)), (.int (7 : Int32)), (.ref b1)])) rfl rfl (hb hby d1_14)
  have f56 : Arv Z h55 b1 k1 .int (11 : Int32) [(.int (0 : Int32)), (.int (1 : Int32)), (.int (2 : Int32)), (.int (3 : Int32)), (.int (4 : Int32)), (.int (5 : Int32)), (.int (6 : Int32)), (.int (7 : Int32)), (.int (0 : Int32)), (.int (0 : Int32)), (.int (0 : Int32))] (.int (0 : Int32)) := Arv.set Aro54 qo54 So54 No54 Ho54 Go54 rfl W55 7 rfl (by decide)
  have f57 : Exa Z h55 b1 "[I" := f50.wr W55
  have K58 : Keep h0 h55 [] := K51.wr W55 (Or.inr sz_b1)
  have N59 := Fr.snoc X55 N52 g_b1
  have Zs60 : n0 ≤ h55.size := Nat.le_trans Zs53 (Keep.of_wr W55).1
  obtain ⟨clo61, Aro61, qo61, So61, No61, Ho61, Go61⟩ := id f56
  have hino61 : ¬ ((8 : Int32) < 0 ∨ clo61.slots.size ≤ ((8 : Int32)).toNatClampNeg) := inb_of So61 ⟨by decide, by decide⟩
  obtain ⟨T62, h62, X62, e62, W62, st62⟩ := stI X55 hx hZ e55 Aro61 (j := (8 : Int32)) hino61 (g := (mkF m 14 #[.val (.int (11 : Int32)), .val (.ref b1), .val (.int (8 : Int32))] [(.int (8 : Int32)), (.int (8 : Int32)), (.ref b1)])) rfl rfl (hb hby d1_14)
  have f63 : Arv Z h62 b1 k1 .int (11 : Int32) [(.int (0 : Int32)), (.int (1 : Int32)), (.int (2 : Int32)), (.int (3 : Int32)), (.int (4 : Int32)), (.int (5 : Int32)), (.int (6 : Int32)), (.int (7 : Int32)), (.int (8 : Int32)), (.int (0 : Int32)), (.int (0 : Int32))] (.int (0 : Int32)) := Arv.set Aro61 qo61 So61 No61 Ho61 Go61 rfl W62 8 rfl (by decide)
  have f64 : Exa Z h62 b1 "[I" := f57.wr W62
  have K65 : Keep h0 h62 [] := K58.wr W62 (Or.inr sz_b1)
  have N66 := Fr.snoc X62 N59 g_b1
  have Zs67 : n0 ≤ h62.size := Nat.le_trans Zs60 (Keep.of_wr W62).1
  obtain ⟨clo68, Aro68, qo68, So68, No68, Ho68, Go68⟩ := id f63
  have hino68 : ¬ ((9 : Int32) < 0 ∨ clo68.slots.size ≤ ((9 : Int32)).toNatClampNeg) := inb_of So68 ⟨by decide, by decide⟩
  obtain ⟨T69, h69, X69, e69, W69, st69⟩ := stI X62 hx hZ e62 Aro68 (j := (9 : Int32)) hino68 (g := (mkF m 14 #[.val (.int (11 : Int32)), .val (.ref b1), .val (.int (9 : Int32))] [(.int (9 : Int32)), (.int (9 : Int32)), (.ref b1)])) rfl rfl (hb hby d1_14)
  have f70 : Arv Z h69 b1 k1 .int (11 : Int32) [(.int (0 : Int32)), (.int (1 : Int32)), (.int (2 : Int32)), (.int (3 : Int32)), (.int (4 : Int32)), (.int (5 : Int32)), (.int (6 : Int32)), (.int (7 : Int32)), (.int (8 : Int32)), (.int (9 : Int32)), (.int (0 : Int32))] (.int (0 : Int32)) := Arv.set Aro68 qo68 So68 No68 Ho68 Go68 rfl W69 9 rfl (by decide)
  have f71 : Exa Z h69 b1 "[I" := f64.wr W69
  have K72 : Keep h0 h69 [] := K65.wr W69 (Or.inr sz_b1)
  have N73 := Fr.snoc X69 N66 g_b1
  have Zs74 : n0 ≤ h69.size := Nat.le_trans Zs67 (Keep.of_wr W69).1
  obtain ⟨clo75, Aro75, qo75, So75, No75, Ho75, Go75⟩ := id f70
  have hino75 : ¬ ((10 : Int32) < 0 ∨ clo75.slots.size ≤ ((10 : Int32)).toNatClampNeg) := inb_of So75 ⟨by decide, by decide⟩
  obtain ⟨T76, h76, X76, e76, W76, st76⟩ := stI X69 hx hZ e69 Aro75 (j := (10 : Int32)) hino75 (g := (mkF m 14 #[.val (.int (11 : Int32)), .val (.ref b1), .val (.int (10 : Int32))] [(.int (10 : Int32)), (.int (10 : Int32)), (.ref b1)])) rfl rfl (hb hby d1_14)
  have f77 : Arv Z h76 b1 k1 .int (11 : Int32) [(.int (0 : Int32)), (.int (1 : Int32)), (.int (2 : Int32)), (.int (3 : Int32)), (.int (4 : Int32)), (.int (5 : Int32)), (.int (6 : Int32)), (.int (7 : Int32)), (.int (8 : Int32)), (.int (9 : Int32)), (.int (10 : Int32))] (.int (0 : Int32)) := Arv.set Aro75 qo75 So75 No75 Ho75 Go75 rfl W76 10 rfl (by decide)
  have f78 : Exa Z h76 b1 "[I" := f71.wr W76
  have K79 : Keep h0 h76 [] := K72.wr W76 (Or.inr sz_b1)
  have N80 := Fr.snoc X76 N73 g_b1
  have Zs81 : n0 ≤ h76.size := Nat.le_trans Zs74 (Keep.of_wr W76).1
  have f82 : Arv Z h76 b1 k1 .int (11 : Int32) own_ids (.int (0 : Int32)) := own_conv f77 (by decide)
  obtain ⟨fs, hr, hrun, hended, hW, hsame⟩ := X76.leave (v := some (.ref b1)) (fun h => by rw [Bd.returns] at h; cases h) Bd.notSynchronized
  refine ⟨_, _, pre0 _ ?_, hrun, hended, _, _, rfl, ?_, ⟨_, rfl⟩, hW, hsame.mono (by decide) (by decide)⟩
  · show Steps p.tables e below (s₁.setTop (mkF m 0 #[.val (.int (11 : Int32)), .unset, .unset] [])) _
    refine XS.iloadN X0.here hx rfl (hb hby d1_0) rfl ?_
    show Steps p.tables e below (s₁.setTop (mkF m 1 #[.val (.int (11 : Int32)), .unset, .unset] [(.int (11 : Int32))])) _
    refine st1 _ ?_
    show Steps p.tables e below (T1.setTop (mkF m 3 #[.val (.int (11 : Int32)), .unset, .unset] [(.ref b1)])) _
    refine XS.astoreN X1.here hx rfl (hb hby d1_3) rfl rfl (l' := #[.val (.int (11 : Int32)), .val (.ref b1), .unset]) rfl ?_
    show Steps p.tables e below (T1.setTop (mkF m 4 #[.val (.int (11 : Int32)), .val (.ref b1), .unset] [])) _
    refine XS.iconst X1.here hx rfl (hb hby d1_4) ?_
    show Steps p.tables e below (T1.setTop (mkF m 5 #[.val (.int (11 : Int32)), .val (.ref b1), .unset] [(.int (0 : Int32))])) _
    refine XS.istoreN X1.here hx rfl (hb hby d1_5) rfl (l' := #[.val (.int (11 : Int32)), .val (.ref b1), .val (.int (0 : Int32))]) rfl ?_
    show Steps p.tables e below (T1.setTop (mkF m 6 #[.val (.int (11 : Int32)), .val (.ref b1), .val (.int (0 : Int32))] [])) _
    refine XS.iloadN X1.here hx rfl (hb hby d1_6) rfl ?_
    show Steps p.tables e below (T1.setTop (mkF m 7 #[.val (.int (11 : Int32)), .val (.ref b1), .val (.int (0 : Int32))] [(.int (0 : Int32))])) _
    refine XS.iloadN X1.here hx rfl (hb hby d1_7) rfl ?_
    show Steps p.tables e below (T1.setTop (mkF m 8 #[.val (.int (11 : Int32)), .val (.ref b1), .val (.int (0 : Int32))] [(.int (11 : Int32)), (.int (0 : Int32))])) _
    refine XS.icmpNo X1.here hx rfl (hb hby d1_8) rfl (tlt (by decide : (0 : Int32) < (11 : Int32))).2.1 ?_
    show Steps p.tables e below (T1.setTop (mkF m 11 #[.val (.int (11 : Int32)), .val (.ref b1), .val (.int (0 : Int32))] [])) _
    refine XS.aloadN X1.here hx rfl (hb hby d1_11) rfl rfl ?_
    show Steps p.tables e below (T1.setTop (mkF m 12 #[.val (.int (11 : Int32)), .val (.ref b1), .val (.int (0 : Int32))] [(.ref b1)])) _
    refine XS.iloadN X1.here hx rfl (hb hby d1_12) rfl ?_
    show Steps p.tables e below (T1.setTop (mkF m 13 #[.val (.int (11 : Int32)), .val (.ref b1), .val (.int (0 : Int32))] [(.int (0 : Int32)), (.ref b1)])) _
    refine XS.iloadN X1.here hx rfl (hb hby d1_13) rfl ?_
    show Steps p.tables e below (T1.setTop (mkF m 14 #[.val (.int (11 : Int32)), .val (.ref b1), .val (.int (0 : Int32))] [(.int (0 : Int32)), (.int (0 : Int32)), (.ref b1)])) _
    refine st6 _ ?_
    show Steps p.tables e below (T6.setTop (mkF m 15 #[.val (.int (11 : Int32)), .val (.ref b1), .val (.int (0 : Int32))] [])) _
    refine XS.iinc X6.here hx rfl (hb hby d1_15) rfl (l' := #[.val (.int (11 : Int32)), .val (.ref b1), .val (.int (1 : Int32))]) rfl ?_
    show Steps p.tables e below (T6.setTop (mkF m 18 #[.val (.int (11 : Int32)), .val (.ref b1), .val (.int (1 : Int32))] [])) _
    refine XS.goto X6.here hx rfl (pc0 := 18) (pc' := 6) rfl (hb hby d1_18) (by decide) (by decide) ?_
    show Steps p.tables e below (T6.setTop (mkF m 6 #[.val (.int (11 : Int32)), .val (.ref b1), .val (.int (1 : Int32))] [])) _
    refine XS.iloadN X6.here hx rfl (hb hby d1_6) rfl ?_
    show Steps p.tables e below (T6.setTop (mkF m 7 #[.val (.int (11 : Int32)), .val (.ref b1), .val (.int (1 : Int32))] [(.int (1 : Int32))])) _
    refine XS.iloadN X6.here hx rfl (hb hby d1_7) rfl ?_
    show Steps p.tables e below (T6.setTop (mkF m 8 #[.val (.int (11 : Int32)), .val (.ref b1), .val (.int (1 : Int32))] [(.int (11 : Int32)), (.int (1 : Int32))])) _
    refine XS.icmpNo X6.here hx rfl (hb hby d1_8) rfl (tlt (by decide : (1 : Int32) < (11 : Int32))).2.1 ?_
    show Steps p.tables e below (T6.setTop (mkF m 11 #[.val (.int (11 : Int32)), .val (.ref b1), .val (.int (1 : Int32))] [])) _
    refine XS.aloadN X6.here hx rfl (hb hby d1_11) rfl rfl ?_
    show Steps p.tables e below (T6.setTop (mkF m 12 #[.val (.int (11 : Int32)), .val (.ref b1), .val (.int (1 : Int32))] [(.ref b1)])) _
    refine XS.iloadN X6.here hx rfl (hb hby d1_12) rfl ?_
    show Steps p.tables e below (T6.setTop (mkF m 13 #[.val (.int (11 : Int32)), .val (.ref b1), .val (.int (1 : Int32))] [(.int (1 : Int32)), (.ref b1)])) _
    refine XS.iloadN X6.here hx rfl (hb hby d1_13) rfl ?_
    show Steps p.tables e below (T6.setTop (mkF m 14 #[.val (.int (11 : Int32)), .val (.ref b1), .val (.int (1 : Int32))] [(.int (1 : Int32)), (.int (1 : Int32)), (.ref b1)])) _
    refine st13 _ ?_
    show Steps p.tables e below (T13.setTop (mkF m 15 #[.val (.int (11 : Int32)), .val (.ref b1), .val (.int (1 : Int32))] [])) _
    refine XS.iinc X13.here hx rfl (hb hby d1_15) rfl (l' := #[.val (.int (11 : Int32)), .val (.ref b1), .val (.int (2 : Int32))]) rfl ?_
    show Steps p.tables e below (T13.setTop (mkF m 18 #[.val (.int (11 : Int32)), .val (.ref b1), .val (.int (2 : Int32))] [])) _
    refine XS.goto X13.here hx rfl (pc0 := 18) (pc' := 6) rfl (hb hby d1_18) (by decide) (by decide) ?_
    show Steps p.tables e below (T13.setTop (mkF m 6 #[.val (.int (11 : Int32)), .val (.ref b1), .val (.int (2 : Int32))] [])) _
    refine XS.iloadN X13.here hx rfl (hb hby d1_6) rfl ?_
    show Steps p.tables e below (T13.setTop (mkF m 7 #[.val (.int (11 : Int32)), .val (.ref b1), .val (.int (2 : Int32))] [(.int (2 : Int32))])) _
    refine XS.iloadN X13.here hx rfl (hb hby d1_7) rfl ?_
    show Steps p.tables e below (T13.setTop (mkF m 8 #[.val (.int (11 : Int32)), .val (.ref b1), .val (.int (2 : Int32))] [(.int (11 : Int32)), (.int (2 : Int32))])) _
    refine XS.icmpNo X13.here hx rfl (hb hby d1_8) rfl (tlt (by decide : (2 : Int32) < (11 : Int32))).2.1 ?_
    show Steps p.tables e below (T13.setTop (mkF m 11 #[.val (.int (11 : Int32)), .val (.ref b1), .val (.int (2 : Int32))] [])) _
    refine XS.aloadN X13.here hx rfl (hb hby d1_11) rfl rfl ?_
    show Steps p.tables e below (T13.setTop (mkF m 12 #[.val (.int (11 : Int32)), .val (.ref b1), .val (.int (2 : Int32))] [(.ref b1)])) _
    refine XS.iloadN X13.here hx rfl (hb hby d1_12) rfl ?_
    show Steps p.tables e below (T13.setTop (mkF m 13 #[.val (.int (11 : Int32)), .val (.ref b1), .val (.int (2 : Int32))] [(.int (2 : Int32)), (.ref b1)])) _
    refine XS.iloadN X13.here hx rfl (hb hby d1_13) rfl ?_
    show Steps p.tables e below (T13.setTop (mkF m 14 #[.val (.int (11 : Int32)), .val (.ref b1), .val (.int (2 : Int32))] [(.int (2 : Int32)), (.int (2 : Int32)), (.ref b1)])) _
    refine st20 _ ?_
    show Steps p.tables e below (T20.setTop (mkF m 15 #[.val (.int (11 : Int32)), .val (.ref b1), .val (.int (2 : Int32))] [])) _
    refine XS.iinc X20.here hx rfl (hb hby d1_15) rfl (l' := #[.val (.int (11 : Int32)), .val (.ref b1), .val (.int (3 : Int32))]) rfl ?_
    show Steps p.tables e below (T20.setTop (mkF m 18 #[.val (.int (11 : Int32)), .val (.ref b1), .val (.int (3 : Int32))] [])) _
    refine XS.goto X20.here hx rfl (pc0 := 18) (pc' := 6) rfl (hb hby d1_18) (by decide) (by decide) ?_
    show Steps p.tables e below (T20.setTop (mkF m 6 #[.val (.int (11 : Int32)), .val (.ref b1), .val (.int (3 : Int32))] [])) _
    refine XS.iloadN X20.here hx rfl (hb hby d1_6) rfl ?_
    show Steps p.tables e below (T20.setTop (mkF m 7 #[.val (.int (11 : Int32)), .val (.ref b1), .val (.int (3 : Int32))] [(.int (3 : Int32))])) _
    refine XS.iloadN X20.here hx rfl (hb hby d1_7) rfl ?_
    show Steps p.tables e below (T20.setTop (mkF m 8 #[.val (.int (11 : Int32)), .val (.ref b1), .val (.int (3 : Int32))] [(.int (11 : Int32)), (.int (3 : Int32))])) _
    refine XS.icmpNo X20.here hx rfl (hb hby d1_8) rfl (tlt (by decide : (3 : Int32) < (11 : Int32))).2.1 ?_
    show Steps p.tables e below (T20.setTop (mkF m 11 #[.val (.int (11 : Int32)), .val (.ref b1), .val (.int (3 : Int32))] [])) _
    refine XS.aloadN X20.here hx rfl (hb hby d1_11) rfl rfl ?_
    show Steps p.tables e below (T20.setTop (mkF m 12 #[.val (.int (11 : Int32)), .val (.ref b1), .val (.int (3 : Int32))] [(.ref b1)])) _
    refine XS.iloadN X20.here hx rfl (hb hby d1_12) rfl ?_
    show Steps p.tables e below (T20.setTop (mkF m 13 #[.val (.int (11 : Int32)), .val (.ref b1), .val (.int (3 : Int32))] [(.int (3 : Int32)), (.ref b1)])) _
    refine XS.iloadN X20.here hx rfl (hb hby d1_13) rfl ?_
    show Steps p.tables e below (T20.setTop (mkF m 14 #[.val (.int (11 : Int32)), .val (.ref b1), .val (.int (3 : Int32))] [(.int (3 : Int32)), (.int (3 : Int32)), (.ref b1)])) _
    refine st27 _ ?_
    show Steps p.tables e below (T27.setTop (mkF m 15 #[.val (.int (11 : Int32)), .val (.ref b1), .val (.int (3 : Int32))] [])) _
    refine XS.iinc X27.here hx rfl (hb hby d1_15) rfl (l' := #[.val (.int (11 : Int32)), .val (.ref b1), .val (.int (4 : Int32))]) rfl ?_
    show Steps p.tables e below (T27.setTop (mkF m 18 #[.val (.int (11 : Int32)), .val (.ref b1), .val (.int (4 : Int32))] [])) _
    refine XS.goto X27.here hx rfl (pc0 := 18) (pc' := 6) rfl (hb hby d1_18) (by decide) (by decide) ?_
    show Steps p.tables e below (T27.setTop (mkF m 6 #[.val (.int (11 : Int32)), .val (.ref b1), .val (.int (4 : Int32))] [])) _
    refine XS.iloadN X27.here hx rfl (hb hby d1_6) rfl ?_
    show Steps p.tables e below (T27.setTop (mkF m 7 #[.val (.int (11 : Int32)), .val (.ref b1), .val (.int (4 : Int32))] [(.int (4 : Int32))])) _
    refine XS.iloadN X27.here hx rfl (hb hby d1_7) rfl ?_
    show Steps p.tables e below (T27.setTop (mkF m 8 #[.val (.int (11 : Int32)), .val (.ref b1), .val (.int (4 : Int32))] [(.int (11 : Int32)), (.int (4 : Int32))])) _
    refine XS.icmpNo X27.here hx rfl (hb hby d1_8) rfl (tlt (by decide : (4 : Int32) < (11 : Int32))).2.1 ?_
    show Steps p.tables e below (T27.setTop (mkF m 11 #[.val (.int (11 : Int32)), .val (.ref b1), .val (.int (4 : Int32))] [])) _
    refine XS.aloadN X27.here hx rfl (hb hby d1_11) rfl rfl ?_
    show Steps p.tables e below (T27.setTop (mkF m 12 #[.val (.int (11 : Int32)), .val (.ref b1), .val (.int (4 : Int32))] [(.ref b1)])) _
    refine XS.iloadN X27.here hx rfl (hb hby d1_12) rfl ?_
    show Steps p.tables e below (T27.setTop (mkF m 13 #[.val (.int (11 : Int32)), .val (.ref b1), .val (.int (4 : Int32))] [(.int (4 : Int32)), (.ref b1)])) _
    refine XS.iloadN X27.here hx rfl (hb hby d1_13) rfl ?_
    show Steps p.tables e below (T27.setTop (mkF m 14 #[.val (.int (11 : Int32)), .val (.ref b1), .val (.int (4 : Int32))] [(.int (4 : Int32)), (.int (4 : Int32)), (.ref b1)])) _
    refine st34 _ ?_
    show Steps p.tables e below (T34.setTop (mkF m 15 #[.val (.int (11 : Int32)), .val (.ref b1), .val (.int (4 : Int32))] [])) _
    refine XS.iinc X34.here hx rfl (hb hby d1_15) rfl (l' := #[.val (.int (11 : Int32)), .val (.ref b1), .val (.int (5 : Int32))]) rfl ?_
    show Steps p.tables e below (T34.setTop (mkF m 18 #[.val (.int (11 : Int32)), .val (.ref b1), .val (.int (5 : Int32))] [])) _
    refine XS.goto X34.here hx rfl (pc0 := 18) (pc' := 6) rfl (hb hby d1_18) (by decide) (by decide) ?_
    show Steps p.tables e below (T34.setTop (mkF m 6 #[.val (.int (11 : Int32)), .val (.ref b1), .val (.int (5 : Int32))] [])) _
    refine XS.iloadN X34.here hx rfl (hb hby d1_6) rfl ?_
    show Steps p.tables e below (T34.setTop (mkF m 7 #[.val (.int (11 : Int32)), .val (.ref b1), .val (.int (5 : Int32))] [(.int (5 : Int32))])) _
    refine XS.iloadN X34.here hx rfl (hb hby d1_7) rfl ?_
    show Steps p.tables e below (T34.setTop (mkF m 8 #[.val (.int (11 : Int32)), .val (.ref b1), .val (.int (5 : Int32))] [(.int (11 : Int32)), (.int (5 : Int32))])) _
    refine XS.icmpNo X34.here hx rfl (hb hby d1_8) rfl (tlt (by decide : (5 : Int32) < (11 : Int32))).2.1 ?_
    show Steps p.tables e below (T34.setTop (mkF m 11 #[.val (.int (11 : Int32)), .val (.ref b1), .val (.int (5 : Int32))] [])) _
    refine XS.aloadN X34.here hx rfl (hb hby d1_11) rfl rfl ?_
    show Steps p.tables e below (T34.setTop (mkF m 12 #[.val (.int (11 : Int32)), .val (.ref b1), .val (.int (5 : Int32))] [(.ref b1)])) _
    refine XS.iloadN X34.here hx rfl (hb hby d1_12) rfl ?_
    show Steps p.tables e below (T34.setTop (mkF m 13 #[.val (.int (11 : Int32)), .val (.ref b1), .val (.int (5 : Int32))] [(.int (5 : Int32)), (.ref b1)])) _
    refine XS.iloadN X34.here hx rfl (hb hby d1_13) rfl ?_
    show Steps p.tables e below (T34.setTop (mkF m 14 #[.val (.int (11 : Int32)), .val (.ref b1), .val (.int (5 : Int32))] [(.int (5 : Int32)), (.int (5 : Int32)), (.ref b1)])) _
    refine st41 _ ?_
    show Steps p.tables e below (T41.setTop (mkF m 15 #[.val (.int (11 : Int32)), .val (.ref b1), .val (.int (5 : Int32))] [])) _
    refine XS.iinc X41.here hx rfl (hb hby d1_15) rfl (l' := #[.val (.int (11 : Int32)), .val (.ref b1), .val (.int (6 : Int32))]) rfl ?_
    show Steps p.tables e below (T41.setTop (mkF m 18 #[.val (.int (11 : Int32)), .val (.ref b1), .val (.int (6 : Int32))] [])) _
    refine XS.goto X41.here hx rfl (pc0 := 18) (pc' := 6) rfl (hb hby d1_18) (by decide) (by decide) ?_
    show Steps p.tables e below (T41.setTop (mkF m 6 #[.val (.int (11 : Int32)), .val (.ref b1), .val (.int (6 : Int32))] [])) _
    refine XS.iloadN X41.here hx rfl (hb hby d1_6) rfl ?_
    show Steps p.tables e below (T41.setTop (mkF m 7 #[.val (.int (11 : Int32)), .val (.ref b1), .val (.int (6 : Int32))] [(.int (6 : Int32))])) _
    refine XS.iloadN X41.here hx rfl (hb hby d1_7) rfl ?_
    show Steps p.tables e below (T41.setTop (mkF m 8 #[.val (.int (11 : Int32)), .val (.ref b1), .val (.int (6 : Int32))] [(.int (11 : Int32)), (.int (6 : Int32))])) _
    refine XS.icmpNo X41.here hx rfl (hb hby d1_8) rfl (tlt (by decide : (6 : Int32) < (11 : Int32))).2.1 ?_
    show Steps p.tables e below (T41.setTop (mkF m 11 #[.val (.int (11 : Int32)), .val (.ref b1), .val (.int (6 : Int32))] [])) _
    refine XS.aloadN X41.here hx rfl (hb hby d1_11) rfl rfl ?_
    show Steps p.tables e below (T41.setTop (mkF m 12 #[.val (.int (11 : Int32)), .val (.ref b1), .val (.int (6 : Int32))] [(.ref b1)])) _
    refine XS.iloadN X41.here hx rfl (hb hby d1_12) rfl ?_
    show Steps p.tables e below (T41.setTop (mkF m 13 #[.val (.int (11 : Int32)), .val (.ref b1), .val (.int (6 : Int32))] [(.int (6 : Int32)), (.ref b1)])) _
    refine XS.iloadN X41.here hx rfl (hb hby d1_13) rfl ?_
    show Steps p.tables e below (T41.setTop (mkF m 14 #[.val (.int (11 : Int32)), .val (.ref b1), .val (.int (6 : Int32))] [(.int (6 : Int32)), (.int (6 : Int32)), (.ref b1)])) _
    refine st48 _ ?_
    show Steps p.tables e below (T48.setTop (mkF m 15 #[.val (.int (11 : Int32)), .val (.ref b1), .val (.int (6 : Int32))] [])) _
    refine XS.iinc X48.here hx rfl (hb hby d1_15) rfl (l' := #[.val (.int (11 : Int32)), .val (.ref b1), .val (.int (7 : Int32))]) rfl ?_
    show Steps p.tables e below (T48.setTop (mkF m 18 #[.val (.int (11 : Int32)), .val (.ref b1), .val (.int (7 : Int32))] [])) _
    refine XS.goto X48.here hx rfl (pc0 := 18) (pc' := 6) rfl (hb hby d1_18) (by decide) (by decide) ?_
    show Steps p.tables e below (T48.setTop (mkF m 6 #[.val (.int (11 : Int32)), .val (.ref b1), .val (.int (7 : Int32))] [])) _
    refine XS.iloadN X48.here hx rfl (hb hby d1_6) rfl ?_
    show Steps p.tables e below (T48.setTop (mkF m 7 #[.val (.int (11 : Int32)), .val (.ref b1), .val (.int (7 : Int32))] [(.int (7 : Int32))])) _
    refine XS.iloadN X48.here hx rfl (hb hby d1_7) rfl ?_
    show Steps p.tables e below (T48.setTop (mkF m 8 #[.val (.int (11 : Int32)), .val (.ref b1), .val (.int (7 : Int32))] [(.int (11 : Int32)), (.int (7 : Int32))])) _
    refine XS.icmpNo X48.here hx rfl (hb hby d1_8) rfl (tlt (by decide : (7 : Int32) < (11 : Int32))).2.1 ?_
    show Steps p.tables e below (T48.setTop (mkF m 11 #[.val (.int (11 : Int32)), .val (.ref b1), .val (.int (7 : Int32))] [])) _
    refine XS.aloadN X48.here hx rfl (hb hby d1_11) rfl rfl ?_
    show Steps p.tables e below (T48.setTop (mkF m 12 #[.val (.int (11 : Int32)), .val (.ref b1), .val (.int (7 : Int32))] [(.ref b1)])) _
    refine XS.iloadN X48.here hx rfl (hb hby d1_12) rfl ?_
    show Steps p.tables e below (T48.setTop (mkF m 13 #[.val (.int (11 : Int32)), .val (.ref b1), .val (.int (7 : Int32))] [(.int (7 : Int32)), (.ref b1)])) _
    refine XS.iloadN X48.here hx rfl (hb hby d1_13) rfl ?_
    show Steps p.tables e below (T48.setTop (mkF m 14 #[.val (.int (11 : Int32)), .val (.ref b1), .val (.int (7 : Int32))] [(.int (7 : Int32)), (.int (7 : Int32)), (.ref b1)])) _
    refine st55 _ ?_
    show Steps p.tables e below (T55.setTop (mkF m 15 #[.val (.int (11 : Int32)), .val (.ref b1), .val (.int (7 : Int32))] [])) _
    refine XS.iinc X55.here hx rfl (hb hby d1_15) rfl (l' := #[.val (.int (11 : Int32)), .val (.ref b1), .val (.int (8 : Int32))]) rfl ?_
    show Steps p.tables e below (T55.setTop (mkF m 18 #[.val (.int (11 : Int32)), .val (.ref b1), .val (.int (8 : Int32))] [])) _
    refine XS.goto X55.here hx rfl (pc0 := 18) (pc' := 6) rfl (hb hby d1_18) (by decide) (by decide) ?_
    show Steps p.tables e below (T55.setTop (mkF m 6 #[.val (.int (11 : Int32)), .val (.ref b1), .val (.int (8 : Int32))] [])) _
    refine XS.iloadN X55.here hx rfl (hb hby d1_6) rfl ?_
    show Steps p.tables e below (T55.setTop (mkF m 7 #[.val (.int (11 : Int32)), .val (.ref b1), .val (.int (8 : Int32))] [(.int (8 : Int32))])) _
    refine XS.iloadN X55.here hx rfl (hb hby d1_7) rfl ?_
    show Steps p.tables e below (T55.setTop (mkF m 8 #[.val (.int (11 : Int32)), .val (.ref b1), .val (.int (8 : Int32))] [(.int (11 : Int32)), (.int (8 : Int32))])) _
    refine XS.icmpNo X55.here hx rfl (hb hby d1_8) rfl (tlt (by decide : (8 : Int32) < (11 : Int32))).2.1 ?_
    show Steps p.tables e below (T55.setTop (mkF m 11 #[.val (.int (11 : Int32)), .val (.ref b1), .val (.int (8 : Int32))] [])) _
    refine XS.aloadN X55.here hx rfl (hb hby d1_11) rfl rfl ?_
    show Steps p.tables e below (T55.setTop (mkF m 12 #[.val (.int (11 : Int32)), .val (.ref b1), .val (.int (8 : Int32))] [(.ref b1)])) _
    refine XS.iloadN X55.here hx rfl (hb hby d1_12) rfl ?_
    show Steps p.tables e below (T55.setTop (mkF m 13 #[.val (.int (11 : Int32)), .val (.ref b1), .val (.int (8 : Int32))] [(.int (8 : Int32)), (.ref b1)])) _
    refine XS.iloadN X55.here hx rfl (hb hby d1_13) rfl ?_
    show Steps p.tables e below (T55.setTop (mkF m 14 #[.val (.int (11 : Int32)), .val (.ref b1), .val (.int (8 : Int32))] [(.int (8 : Int32)), (.int (8 : Int32)), (.ref b1)])) _
    refine st62 _ ?_
    show Steps p.tables e below (T62.setTop (mkF m 15 #[.val (.int (11 : Int32)), .val (.ref b1), .val (.int (8 : Int32))] [])) _
    refine XS.iinc X62.here hx rfl (hb hby d1_15) rfl (l' := #[.val (.int (11 : Int32)), .val (.ref b1), .val (.int (9 : Int32))]) rfl ?_
    show Steps p.tables e below (T62.setTop (mkF m 18 #[.val (.int (11 : Int32)), .val (.ref b1), .val (.int (9 : Int32))] [])) _
    refine XS.goto X62.here hx rfl (pc0 := 18) (pc' := 6) rfl (hb hby d1_18) (by decide) (by decide) ?_
    show Steps p.tables e below (T62.setTop (mkF m 6 #[.val (.int (11 : Int32)), .val (.ref b1), .val (.int (9 : Int32))] [])) _
    refine XS.iloadN X62.here hx rfl (hb hby d1_6) rfl ?_
    show Steps p.tables e below (T62.setTop (mkF m 7 #[.val (.int (11 : Int32)), .val (.ref b1), .val (.int (9 : Int32))] [(.int (9 : Int32))])) _
    refine XS.iloadN X62.here hx rfl (hb hby d1_7) rfl ?_
    show Steps p.tables e below (T62.setTop (mkF m 8 #[.val (.int (11 : Int32)), .val (.ref b1), .val (.int (9 : Int32))] [(.int (11 : Int32)), (.int (9 : Int32))])) _
    refine XS.icmpNo X62.here hx rfl (hb hby d1_8) rfl (tlt (by decide : (9 : Int32) < (11 : Int32))).2.1 ?_
    show Steps p.tables e below (T62.setTop (mkF m 11 #[.val (.int (11 : Int32)), .val (.ref b1), .val (.int (9 : Int32))] [])) _
    refine XS.aloadN X62.here hx rfl (hb hby d1_11) rfl rfl ?_
    show Steps p.tables e below (T62.setTop (mkF m 12 #[.val (.int (11 : Int32)), .val (.ref b1), .val (.int (9 : Int32))] [(.ref b1)])) _
    refine XS.iloadN X62.here hx rfl (hb hby d1_12) rfl ?_
    show Steps p.tables e below (T62.setTop (mkF m 13 #[.val (.int (11 : Int32)), .val (.ref b1), .val (.int (9 : Int32))] [(.int (9 : Int32)), (.ref b1)])) _
    refine XS.iloadN X62.here hx rfl (hb hby d1_13) rfl ?_
    show Steps p.tables e below (T62.setTop (mkF m 14 #[.val (.int (11 : Int32)), .val (.ref b1), .val (.int (9 : Int32))] [(.int (9 : Int32)), (.int (9 : Int32)), (.ref b1)])) _
    refine st69 _ ?_
    show Steps p.tables e below (T69.setTop (mkF m 15 #[.val (.int (11 : Int32)), .val (.ref b1), .val (.int (9 : Int32))] [])) _
    refine XS.iinc X69.here hx rfl (hb hby d1_15) rfl (l' := #[.val (.int (11 : Int32)), .val (.ref b1), .val (.int (10 : Int32))]) rfl ?_
    show Steps p.tables e below (T69.setTop (mkF m 18 #[.val (.int (11 : Int32)), .val (.ref b1), .val (.int (10 : Int32))] [])) _
    refine XS.goto X69.here hx rfl (pc0 := 18) (pc' := 6) rfl (hb hby d1_18) (by decide) (by decide) ?_
    show Steps p.tables e below (T69.setTop (mkF m 6 #[.val (.int (11 : Int32)), .val (.ref b1), .val (.int (10 : Int32))] [])) _
    refine XS.iloadN X69.here hx rfl (hb hby d1_6) rfl ?_
    show Steps p.tables e below (T69.setTop (mkF m 7 #[.val (.int (11 : Int32)), .val (.ref b1), .val (.int (10 : Int32))] [(.int (10 : Int32))])) _
    refine XS.iloadN X69.here hx rfl (hb hby d1_7) rfl ?_
    show Steps p.tables e below (T69.setTop (mkF m 8 #[.val (.int (11 : Int32)), .val (.ref b1), .val (.int (10 : Int32))] [(.int (11 : Int32)), (.int (10 : Int32))])) _
    refine XS.icmpNo X69.here hx rfl (hb hby d1_8) rfl (tlt (by decide : (10 : Int32) < (11 : Int32))).2.1 ?_
    show Steps p.tables e below (T69.setTop (mkF m 11 #[.val (.int (11 : Int32)), .val (.ref b1), .val (.int (10 : Int32))] [])) _
    refine XS.aloadN X69.here hx rfl (hb hby d1_11) rfl rfl ?_
    show Steps p.tables e below (T69.setTop (mkF m 12 #[.val (.int (11 : Int32)), .val (.ref b1), .val (.int (10 : Int32))] [(.ref b1)])) _
    refine XS.iloadN X69.here hx rfl (hb hby d1_12) rfl ?_
    show Steps p.tables e below (T69.setTop (mkF m 13 #[.val (.int (11 : Int32)), .val (.ref b1), .val (.int (10 : Int32))] [(.int (10 : Int32)), (.ref b1)])) _
    refine XS.iloadN X69.here hx rfl (hb hby d1_13) rfl ?_
    show Steps p.tables e below (T69.setTop (mkF m 14 #[.val (.int (11 : Int32)), .val (.ref b1), .val (.int (10 : Int32))] [(.int (10 : Int32)), (.int (10 : Int32)), (.ref b1)])) _
    refine st76 _ ?_
    show Steps p.tables e below (T76.setTop (mkF m 15 #[.val (.int (11 : Int32)), .val (.ref b1), .val (.int (10 : Int32))] [])) _
    refine XS.iinc X76.here hx rfl (hb hby d1_15) rfl (l' := #[.val (.int (11 : Int32)), .val (.ref b1), .val (.int (11 : Int32))]) rfl ?_
    show Steps p.tables e below (T76.setTop (mkF m 18 #[.val (.int (11 : Int32)), .val (.ref b1), .val (.int (11 : Int32))] [])) _
    refine XS.goto X76.here hx rfl (pc0 := 18) (pc' := 6) rfl (hb hby d1_18) (by decide) (by decide) ?_
    show Steps p.tables e below (T76.setTop (mkF m 6 #[.val (.int (11 : Int32)), .val (.ref b1), .val (.int (11 : Int32))] [])) _
    refine XS.iloadN X76.here hx rfl (hb hby d1_6) rfl ?_
    show Steps p.tables e below (T76.setTop (mkF m 7 #[.val (.int (11 : Int32)), .val (.ref b1), .val (.int (11 : Int32))] [(.int (11 : Int32))])) _
    refine XS.iloadN X76.here hx rfl (hb hby d1_7) rfl ?_
    show Steps p.tables e below (T76.setTop (mkF m 8 #[.val (.int (11 : Int32)), .val (.ref b1), .val (.int (11 : Int32))] [(.int (11 : Int32)), (.int (11 : Int32))])) _
    refine XS.icmpYes X76.here hx rfl (pc0 := 8) (pc' := 21) rfl (hb hby d1_8) rfl (flt (by decide : ¬ ((11 : Int32) < (11 : Int32)))).2.1 (by decide) (by decide) ?_
    show Steps p.tables e below (T76.setTop (mkF m 21 #[.val (.int (11 : Int32)), .val (.ref b1), .val (.int (11 : Int32))] [])) _
    refine XS.aloadN X76.here hx rfl (hb hby d1_21) rfl rfl ?_
    show Steps p.tables e below (T76.setTop (mkF m 22 #[.val (.int (11 : Int32)), .val (.ref b1), .val (.int (11 : Int32))] [(.ref b1)])) _
    exact retOut X76 hx (t := (.array .int)) (i := .areturn) Bd.returns rfl (Or.inr (Or.inr (Or.inr (Or.inr ⟨rfl, rfl, rfl⟩)))) (hb hby d1_22) hr
  · show Q_pos11 Z  h0 n0 _ T76.heap _
    rw [e76]
    exact ⟨b1, k1, rfl, N80, g_b1, sz_b1, K79, f78, f82⟩
def Q_pos12 (Z : State)  (h0 : Heap) (n0 : Nat) (v : Option Value) (h : Heap) (L : List Loc) : Prop := ∃ (o1 : Addr), ∃ (ko1 : ClassId), v = some (.ref o1) ∧ Fr n0 L ∧ n0 ≤ o1 ∧ h0.size ≤ o1 ∧ Keep h0 h [] ∧ Exa Z h o1 "[I" ∧ Arv Z h o1 ko1 .int (12 : Int32) own_ids (.int (0 : Int32))
set_option maxRecDepth 65536 in
set_option maxHeartbeats 40000000 in
theorem rm_pos12 (l : Launch) (Z : State) (a0 : Array Value) (hw : ∀ d ∈ tables_1, d.before a0 Z = true) (ws : List Jvm.Cond)  (h0 : Heap) (n0 : Nat) (Z0 : n0 ≤ h0.size) :
    MetFree l (⟨"com/example/trawl/trawl/gen/FisherYates", "positions", "(I)[I"⟩ : MethodName) (head1 (Jvm.Cond.code (⟨"com/example/trawl/trawl/gen/FisherYates", "positions", "(I)[I"⟩ : MethodName) prog_1_method_2_code 3 (some (.array .int)) :: ws) ({ frames := 0, cells := 1, slots := 16, locals := 0 } : Room)) (fun a U => a = #[(.int (12 : Int32))] ∧ Z.Warmed39 U.vm ∧ U.heap = h0) (fun _ _ _ _ _ => True) (fun _ U o U' => ∃ v L, o = .returned v ∧ Q_pos12 Z  h0 n0 v U'.heap L ∧ FrameEnd U o U' L ({ frames := 0, cells := 1, slots := 16, locals := 0 } : Room).cells ({ frames := 0, cells := 1, slots := 16, locals := 0 } : Room).slots) := by
  refine MetFree.of_bodySF (plainFor_of_name pn_com_example_trawl_trawl_gen_FisherYates) hisR ?_
  intro p e s m args below meth c s₁ Bd hml0 hP hK
  obtain ⟨rfl, hZ, hh⟩ := hP
  have hx := Bd.exec
  have hby := Bd.bytes
  have hml : c.maxLocals = 3 := hml0
  have hown : s.vm.findClass "com/example/trawl/trawl/gen/FisherYates" = some m.cls := findClass_of_methodNamed Bd.named
  have hnm := (name_of_methodNamed Bd.named Bd.method).1
  have X0 : Stand p l e ({ frames := 0, cells := 1, slots := 16, locals := 0 } : Room) s m #[(.int (12 : Int32))] below meth c s₁ [] 0 0 := Stand.of_body Bd
  have e0 : s₁.heap = h0 := by rw [← hh, Bd.state]; rfl
  have N0 := Fr.nil n0
  have pre0 : ∀ t, Steps p.tables e below (s₁.setTop (mkF m 0 #[.val (.int (12 : Int32)), .unset, .unset] [])) t → Steps p.tables e below (s₁.setTop (entryFrame m #[(.int (12 : Int32))] 3)) t := fun t k => castTop (ef_1_I m (12 : Int32)) k
  obtain ⟨T1, h1, k1, X1, e1, E1, A1, Ex1, st1⟩ := newPE X0 hx hZ (hw _ (List.mem_of_getElem? (i := 4) rfl)) e0 (g := (mkF m 1 #[.val (.int (12 : Int32)), .unset, .unset] [(.int (12 : Int32))])) rfl (hb hby d1_1) rfl (by decide) (cap := 12) (by decide) (by decide) (by decide) (by decide) (ad := "[I") (by decide)
  obtain ⟨b1, g1⟩ : ∃ z, z = h0.size := ⟨_, rfl⟩
  rw [← g1] at A1 Ex1 st1
  have g_b1 : n0 ≤ b1 := Nat.le_trans Z0 (Nat.le_of_eq g1.symm)
  have sz_b1 : h0.size ≤ b1 := Nat.le_trans (Keep.refl h0 []).1 (Nat.le_of_eq g1.symm)
  have K2 : Keep h0 h1 [] := (Keep.refl h0 []).ext E1
  have Zs3 : n0 ≤ h1.size := Nat.le_trans Z0 E1.1
  have f4 : Arv Z h1 b1 k1 .int (12 : Int32) [(.int (0 : Int32)), (.int (0 : Int32)), (.int (0 : Int32)), (.int (0 : Int32)), (.int (0 : Int32)), (.int (0 : Int32)), (.int (0 : Int32)), (.int (0 : Int32)), (.int (0 : Int32)), (.int (0 : Int32)), (.int (0 : Int32)), (.int (0 : Int32))] (.int (0 : Int32)) := (Arv.new A1 (by decide)).pad (pad_rep [] (.int (0 : Int32)) 12)
  obtain ⟨clo5, Aro5, qo5, So5, No5, Ho5, Go5⟩ := id f4
  have hino5 : ¬ ((0 : Int32) < 0 ∨ clo5.slots.size ≤ ((0 : Int32)).toNatClampNeg) := inb_of So5 ⟨by decide, by decide⟩
  obtain ⟨T6, h6, X6, e6, W6, st6⟩ := stI X1 hx hZ e1 Aro5 (j := (0 : Int32)) hino5 (g := (mkF m 14 #[.val (.int (12 : Int32)), .val (.ref b1), .val (.int (0 : Int32))] [(.int (0 : Int32)), (.int (0 : Int32)), (.ref b1)])) rfl rfl (hb hby d1_14)
  have f7 : Arv Z h6 b1 k1 .int (12 : Int32) [(.int (0 : Int32)), (.int (0 : Int32)), (.int (0 : Int32)), (.int (0 : Int32)), (.int (0 : Int32)), (.int (0 : Int32)), (.int (0 : Int32)), (.int (0 : Int32)), (.int (0 : Int32)), (.int (0 : Int32)), (.int (0 : Int32)), (.int (0 : Int32))] (.int (0 : Int32)) := Arv.set Aro5 qo5 So5 No5 Ho5 Go5 rfl W6 0 rfl (by decide)
  have f8 : Exa Z h6 b1 "[I" := Ex1.wr W6
  have K9 : Keep h0 h6 [] := K2.wr W6 (Or.inr sz_b1)
  have N10 := Fr.snoc X6 N0 g_b1
  have Zs11 : n0 ≤ h6.size := Nat.le_trans Zs3 (Keep.of_wr W6).1
  obtain ⟨clo12, Aro12, qo12, So12, No12, Ho12, Go12⟩ := id f7
  have hino12 : ¬ ((1 : Int32) < 0 ∨ clo12.slots.size ≤ ((1 : Int32)).toNatClampNeg) := inb_of So12 ⟨by decide, by decide⟩
  obtain ⟨T13, h13, X13, e13, W13, st13⟩ := stI X6 hx hZ e6 Aro12 (j := (1 : Int32)) hino12 (g := (mkF m 14 #[.val (.int (12 : Int32)), .val (.ref b1), .val (.int (1 : Int32))] [(.int (1 : Int32)), (.int (1 : Int32)), (.ref b1)])) rfl rfl (hb hby d1_14)
  have f14 : Arv Z h13 b1 k1 .int (12 : Int32) [(.int (0 : Int32)), (.int (1 : Int32)), (.int (0 : Int32)), (.int (0 : Int32)), (.int (0 : Int32)), (.int (0 : Int32)), (.int (0 : Int32)), (.int (0 : Int32)), (.int (0 : Int32)), (.int (0 : Int32)), (.int (0 : Int32)), (.int (0 : Int32))] (.int (0 : Int32)) := Arv.set Aro12 qo12 So12 No12 Ho12 Go12 rfl W13 1 rfl (by decide)
  have f15 : Exa Z h13 b1 "[I" := f8.wr W13
  have K16 : Keep h0 h13 [] := K9.wr W13 (Or.inr sz_b1)
  have N17 := Fr.snoc X13 N10 g_b1
  have Zs18 : n0 ≤ h13.size := Nat.le_trans Zs11 (Keep.of_wr W13).1
  obtain ⟨clo19, Aro19, qo19, So19, No19, Ho19, Go19⟩ := id f14
  have hino19 : ¬ ((2 : Int32) < 0 ∨ clo19.slots.size ≤ ((2 : Int32)).toNatClampNeg) := inb_of So19 ⟨by decide, by decide⟩
  obtain ⟨T20, h20, X20, e20, W20, st20⟩ := stI X13 hx hZ e13 Aro19 (j := (2 : Int32)) hino19 (g := (mkF m 14 #[.val (.int (12 : Int32)), .val (.ref b1), .val (.int (2 : Int32))] [(.int (2 : Int32)), (.int (2 : Int32)), (.ref b1)])) rfl rfl (hb hby d1_14)
  have f21 : Arv Z h20 b1 k1 .int (12 : Int32) [(.int (0 : Int32)), (.int (1 : Int32)), (.int (2 : Int32)), (.int (0 : Int32)), (.int (0 : Int32)), (.int (0 : Int32)), (.int (0 : Int32)), (.int (0 : Int32)), (.int (0 : Int32)), (.int (0 : Int32)), (.int (0 : Int32)), (.int (0 : Int32))] (.int (0 : Int32)) := Arv.set Aro19 qo19 So19 No19 Ho19 Go19 rfl W20 2 rfl (by decide)
  have f22 : Exa Z h20 b1 "[I" := f15.wr W20
  have K23 : Keep h0 h20 [] := K16.wr W20 (Or.inr sz_b1)
  have N24 := Fr.snoc X20 N17 g_b1
  have Zs25 : n0 ≤ h20.size := Nat.le_trans Zs18 (Keep.of_wr W20).1
  obtain ⟨clo26, Aro26, qo26, So26, No26, Ho26, Go26⟩ := id f21
  have hino26 : ¬ ((3 : Int32) < 0 ∨ clo26.slots.size ≤ ((3 : Int32)).toNatClampNeg) := inb_of So26 ⟨by decide, by decide⟩
  obtain ⟨T27, h27, X27, e27, W27, st27⟩ := stI X20 hx hZ e20 Aro26 (j := (3 : Int32)) hino26 (g := (mkF m 14 #[.val (.int (12 : Int32)), .val (.ref b1), .val (.int (3 : Int32))] [(.int (3 : Int32)), (.int (3 : Int32)), (.ref b1)])) rfl rfl (hb hby d1_14)
  have f28 : Arv Z h27 b1 k1 .int (12 : Int32) [(.int (0 : Int32)), (.int (1 : Int32)), (.int (2 : Int32)), (.int (3 : Int32)), (.int (0 : Int32)), (.int (0 : Int32)), (.int (0 : Int32)), (.int (0 : Int32)), (.int (0 : Int32)), (.int (0 : Int32)), (.int (0 : Int32)), (.int (0 : Int32))] (.int (0 : Int32)) := Arv.set Aro26 qo26 So26 No26 Ho26 Go26 rfl W27 3 rfl (by decide)
  have f29 : Exa Z h27 b1 "[I" := f22.wr W27
  have K30 : Keep h0 h27 [] := K23.wr W27 (Or.inr sz_b1)
  have N31 := Fr.snoc X27 N24 g_b1
  have Zs32 : n0 ≤ h27.size := Nat.le_trans Zs25 (Keep.of_wr W27).1
  obtain ⟨clo33, Aro33, qo33, So33, No33, Ho33, Go33⟩ := id f28
  have hino33 : ¬ ((4 : Int32) < 0 ∨ clo33.slots.size ≤ ((4 : Int32)).toNatClampNeg) := inb_of So33 ⟨by decide, by decide⟩
  obtain ⟨T34, h34, X34, e34, W34, st34⟩ := stI X27 hx hZ e27 Aro33 (j := (4 : Int32)) hino33 (g := (mkF m 14 #[.val (.int (12 : Int32)), .val (.ref b1), .val (.int (4 : Int32))] [(.int (4 : Int32)), (.int (4 : Int32)), (.ref b1)])) rfl rfl (hb hby d1_14)
  have f35 : Arv Z h34 b1 k1 .int (12 : Int32) [(.int (0 : Int32)), (.int (1 : Int32)), (.int (2 : Int32)), (.int (3 : Int32)), (.int (4 : Int32)), (.int (0 : Int32)), (.int (0 : Int32)), (.int (0 : Int32)), (.int (0 : Int32)), (.int (0 : Int32)), (.int (0 : Int32)), (.int (0 : Int32))] (.int (0 : Int32)) := Arv.set Aro33 qo33 So33 No33 Ho33 Go33 rfl W34 4 rfl (by decide)
  have f36 : Exa Z h34 b1 "[I" := f29.wr W34
  have K37 : Keep h0 h34 [] := K30.wr W34 (Or.inr sz_b1)
  have N38 := Fr.snoc X34 N31 g_b1
  have Zs39 : n0 ≤ h34.size := Nat.le_trans Zs32 (Keep.of_wr W34).1
  obtain ⟨clo40, Aro40, qo40, So40, No40, Ho40, Go40⟩ := id f35
  have hino40 : ¬ ((5 : Int32) < 0 ∨ clo40.slots.size ≤ ((5 : Int32)).toNatClampNeg) := inb_of So40 ⟨by decide, by decide⟩
  obtain ⟨T41, h41, X41, e41, W41, st41⟩ := stI X34 hx hZ e34 Aro40 (j := (5 : Int32)) hino40 (g := (mkF m 14 #[.val (.int (12 : Int32)), .val (.ref b1), .val (.int (5 : Int32))] [(.int (5 : Int32)), (.int (5 : Int32)), (.ref b1)])) rfl rfl (hb hby d1_14)
  have f42 : Arv Z h41 b1 k1 .int (12 : Int32) [(.int (0 : Int32)), (.int (1 : Int32)), (.int (2 : Int32)), (.int (3 : Int32)), (.int (4 : Int32)), (.int (5 : Int32)), (.int (0 : Int32)), (.int (0 : Int32)), (.int (0 : Int32)), (.int (0 : Int32)), (.int (0 : Int32)), (.int (0 : Int32))] (.int (0 : Int32)) := Arv.set Aro40 qo40 So40 No40 Ho40 Go40 rfl W41 5 rfl (by decide)
  have f43 : Exa Z h41 b1 "[I" := f36.wr W41
  have K44 : Keep h0 h41 [] := K37.wr W41 (Or.inr sz_b1)
  have N45 := Fr.snoc X41 N38 g_b1
  have Zs46 : n0 ≤ h41.size := Nat.le_trans Zs39 (Keep.of_wr W41).1
  obtain ⟨clo47, Aro47, qo47, So47, No47, Ho47, Go47⟩ := id f42
  have hino47 : ¬ ((6 : Int32) < 0 ∨ clo47.slots.size ≤ ((6 : Int32)).toNatClampNeg) := inb_of So47 ⟨by decide, by decide⟩
  obtain ⟨T48, h48, X48, e48, W48, st48⟩ := stI X41 hx hZ e41 Aro47 (j := (6 : Int32)) hino47 (g := (mkF m 14 #[.val (.int (12 : Int32)), .val (.ref b1), .val (.int (6 : Int32))] [(.int (6 : Int32)), (.int (6 : Int32)), (.ref b1)])) rfl rfl (hb hby d1_14)
  have f49 : Arv Z h48 b1 k1 .int (12 : Int32) [(.int (0 : Int32)), (.int (1 : Int32)), (.int (2 : Int32)), (.int (3 : Int32)), (.int (4 : Int32)), (.int (5 : Int32)), (.int (6 : Int32)), (.int (0 : Int32)), (.int (0 : Int32)), (.int (0 : Int32)), (.int (0 : Int32)), (.int (0 : Int32))] (.int (0 : Int32)) := Arv.set Aro47 qo47 So47 No47 Ho47 Go47 rfl W48 6 rfl (by decide)
  have f50 : Exa Z h48 b1 "[I" := f43.wr W48
  have K51 : Keep h0 h48 [] := K44.wr W48 (Or.inr sz_b1)
  have N52 := Fr.snoc X48 N45 g_b1
  have Zs53 : n0 ≤ h48.size := Nat.le_trans Zs46 (Keep.of_wr W48).1
  obtain ⟨clo54, Aro54, qo54, So54, No54, Ho54, Go54⟩ := id f49
  have hino54 : ¬ ((7 : Int32) < 0 ∨ clo54.slots.size ≤ ((7 : Int32)).toNatClampNeg) := inb_of So54 ⟨by decide, by decide⟩
  obtain ⟨T55, h55, X55, e55, W55, st55⟩ := stI X48 hx hZ e48 Aro54 (j := (7 : Int32)) hino54 (g := (mkF m 14 #[.val (.int (12 : Int32)), .val (.ref b1), .val (.int (7 : Int32))] [(.int (7 : Int32)), (.int (7 : Int32)), (.ref b1)])) rfl rfl (hb hby d1_14)
  have f56 : Arv Z h55 b1 k1 .int (12 : Int32) [(.int (0 : Int32)), (.int (1 : Int32)), (.int (2 : Int32)), (.int (3 : Int32)), (.int (4 : Int32)), (.int (5 : Int32)), (.int (6 : Int32)), (.int (7 : Int32)), (.int (0 : Int32)), (.int (0 : Int32)), (.int (0 : Int32)), (.int (0 : Int32))] (.int (0 : Int32)) := Arv.set Aro54 qo54 So54 No54 Ho54 Go54 rfl W55 7 rfl (by decide)
  have f57 : Exa Z h55 b1 "[I" := f50.wr W55
  have K58 : Keep h0 h55 [] := K51.wr W55 (Or.inr sz_b1)
  have N59 := Fr.snoc X55 N52 g_b1
  have Zs60 : n0 ≤ h55.size := Nat.le_trans Zs53 (Keep.of_wr W55).1
  obtain ⟨clo61, Aro61, qo61, So61, No61, Ho61, Go61⟩ := id f56
  have hino61 : ¬ ((8 : Int32) < 0 ∨ clo61.slots.size ≤ ((8 : Int32)).toNatClampNeg) := inb_of So61 ⟨by decide, by decide⟩
  obtain ⟨T62, h62, X62, e62, W62, st62⟩ := stI X55 hx hZ e55 Aro61 (j := (8 : Int32)) hino61 (g := (mkF m 14 #[.val (.int (12 : Int32)), .val (.ref b1), .val (.int (8 : Int32))] [(.int (8 : Int32)), (.int (8 : Int32)), (.ref b1)])) rfl rfl (hb hby d1_14)
  have f63 : Arv Z h62 b1 k1 .int (12 : Int32) [(.int (0 : Int32)), (.int (1 : Int32)), (.int (2 : Int32)), (.int (3 : Int32)), (.int (4 : Int32)), (.int (5 : Int32)), (.int (6 : Int32)), (.int (7 : Int32)), (.int (8 : Int32)), (.int (0 : Int32)), (.int (0 : Int32)), (.int (0 : Int32))] (.int (0 : Int32)) := Arv.set Aro61 qo61 So61 No61 Ho61 Go61 rfl W62 8 rfl (by decide)
  have f64 : Exa Z h62 b1 "[I" := f57.wr W62
  have K65 : Keep h0 h62 [] := K58.wr W62 (Or.inr sz_b1)
  have N66 := Fr.snoc X62 N59 g_b1
  have Zs67 : n0 ≤ h62.size := Nat.le_trans Zs60 (Keep.of_wr W62).1
  obtain ⟨clo68, Aro68, qo68, So68, No68, Ho68, Go68⟩ := id f63
  have hino68 : ¬ ((9 : Int32) < 0 ∨ clo68.slots.size ≤ ((9 : Int32)).toNatClampNeg) := inb_of So68 ⟨by decide, by decide⟩
  obtain ⟨T69, h69, X69, e69, W69, st69⟩ := stI X62 hx hZ e62 Aro68 (j := (9 : Int32)) hino68 (g := (mkF m 14 #[.val (.int (12 : Int32)), .val (.ref b1), .val (.int (9 : Int32))] [(.int (9 : Int32)), (.int (9 : Int32)), (.ref b1)])) rfl rfl (hb hby d1_14)
  have f70 : Arv Z h69 b1 k1 .int (12 : Int32) [(.int (0 : Int32)), (.int (1 : Int32)), (.int (2 : Int32)), (.int (3 : Int32)), (.int (4 : Int32)), (.int (5 : Int32)), (.int (6 : Int32)), (.int (7 : Int32)), (.int (8 : Int32)), (.int (9 : Int32)), (.int (0 : Int32)), (.int (0 : Int32))] (.int (0 : Int32)) := Arv.set Aro68 qo68 So68 No68 Ho68 Go68 rfl W69 9 rfl (by decide)
  have f71 : Exa Z h69 b1 "[I" := f64.wr W69
  have K72 : Keep h0 h69 [] := K65.wr W69 (Or.inr sz_b1)
  have N73 := Fr.snoc X69 N66 g_b1
  have Zs74 : n0 ≤ h69.size := Nat.le_trans Zs67 (Keep.of_wr W69).1
  obtain ⟨clo75, Aro75, qo75, So75, No75, Ho75, Go75⟩ := id f70
  have hino75 : ¬ ((10 : Int32) < 0 ∨ clo75.slots.size ≤ ((10 : Int32)).toNatClampNeg) := inb_of So75 ⟨by decide, by decide⟩
  obtain ⟨T76, h76, X76, e76, W76, st76⟩ := stI X69 hx hZ e69 Aro75 (j := (10 : Int32)) hino75 (g := (mkF m 14 #[.val (.int (12 : Int32)), .val (.ref b1), .val (.int (10 : Int32))] [(.int (10 : Int32)), (.int (10 : Int32)), (.ref b1)])) rfl rfl (hb hby d1_14)
  have f77 : Arv Z h76 b1 k1 .int (12 : Int32) [(.int (0 : Int32)), (.int (1 : Int32)), (.int (2 : Int32)), (.int (3 : Int32)), (.int (4 : Int32)), (.int (5 : Int32)), (.int (6 : Int32)), (.int (7 : Int32)), (.int (8 : Int32)), (.int (9 : Int32)), (.int (10 : Int32)), (.int (0 : Int32))] (.int (0 : Int32)) := Arv.set Aro75 qo75 So75 No75 Ho75 Go75 rfl W76 10 rfl (by decide)
  have f78 : Exa Z h76 b1 "[I" := f71.wr W76
  have K79 : Keep h0 h76 [] := K72.wr W76 (Or.inr sz_b1)
  have N80 := Fr.snoc X76 N73 g_b1
  have Zs81 : n0 ≤ h76.size := Nat.le_trans Zs74 (Keep.of_wr W76).1
  obtain ⟨clo82, Aro82, qo82, So82, No82, Ho82, Go82⟩ := id f77
  have hino82 : ¬ ((11 : Int32) < 0 ∨ clo82.slots.size ≤ ((11 : Int32)).toNatClampNeg) := inb_of So82 ⟨by decide, by decide⟩
  obtain ⟨T83, h83, X83, e83, W83, st83⟩ := stI X76 hx hZ e76 Aro82 (j := (11 : Int32)) hino82 (g := (mkF m 14 #[.val (.int (12 : Int32)), .val (.ref b1), .val (.int (11 : Int32))] [(.int (11 : Int32)), (.int (11 : Int32)), (.ref b1)])) rfl rfl (hb hby d1_14)
  have f84 : Arv Z h83 b1 k1 .int (12 : Int32) [(.int (0 : Int32)), (.int (1 : Int32)), (.int (2 : Int32)), (.int (3 : Int32)), (.int (4 : Int32)), (.int (5 : Int32)), (.int (6 : Int32)), (.int (7 : Int32)), (.int (8 : Int32)), (.int (9 : Int32)), (.int (10 : Int32)), (.int (11 : Int32))] (.int (0 : Int32)) := Arv.set Aro82 qo82 So82 No82 Ho82 Go82 rfl W83 11 rfl (by decide)
  have f85 : Exa Z h83 b1 "[I" := f78.wr W83
  have K86 : Keep h0 h83 [] := K79.wr W83 (Or.inr sz_b1)
  have N87 := Fr.snoc X83 N80 g_b1
  have Zs88 : n0 ≤ h83.size := Nat.le_trans Zs81 (Keep.of_wr W83).1
  have f89 : Arv Z h83 b1 k1 .int (12 : Int32) own_ids (.int (0 : Int32)) := own_conv f84 (by decide)
  obtain ⟨fs, hr, hrun, hended, hW, hsame⟩ := X83.leave (v := some (.ref b1)) (fun h => by rw [Bd.returns] at h; cases h) Bd.notSynchronized
  refine ⟨_, _, pre0 _ ?_, hrun, hended, _, _, rfl, ?_, ⟨_, rfl⟩, hW, hsame.mono (by decide) (by decide)⟩
  · show Steps p.tables e below (s₁.setTop (mkF m 0 #[.val (.int (12 : Int32)), .unset, .unset] [])) _
    refine XS.iloadN X0.here hx rfl (hb hby d1_0) rfl ?_
    show Steps p.tables e below (s₁.setTop (mkF m 1 #[.val (.int (12 : Int32)), .unset, .unset] [(.int (12 : Int32))])) _
    refine st1 _ ?_
    show Steps p.tables e below (T1.setTop (mkF m 3 #[.val (.int (12 : Int32)), .unset, .unset] [(.ref b1)])) _
    refine XS.astoreN X1.here hx rfl (hb hby d1_3) rfl rfl (l' := #[.val (.int (12 : Int32)), .val (.ref b1), .unset]) rfl ?_
    show Steps p.tables e below (T1.setTop (mkF m 4 #[.val (.int (12 : Int32)), .val (.ref b1), .unset] [])) _
    refine XS.iconst X1.here hx rfl (hb hby d1_4) ?_
    show Steps p.tables e below (T1.setTop (mkF m 5 #[.val (.int (12 : Int32)), .val (.ref b1), .unset] [(.int (0 : Int32))])) _
    refine XS.istoreN X1.here hx rfl (hb hby d1_5) rfl (l' := #[.val (.int (12 : Int32)), .val (.ref b1), .val (.int (0 : Int32))]) rfl ?_
    show Steps p.tables e below (T1.setTop (mkF m 6 #[.val (.int (12 : Int32)), .val (.ref b1), .val (.int (0 : Int32))] [])) _
    refine XS.iloadN X1.here hx rfl (hb hby d1_6) rfl ?_
    show Steps p.tables e below (T1.setTop (mkF m 7 #[.val (.int (12 : Int32)), .val (.ref b1), .val (.int (0 : Int32))] [(.int (0 : Int32))])) _
    refine XS.iloadN X1.here hx rfl (hb hby d1_7) rfl ?_
    show Steps p.tables e below (T1.setTop (mkF m 8 #[.val (.int (12 : Int32)), .val (.ref b1), .val (.int (0 : Int32))] [(.int (12 : Int32)), (.int (0 : Int32))])) _
    refine XS.icmpNo X1.here hx rfl (hb hby d1_8) rfl (tlt (by decide : (0 : Int32) < (12 : Int32))).2.1 ?_
    show Steps p.tables e below (T1.setTop (mkF m 11 #[.val (.int (12 : Int32)), .val (.ref b1), .val (.int (0 : Int32))] [])) _
    refine XS.aloadN X1.here hx rfl (hb hby d1_11) rfl rfl ?_
    show Steps p.tables e below (T1.setTop (mkF m 12 #[.val (.int (12 : Int32)), .val (.ref b1), .val (.int (0 : Int32))] [(.ref b1)])) _
    refine XS.iloadN X1.here hx rfl (hb hby d1_12) rfl ?_
    show Steps p.tables e below (T1.setTop (mkF m 13 #[.val (.int (12 : Int32)), .val (.ref b1), .val (.int (0 : Int32))] [(.int (0 : Int32)), (.ref b1)])) _
    refine XS.iloadN X1.here hx rfl (hb hby d1_13) rfl ?_
    show Steps p.tables e below (T1.setTop (mkF m 14 #[.val (.int (12 : Int32)), .val (.ref b1), .val (.int (0 : Int32))] [(.int (0 : Int32)), (.int (0 : Int32)), (.ref b1)])) _
    refine st6 _ ?_
    show Steps p.tables e below (T6.setTop (mkF m 15 #[.val (.int (12 : Int32)), .val (.ref b1), .val (.int (0 : Int32))] [])) _
    refine XS.iinc X6.here hx rfl (hb hby d1_15) rfl (l' := #[.val (.int (12 : Int32)), .val (.ref b1), .val (.int (1 : Int32))]) rfl ?_
    show Steps p.tables e below (T6.setTop (mkF m 18 #[.val (.int (12 : Int32)), .val (.ref b1), .val (.int (1 : Int32))] [])) _
    refine XS.goto X6.here hx rfl (pc0 := 18) (pc' := 6) rfl (hb hby d1_18) (by decide) (by decide) ?_
    show Steps p.tables e below (T6.setTop (mkF m 6 #[.val (.int (12 : Int32)), .val (.ref b1), .val (.int (1 : Int32))] [])) _
    refine XS.iloadN X6.here hx rfl (hb hby d1_6) rfl ?_
    show Steps p.tables e below (T6.setTop (mkF m 7 #[.val (.int (12 : Int32)), .val (.ref b1), .val (.int (1 : Int32))] [(.int (1 : Int32))])) _
    refine XS.iloadN X6.here hx rfl (hb hby d1_7) rfl ?_
    show Steps p.tables e below (T6.setTop (mkF m 8 #[.val (.int (12 : Int32)), .val (.ref b1), .val (.int (1 : Int32))] [(.int (12 : Int32)), (.int (1 : Int32))])) _
    refine XS.icmpNo X6.here hx rfl (hb hby d1_8) rfl (tlt (by decide : (1 : Int32) < (12 : Int32))).2.1 ?_
    show Steps p.tables e below (T6.setTop (mkF m 11 #[.val (.int (12 : Int32)), .val (.ref b1), .val (.int (1 : Int32))] [])) _
    refine XS.aloadN X6.here hx rfl (hb hby d1_11) rfl rfl ?_
    show Steps p.tables e below (T6.setTop (mkF m 12 #[.val (.int (12 : Int32)), .val (.ref b1), .val (.int (1 : Int32))] [(.ref b1)])) _
    refine XS.iloadN X6.here hx rfl (hb hby d1_12) rfl ?_
    show Steps p.tables e below (T6.setTop (mkF m 13 #[.val (.int (12 : Int32)), .val (.ref b1), .val (.int (1 : Int32))] [(.int (1 : Int32)), (.ref b1)])) _
    refine XS.iloadN X6.here hx rfl (hb hby d1_13) rfl ?_
    show Steps p.tables e below (T6.setTop (mkF m 14 #[.val (.int (12 : Int32)), .val (.ref b1), .val (.int (1 : Int32))] [(.int (1 : Int32)), (.int (1 : Int32)), (.ref b1)])) _
    refine st13 _ ?_
    show Steps p.tables e below (T13.setTop (mkF m 15 #[.val (.int (12 : Int32)), .val (.ref b1), .val (.int (1 : Int32))] [])) _
    refine XS.iinc X13.here hx rfl (hb hby d1_15) rfl (l' := #[.val (.int (12 : Int32)), .val (.ref b1), .val (.int (2 : Int32))]) rfl ?_
    show Steps p.tables e below (T13.setTop (mkF m 18 #[.val (.int (12 : Int32)), .val (.ref b1), .val (.int (2 : Int32))] [])) _
    refine XS.goto X13.here hx rfl (pc0 := 18) (pc' := 6) rfl (hb hby d1_18) (by decide) (by decide) ?_
    show Steps p.tables e below (T13.setTop (mkF m 6 #[.val (.int (12 : Int32)), .val (.ref b1), .val (.int (2 : Int32))] [])) _
    refine XS.iloadN X13.here hx rfl (hb hby d1_6) rfl ?_
    show Steps p.tables e below (T13.setTop (mkF m 7 #[.val (.int (12 : Int32)), .val (.ref b1), .val (.int (2 : Int32))] [(.int (2 : Int32))])) _
    refine XS.iloadN X13.here hx rfl (hb hby d1_7) rfl ?_
    show Steps p.tables e below (T13.setTop (mkF m 8 #[.val (.int (12 : Int32)), .val (.ref b1), .val (.int (2 : Int32))] [(.int (12 : Int32)), (.int (2 : Int32))])) _
    refine XS.icmpNo X13.here hx rfl (hb hby d1_8) rfl (tlt (by decide : (2 : Int32) < (12 : Int32))).2.1 ?_
    show Steps p.tables e below (T13.setTop (mkF m 11 #[.val (.int (12 : Int32)), .val (.ref b1), .val (.int (2 : Int32))] [])) _
    refine XS.aloadN X13.here hx rfl (hb hby d1_11) rfl rfl ?_
    show Steps p.tables e below (T13.setTop (mkF m 12 #[.val (.int (12 : Int32)), .val (.ref b1), .val (.int (2 : Int32))] [(.ref b1)])) _
    refine XS.iloadN X13.here hx rfl (hb hby d1_12) rfl ?_
    show Steps p.tables e below (T13.setTop (mkF m 13 #[.val (.int (12 : Int32)), .val (.ref b1), .val (.int (2 : Int32))] [(.int (2 : Int32)), (.ref b1)])) _
    refine XS.iloadN X13.here hx rfl (hb hby d1_13) rfl ?_
    show Steps p.tables e below (T13.setTop (mkF m 14 #[.val (.int (12 : Int32)), .val (.ref b1), .val (.int (2 : Int32))] [(.int (2 : Int32)), (.int (2 : Int32)), (.ref b1)])) _
    refine st20 _ ?_
    show Steps p.tables e below (T20.setTop (mkF m 15 #[.val (.int (12 : Int32)), .val (.ref b1), .val (.int (2 : Int32))] [])) _
    refine XS.iinc X20.here hx rfl (hb hby d1_15) rfl (l' := #[.val (.int (12 : Int32)), .val (.ref b1), .val (.int (3 : Int32))]) rfl ?_
    show Steps p.tables e below (T20.setTop (mkF m 18 #[.val (.int (12 : Int32)), .val (.ref b1), .val (.int (3 : Int32))] [])) _
    refine XS.goto X20.here hx rfl (pc0 := 18) (pc' := 6) rfl (hb hby d1_18) (by decide) (by decide) ?_
    show Steps p.tables e below (T20.setTop (mkF m 6 #[.val (.int (12 : Int32)), .val (.ref b1), .val (.int (3 : Int32))] [])) _
    refine XS.iloadN X20.here hx rfl (hb hby d1_6) rfl ?_
    show Steps p.tables e below (T20.setTop (mkF m 7 #[.val (.int (12 : Int32)), .val (.ref b1), .val (.int (3 : Int32))] [(.int (3 : Int32))])) _
    refine XS.iloadN X20.here hx rfl (hb hby d1_7) rfl ?_
    show Steps p.tables e below (T20.setTop (mkF m 8 #[.val (.int (12 : Int32)), .val (.ref b1), .val (.int (3 : Int32))] [(.int (12 : Int32)), (.int (3 : Int32))])) _
    refine XS.icmpNo X20.here hx rfl (hb hby d1_8) rfl (tlt (by decide : (3 : Int32) < (12 : Int32))).2.1 ?_
    show Steps p.tables e below (T20.setTop (mkF m 11 #[.val (.int (12 : Int32)), .val (.ref b1), .val (.int (3 : Int32))] [])) _
    refine XS.aloadN X20.here hx rfl (hb hby d1_11) rfl rfl ?_
    show Steps p.tables e below (T20.setTop (mkF m 12 #[.val (.int (12 : Int32)), .val (.ref b1), .val (.int (3 : Int32))] [(.ref b1)])) _
    refine XS.iloadN X20.here hx rfl (hb hby d1_12) rfl ?_
    show Steps p.tables e below (T20.setTop (mkF m 13 #[.val (.int (12 : Int32)), .val (.ref b1), .val (.int (3 : Int32))] [(.int (3 : Int32)), (.ref b1)])) _
    refine XS.iloadN X20.here hx rfl (hb hby d1_13) rfl ?_
    show Steps p.tables e below (T20.setTop (mkF m 14 #[.val (.int (12 : Int32)), .val (.ref b1), .val (.int (3 : Int32))] [(.int (3 : Int32)), (.int (3 : Int32)), (.ref b1)])) _
    refine st27 _ ?_
    show Steps p.tables e below (T27.setTop (mkF m 15 #[.val (.int (12 : Int32)), .val (.ref b1), .val (.int (3 : Int32))] [])) _
    refine XS.iinc X27.here hx rfl (hb hby d1_15) rfl (l' := #[.val (.int (12 : Int32)), .val (.ref b1), .val (.int (4 : Int32))]) rfl ?_
    show Steps p.tables e below (T27.setTop (mkF m 18 #[.val (.int (12 : Int32)), .val (.ref b1), .val (.int (4 : Int32))] [])) _
    refine XS.goto X27.here hx rfl (pc0 := 18) (pc' := 6) rfl (hb hby d1_18) (by decide) (by decide) ?_
    show Steps p.tables e below (T27.setTop (mkF m 6 #[.val (.int (12 : Int32)), .val (.ref b1), .val (.int (4 : Int32))] [])) _
    refine XS.iloadN X27.here hx rfl (hb hby d1_6) rfl ?_
    show Steps p.tables e below (T27.setTop (mkF m 7 #[.val (.int (12 : Int32)), .val (.ref b1), .val (.int (4 : Int32))] [(.int (4 : Int32))])) _
    refine XS.iloadN X27.here hx rfl (hb hby d1_7) rfl ?_
    show Steps p.tables e below (T27.setTop (mkF m 8 #[.val (.int (12 : Int32)), .val (.ref b1), .val (.int (4 : Int32))] [(.int (12 : Int32)), (.int (4 : Int32))])) _
    refine XS.icmpNo X27.here hx rfl (hb hby d1_8) rfl (tlt (by decide : (4 : Int32) < (12 : Int32))).2.1 ?_
    show Steps p.tables e below (T27.setTop (mkF m 11 #[.val (.int (12 : Int32)), .val (.ref b1), .val (.int (4 : Int32))] [])) _
    refine XS.aloadN X27.here hx rfl (hb hby d1_11) rfl rfl ?_
    show Steps p.tables e below (T27.setTop (mkF m 12 #[.val (.int (12 : Int32)), .val (.ref b1), .val (.int (4 : Int32))] [(.ref b1)])) _
    refine XS.iloadN X27.here hx rfl (hb hby d1_12) rfl ?_
    show Steps p.tables e below (T27.setTop (mkF m 13 #[.val (.int (12 : Int32)), .val (.ref b1), .val (.int (4 : Int32))] [(.int (4 : Int32)), (.ref b1)])) _
    refine XS.iloadN X27.here hx rfl (hb hby d1_13) rfl ?_
    show Steps p.tables e below (T27.setTop (mkF m 14 #[.val (.int (12 : Int32)), .val (.ref b1), .val (.int (4 : Int32))] [(.int (4 : Int32)), (.int (4 : Int32)), (.ref b1)])) _
    refine st34 _ ?_
    show Steps p.tables e below (T34.setTop (mkF m 15 #[.val (.int (12 : Int32)), .val (.ref b1), .val (.int (4 : Int32))] [])) _
    refine XS.iinc X34.here hx rfl (hb hby d1_15) rfl (l' := #[.val (.int (12 : Int32)), .val (.ref b1), .val (.int (5 : Int32))]) rfl ?_
    show Steps p.tables e below (T34.setTop (mkF m 18 #[.val (.int (12 : Int32)), .val (.ref b1), .val (.int (5 : Int32))] [])) _
    refine XS.goto X34.here hx rfl (pc0 := 18) (pc' := 6) rfl (hb hby d1_18) (by decide) (by decide) ?_
    show Steps p.tables e below (T34.setTop (mkF m 6 #[.val (.int (12 : Int32)), .val (.ref b1), .val (.int (5 : Int32))] [])) _
    refine XS.iloadN X34.here hx rfl (hb hby d1_6) rfl ?_
    show Steps p.tables e below (T34.setTop (mkF m 7 #[.val (.int (12 : Int32)), .val (.ref b1), .val (.int (5 : Int32))] [(.int (5 : Int32))])) _
    refine XS.iloadN X34.here hx rfl (hb hby d1_7) rfl ?_
    show Steps p.tables e below (T34.setTop (mkF m 8 #[.val (.int (12 : Int32)), .val (.ref b1), .val (.int (5 : Int32))] [(.int (12 : Int32)), (.int (5 : Int32))])) _
    refine XS.icmpNo X34.here hx rfl (hb hby d1_8) rfl (tlt (by decide : (5 : Int32) < (12 : Int32))).2.1 ?_
    show Steps p.tables e below (T34.setTop (mkF m 11 #[.val (.int (12 : Int32)), .val (.ref b1), .val (.int (5 : Int32))] [])) _
    refine XS.aloadN X34.here hx rfl (hb hby d1_11) rfl rfl ?_
    show Steps p.tables e below (T34.setTop (mkF m 12 #[.val (.int (12 : Int32)), .val (.ref b1), .val (.int (5 : Int32))] [(.ref b1)])) _
    refine XS.iloadN X34.here hx rfl (hb hby d1_12) rfl ?_
    show Steps p.tables e below (T34.setTop (mkF m 13 #[.val (.int (12 : Int32)), .val (.ref b1), .val (.int (5 : Int32))] [(.int (5 : Int32)), (.ref b1)])) _
    refine XS.iloadN X34.here hx rfl (hb hby d1_13) rfl ?_
    show Steps p.tables e below (T34.setTop (mkF m 14 #[.val (.int (12 : Int32)), .val (.ref b1), .val (.int (5 : Int32))] [(.int (5 : Int32)), (.int (5 : Int32)), (.ref b1)])) _
    refine st41 _ ?_
    show Steps p.tables e below (T41.setTop (mkF m 15 #[.val (.int (12 : Int32)), .val (.ref b1), .val (.int (5 : Int32))] [])) _
    refine XS.iinc X41.here hx rfl (hb hby d1_15) rfl (l' := #[.val (.int (12 : Int32)), .val (.ref b1), .val (.int (6 : Int32))]) rfl ?_
    show Steps p.tables e below (T41.setTop (mkF m 18 #[.val (.int (12 : Int32)), .val (.ref b1), .val (.int (6 : Int32))] [])) _
    refine XS.goto X41.here hx rfl (pc0 := 18) (pc' := 6) rfl (hb hby d1_18) (by decide) (by decide) ?_
    show Steps p.tables e below (T41.setTop (mkF m 6 #[.val (.int (12 : Int32)), .val (.ref b1), .val (.int (6 : Int32))] [])) _
    refine XS.iloadN X41.here hx rfl (hb hby d1_6) rfl ?_
    show Steps p.tables e below (T41.setTop (mkF m 7 #[.val (.int (12 : Int32)), .val (.ref b1), .val (.int (6 : Int32))] [(.int (6 : Int32))])) _
    refine XS.iloadN X41.here hx rfl (hb hby d1_7) rfl ?_
    show Steps p.tables e below (T41.setTop (mkF m 8 #[.val (.int (12 : Int32)), .val (.ref b1), .val (.int (6 : Int32))] [(.int (12 : Int32)), (.int (6 : Int32))])) _
    refine XS.icmpNo X41.here hx rfl (hb hby d1_8) rfl (tlt (by decide : (6 : Int32) < (12 : Int32))).2.1 ?_
    show Steps p.tables e below (T41.setTop (mkF m 11 #[.val (.int (12 : Int32)), .val (.ref b1), .val (.int (6 : Int32))] [])) _
    refine XS.aloadN X41.here hx rfl (hb hby d1_11) rfl rfl ?_
    show Steps p.tables e below (T41.setTop (mkF m 12 #[.val (.int (12 : Int32)), .val (.ref b1), .val (.int (6 : Int32))] [(.ref b1)])) _
    refine XS.iloadN X41.here hx rfl (hb hby d1_12) rfl ?_
    show Steps p.tables e below (T41.setTop (mkF m 13 #[.val (.int (12 : Int32)), .val (.ref b1), .val (.int (6 : Int32))] [(.int (6 : Int32)), (.ref b1)])) _
    refine XS.iloadN X41.here hx rfl (hb hby d1_13) rfl ?_
    show Steps p.tables e below (T41.setTop (mkF m 14 #[.val (.int (12 : Int32)), .val (.ref b1), .val (.int (6 : Int32))] [(.int (6 : Int32)), (.int (6 : Int32)), (.ref b1)])) _
    refine st48 _ ?_
    show Steps p.tables e below (T48.setTop (mkF m 15 #[.val (.int (12 : Int32)), .val (.ref b1), .val (.int (6 : Int32))] [])) _
    refine XS.iinc X48.here hx rfl (hb hby d1_15) rfl (l' := #[.val (.int (12 : Int32)), .val (.ref b1), .val (.int (7 : Int32))]) rfl ?_
    show Steps p.tables e below (T48.setTop (mkF m 18 #[.val (.int (12 : Int32)), .val (.ref b1), .val (.int (7 : Int32))] [])) _
    refine XS.goto X48.here hx rfl (pc0 := 18) (pc' := 6) rfl (hb hby d1_18) (by decide) (by decide) ?_
    show Steps p.tables e below (T48.setTop (mkF m 6 #[.val (.int (12 : Int32)), .val (.ref b1), .val (.int (7 : Int32))] [])) _
    refine XS.iloadN X48.here hx rfl (hb hby d1_6) rfl ?_
    show Steps p.tables e below (T48.setTop (mkF m 7 #[.val (.int (12 : Int32)), .val (.ref b1), .val (.int (7 : Int32))] [(.int (7 : Int32))])) _
    refine XS.iloadN X48.here hx rfl (hb hby d1_7) rfl ?_
    show Steps p.tables e below (T48.setTop (mkF m 8 #[.val (.int (12 : Int32)), .val (.ref b1), .val (.int (7 : Int32))] [(.int (12 : Int32)), (.int (7 : Int32))])) _
    refine XS.icmpNo X48.here hx rfl (hb hby d1_8) rfl (tlt (by decide : (7 : Int32) < (12 : Int32))).2.1 ?_
    show Steps p.tables e below (T48.setTop (mkF m 11 #[.val (.int (12 : Int32)), .val (.ref b1), .val (.int (7 : Int32))] [])) _
    refine XS.aloadN X48.here hx rfl (hb hby d1_11) rfl rfl ?_
    show Steps p.tables e below (T48.setTop (mkF m 12 #[.val (.int (12 : Int32)), .val (.ref b1), .val (.int (7 : Int32))] [(.ref b1)])) _
    refine XS.iloadN X48.here hx rfl (hb hby d1_12) rfl ?_
    show Steps p.tables e below (T48.setTop (mkF m 13 #[.val (.int (12 : Int32)), .val (.ref b1), .val (.int (7 : Int32))] [(.int (7 : Int32)), (.ref b1)])) _
    refine XS.iloadN X48.here hx rfl (hb hby d1_13) rfl ?_
    show Steps p.tables e below (T48.setTop (mkF m 14 #[.val (.int (12 : Int32)), .val (.ref b1), .val (.int (7 : Int32))] [(.int (7 : Int32)), (.int (7 : Int32)), (.ref b1)])) _
    refine st55 _ ?_
    show Steps p.tables e below (T55.setTop (mkF m 15 #[.val (.int (12 : Int32)), .val (.ref b1), .val (.int (7 : Int32))] [])) _
    refine XS.iinc X55.here hx rfl (hb hby d1_15) rfl (l' := #[.val (.int (12 : Int32)), .val (.ref b1), .val (.int (8 : Int32))]) rfl ?_
    show Steps p.tables e below (T55.setTop (mkF m 18 #[.val (.int (12 : Int32)), .val (.ref b1), .val (.int (8 : Int32))] [])) _
    refine XS.goto X55.here hx rfl (pc0 := 18) (pc' := 6) rfl (hb hby d1_18) (by decide) (by decide) ?_
    show Steps p.tables e below (T55.setTop (mkF m 6 #[.val (.int (12 : Int32)), .val (.ref b1), .val (.int (8 : Int32))] [])) _
    refine XS.iloadN X55.here hx rfl (hb hby d1_6) rfl ?_
    show Steps p.tables e below (T55.setTop (mkF m 7 #[.val (.int (12 : Int32)), .val (.ref b1), .val (.int (8 : Int32))] [(.int (8 : Int32))])) _
    refine XS.iloadN X55.here hx rfl (hb hby d1_7) rfl ?_
    show Steps p.tables e below (T55.setTop (mkF m 8 #[.val (.int (12 : Int32)), .val (.ref b1), .val (.int (8 : Int32))] [(.int (12 : Int32)), (.int (8 : Int32))])) _
    refine XS.icmpNo X55.here hx rfl (hb hby d1_8) rfl (tlt (by decide : (8 : Int32) < (12 : Int32))).2.1 ?_
    show Steps p.tables e below (T55.setTop (mkF m 11 #[.val (.int (12 : Int32)), .val (.ref b1), .val (.int (8 : Int32))] [])) _
    refine XS.aloadN X55.here hx rfl (hb hby d1_11) rfl rfl ?_
    show Steps p.tables e below (T55.setTop (mkF m 12 #[.val (.int (12 : Int32)), .val (.ref b1), .val (.int (8 : Int32))] [(.ref b1)])) _
    refine XS.iloadN X55.here hx rfl (hb hby d1_12) rfl ?_
    show Steps p.tables e below (T55.setTop (mkF m 13 #[.val (.int (12 : Int32)), .val (.ref b1), .val (.int (8 : Int32))] [(.int (8 : Int32)), (.ref b1)])) _
    refine XS.iloadN X55.here hx rfl (hb hby d1_13) rfl ?_
    show Steps p.tables e below (T55.setTop (mkF m 14 #[.val (.int (12 : Int32)), .val (.ref b1), .val (.int (8 : Int32))] [(.int (8 : Int32)), (.int (8 : Int32)), (.ref b1)])) _
    refine st62 _ ?_
    show Steps p.tables e below (T62.setTop (mkF m 15 #[.val (.int (12 : Int32)), .val (.ref b1), .val (.int (8 : Int32))] [])) _
    refine XS.iinc X62.here hx rfl (hb hby d1_15) rfl (l' := #[.val (.int (12 : Int32)), .val (.ref b1), .val (.int (9 : Int32))]) rfl ?_
    show Steps p.tables e below (T62.setTop (mkF m 18 #[.val (.int (12 : Int32)), .val (.ref b1), .val (.int (9 : Int32))] [])) _
    refine XS.goto X62.here hx rfl (pc0 := 18) (pc' := 6) rfl (hb hby d1_18) (by decide) (by decide) ?_
    show Steps p.tables e below (T62.setTop (mkF m 6 #[.val (.int (12 : Int32)), .val (.ref b1), .val (.int (9 : Int32))] [])) _
    refine XS.iloadN X62.here hx rfl (hb hby d1_6) rfl ?_
    show Steps p.tables e below (T62.setTop (mkF m 7 #[.val (.int (12 : Int32)), .val (.ref b1), .val (.int (9 : Int32))] [(.int (9 : Int32))])) _
    refine XS.iloadN X62.here hx rfl (hb hby d1_7) rfl ?_
    show Steps p.tables e below (T62.setTop (mkF m 8 #[.val (.int (12 : Int32)), .val (.ref b1), .val (.int (9 : Int32))] [(.int (12 : Int32)), (.int (9 : Int32))])) _
    refine XS.icmpNo X62.here hx rfl (hb hby d1_8) rfl (tlt (by decide : (9 : Int32) < (12 : Int32))).2.1 ?_
    show Steps p.tables e below (T62.setTop (mkF m 11 #[.val (.int (12 : Int32)), .val (.ref b1), .val (.int (9 : Int32))] [])) _
    refine XS.aloadN X62.here hx rfl (hb hby d1_11) rfl rfl ?_
    show Steps p.tables e below (T62.setTop (mkF m 12 #[.val (.int (12 : Int32)), .val (.ref b1), .val (.int (9 : Int32))] [(.ref b1)])) _
    refine XS.iloadN X62.here hx rfl (hb hby d1_12) rfl ?_
    show Steps p.tables e below (T62.setTop (mkF m 13 #[.val (.int (12 : Int32)), .val (.ref b1), .val (.int (9 : Int32))] [(.int (9 : Int32)), (.ref b1)])) _
    refine XS.iloadN X62.here hx rfl (hb hby d1_13) rfl ?_
    show Steps p.tables e below (T62.setTop (mkF m 14 #[.val (.int (12 : Int32)), .val (.ref b1), .val (.int (9 : Int32))] [(.int (9 : Int32)), (.int (9 : Int32)), (.ref b1)])) _
    refine st69 _ ?_
    show Steps p.tables e below (T69.setTop (mkF m 15 #[.val (.int (12 : Int32)), .val (.ref b1), .val (.int (9 : Int32))] [])) _
    refine XS.iinc X69.here hx rfl (hb hby d1_15) rfl (l' := #[.val (.int (12 : Int32)), .val (.ref b1), .val (.int (10 : Int32))]) rfl ?_
    show Steps p.tables e below (T69.setTop (mkF m 18 #[.val (.int (12 : Int32)), .val (.ref b1), .val (.int (10 : Int32))] [])) _
    refine XS.goto X69.here hx rfl (pc0 := 18) (pc' := 6) rfl (hb hby d1_18) (by decide) (by decide) ?_
    show Steps p.tables e below (T69.setTop (mkF m 6 #[.val (.int (12 : Int32)), .val (.ref b1), .val (.int (10 : Int32))] [])) _
    refine XS.iloadN X69.here hx rfl (hb hby d1_6) rfl ?_
    show Steps p.tables e below (T69.setTop (mkF m 7 #[.val (.int (12 : Int32)), .val (.ref b1), .val (.int (10 : Int32))] [(.int (10 : Int32))])) _
    refine XS.iloadN X69.here hx rfl (hb hby d1_7) rfl ?_
    show Steps p.tables e below (T69.setTop (mkF m 8 #[.val (.int (12 : Int32)), .val (.ref b1), .val (.int (10 : Int32))] [(.int (12 : Int32)), (.int (10 : Int32))])) _
    refine XS.icmpNo X69.here hx rfl (hb hby d1_8) rfl (tlt (by decide : (10 : Int32) < (12 : Int32))).2.1 ?_
    show Steps p.tables e below (T69.setTop (mkF m 11 #[.val (.int (12 : Int32)), .val (.ref b1), .val (.int (10 : Int32))] [])) _
    refine XS.aloadN X69.here hx rfl (hb hby d1_11) rfl rfl ?_
    show Steps p.tables e below (T69.setTop (mkF m 12 #[.val (.int (12 : Int32)), .val (.ref b1), .val (.int (10 : Int32))] [(.ref b1)])) _
    refine XS.iloadN X69.here hx rfl (hb hby d1_12) rfl ?_
    show Steps p.tables e below (T69.setTop (mkF m 13 #[.val (.int (12 : Int32)), .val (.ref b1), .val (.int (10 : Int32))] [(.int (10 : Int32)), (.ref b1)])) _
    refine XS.iloadN X69.here hx rfl (hb hby d1_13) rfl ?_
    show Steps p.tables e below (T69.setTop (mkF m 14 #[.val (.int (12 : Int32)), .val (.ref b1), .val (.int (10 : Int32))] [(.int (10 : Int32)), (.int (10 : Int32)), (.ref b1)])) _
    refine st76 _ ?_
    show Steps p.tables e below (T76.setTop (mkF m 15 #[.val (.int (12 : Int32)), .val (.ref b1), .val (.int (10 : Int32))] [])) _
    refine XS.iinc X76.here hx rfl (hb hby d1_15) rfl (l' := #[.val (.int (12 : Int32)), .val (.ref b1), .val (.int (11 : Int32))]) rfl ?_
    show Steps p.tables e below (T76.setTop (mkF m 18 #[.val (.int (12 : Int32)), .val (.ref b1), .val (.int (11 : Int32))] [])) _
    refine XS.goto X76.here hx rfl (pc0 := 18) (pc' := 6) rfl (hb hby d1_18) (by decide) (by decide) ?_
    show Steps p.tables e below (T76.setTop (mkF m 6 #[.val (.int (12 : Int32)), .val (.ref b1), .val (.int (11 : Int32))] [])) _
    refine XS.iloadN X76.here hx rfl (hb hby d1_6) rfl ?_
    show Steps p.tables e below (T76.setTop (mkF m 7 #[.val (.int (12 : Int32)), .val (.ref b1), .val (.int (11 : Int32))] [(.int (11 : Int32))])) _
    refine XS.iloadN X76.here hx rfl (hb hby d1_7) rfl ?_
    show Steps p.tables e below (T76.setTop (mkF m 8 #[.val (.int (12 : Int32)), .val (.ref b1), .val (.int (11 : Int32))] [(.int (12 : Int32)), (.int (11 : Int32))])) _
    refine XS.icmpNo X76.here hx rfl (hb hby d1_8) rfl (tlt (by decide : (11 : Int32) < (12 : Int32))).2.1 ?_
    show Steps p.tables e below (T76.setTop (mkF m 11 #[.val (.int (12 : Int32)), .val (.ref b1), .val (.int (11 : Int32))] [])) _
    refine XS.aloadN X76.here hx rfl (hb hby d1_11) rfl rfl ?_
    show Steps p.tables e below (T76.setTop (mkF m 12 #[.val (.int (12 : Int32)), .val (.ref b1), .val (.int (11 : Int32))] [(.ref b1)])) _
    refine XS.iloadN X76.here hx rfl (hb hby d1_12) rfl ?_
    show Steps p.tables e below (T76.setTop (mkF m 13 #[.val (.int (12 : Int32)), .val (.ref b1), .val (.int (11 : Int32))] [(.int (11 : Int32)), (.ref b1)])) _
    refine XS.iloadN X76.here hx rfl (hb hby d1_13) rfl ?_
    show Steps p.tables e below (T76.setTop (mkF m 14 #[.val (.int (12 : Int32)), .val (.ref b1), .val (.int (11 : Int32))] [(.int (11 : Int32)), (.int (11 : Int32)), (.ref b1)])) _
    refine st83 _ ?_
    show Steps p.tables e below (T83.setTop (mkF m 15 #[.val (.int (12 : Int32)), .val (.ref b1), .val (.int (11 : Int32))] [])) _
    refine XS.iinc X83.here hx rfl (hb hby d1_15) rfl (l' := #[.val (.int (12 : Int32)), .val (.ref b1), .val (.int (12 : Int32))]) rfl ?_
    show Steps p.tables e below (T83.setTop (mkF m 18 #[.val (.int (12 : Int32)), .val (.ref b1), .val (.int (12 : Int32))] [])) _
    refine XS.goto X83.here hx rfl (pc0 := 18) (pc' := 6) rfl (hb hby d1_18) (by decide) (by decide) ?_
    show Steps p.tables e below (T83.setTop (mkF m 6 #[.val (.int (12 : Int32)), .val (.ref b1), .val (.int (12 : Int32))] [])) _
    refine XS.iloadN X83.here hx rfl (hb hby d1_6) rfl ?_
    show Steps p.tables e below (T83.setTop (mkF m 7 #[.val (.int (12 : Int32)), .val (.ref b1), .val (.int (12 : Int32))] [(.int (12 : Int32))])) _
    refine XS.iloadN X83.here hx rfl (hb hby d1_7) rfl ?_
    show Steps p.tables e below (T83.setTop (mkF m 8 #[.val (.int (12 : Int32)), .val (.ref b1), .val (.int (12 : Int32))] [(.int (12 : Int32)), (.int (12 : Int32))])) _
    refine XS.icmpYes X83.here hx rfl (pc0 := 8) (pc' := 21) rfl (hb hby d1_8) rfl (flt (by decide : ¬ ((12 : Int32) < (12 : Int32)))).2.1 (by decide) (by decide) ?_
    show Steps p.tables e below (T83.setTop (mkF m 21 #[.val (.int (12 : Int32)), .val (.ref b1), .val (.int (12 : Int32))] [])) _
    refine XS.aloadN X83.here hx rfl (hb hby d1_21) rfl rfl ?_
    show Steps p.tables e below (T83.setTop (mkF m 22 #[.val (.int (12 : Int32)), .val (.ref b1), .val (.int (12 : Int32))] [(.ref b1)])) _
    exact retOut X83 hx (t := (.array .int)) (i := .areturn) Bd.returns rfl (Or.inr (Or.inr (Or.inr (Or.inr ⟨rfl, rfl, rfl⟩)))) (hb hby d1_22) hr
  · show Q_pos12 Z  h0 n0 _ T83.heap _
    rw [e83]
    exact ⟨b1, k1, rfl, N87, g_b1, sz_b1, K86, f85, f89⟩
def Q_pos13 (Z : State)  (h0 : Heap) (n0 : Nat) (v : Option Value) (h : Heap) (L : List Loc) : Prop := ∃ (o1 : Addr), ∃ (ko1 : ClassId), v = some (.ref o1) ∧ Fr n0 L ∧ n0 ≤ o1 ∧ h0.size ≤ o1 ∧ Keep h0 h [] ∧ Exa Z h o1 "[I" ∧ Arv Z h o1 ko1 .int (13 : Int32) own_ids (.int (0 : Int32))
set_option maxRecDepth 65536 in
set_option maxHeartbeats 40000000 in
theorem rm_pos13 (l : Launch) (Z : State) (a0 : Array Value) (hw : ∀ d ∈ tables_1, d.before a0 Z = true) (ws : List Jvm.Cond)  (h0 : Heap) (n0 : Nat) (Z0 : n0 ≤ h0.size) :
    MetFree l (⟨"com/example/trawl/trawl/gen/FisherYates", "positions", "(I)[I"⟩ : MethodName) (head1 (Jvm.Cond.code (⟨"com/example/trawl/trawl/gen/FisherYates", "positions", "(I)[I"⟩ : MethodName) prog_1_method_2_code 3 (some (.array .int)) :: ws) ({ frames := 0, cells := 1, slots := 16, locals := 0 } : Room)) (fun a U => a = #[(.int (13 : Int32))] ∧ Z.Warmed39 U.vm ∧ U.heap = h0) (fun _ _ _ _ _ => True) (fun _ U o U' => ∃ v L, o = .returned v ∧ Q_pos13 Z  h0 n0 v U'.heap L ∧ FrameEnd U o U' L ({ frames := 0, cells := 1, slots := 16, locals := 0 } : Room).cells ({ frames := 0, cells := 1, slots := 16, locals := 0 } : Room).slots) := by
  refine MetFree.of_bodySF (plainFor_of_name pn_com_example_trawl_trawl_gen_FisherYates) hisR ?_
  intro p e s m args below meth c s₁ Bd hml0 hP hK
  obtain ⟨rfl, hZ, hh⟩ := hP
  have hx := Bd.exec
  have hby := Bd.bytes
  have hml : c.maxLocals = 3 := hml0
  have hown : s.vm.findClass "com/example/trawl/trawl/gen/FisherYates" = some m.cls := findClass_of_methodNamed Bd.named
  have hnm := (name_of_methodNamed Bd.named Bd.method).1
  have X0 : Stand p l e ({ frames := 0, cells := 1, slots := 16, locals := 0 } : Room) s m #[(.int (13 : Int32))] below meth c s₁ [] 0 0 := Stand.of_body Bd
  have e0 : s₁.heap = h0 := by rw [← hh, Bd.state]; rfl
  have N0 := Fr.nil n0
  have pre0 : ∀ t, Steps p.tables e below (s₁.setTop (mkF m 0 #[.val (.int (13 : Int32)), .unset, .unset] [])) t → Steps p.tables e below (s₁.setTop (entryFrame m #[(.int (13 : Int32))] 3)) t := fun t k => castTop (ef_1_I m (13 : Int32)) k
  obtain ⟨T1, h1, k1, X1, e1, E1, A1, Ex1, st1⟩ := newPE X0 hx hZ (hw _ (List.mem_of_getElem? (i := 4) rfl)) e0 (g := (mkF m 1 #[.val (.int (13 : Int32)), .unset, .unset] [(.int (13 : Int32))])) rfl (hb hby d1_1) rfl (by decide) (cap := 13) (by decide) (by decide) (by decide) (by decide) (ad := "[I") (by decide)
  obtain ⟨b1, g1⟩ : ∃ z, z = h0.size := ⟨_, rfl⟩
  rw [← g1] at A1 Ex1 st1
  have g_b1 : n0 ≤ b1 := Nat.le_trans Z0 (Nat.le_of_eq g1.symm)
  have sz_b1 : h0.size ≤ b1 := Nat.le_trans (Keep.refl h0 []).1 (Nat.le_of_eq g1.symm)
  have K2 : Keep h0 h1 [] := (Keep.refl h0 []).ext E1
  have Zs3 : n0 ≤ h1.size := Nat.le_trans Z0 E1.1
  have f4 : Arv Z h1 b1 k1 .int (13 : Int32) [(.int (0 : Int32)), (.int (0 : Int32)), (.int (0 : Int32)), (.int (0 : Int32)), (.int (0 : Int32)), (.int (0 : Int32)), (.int (0 : Int32)), (.int (0 : Int32)), (.int (0 : Int32)), (.int (0 : Int32)), (.int (0 : Int32)), (.int (0 : Int32)), (.int (0 : Int32))] (.int (0 : Int32)) := (Arv.new A1 (by decide)).pad (pad_rep [] (.int (0 : Int32)) 13)
  obtain ⟨clo5, Aro5, qo5, So5, No5, Ho5, Go5⟩ := id f4
  have hino5 : ¬ ((0 : Int32) < 0 ∨ clo5.slots.size ≤ ((0 : Int32)).toNatClampNeg) := inb_of So5 ⟨by decide, by decide⟩
  obtain ⟨T6, h6, X6, e6, W6, st6⟩ := stI X1 hx hZ e1 Aro5 (j := (0 : Int32)) hino5 (g := (mkF m 14 #[.val (.int (13 : Int32)), .val (.ref b1), .val (.int (0 : Int32))] [(.int (0 : Int32)), (.int (0 : Int32)), (.ref b1)])) rfl rfl (hb hby d1_14)
  have f7 : Arv Z h6 b1 k1 .int (13 : Int32) [(.int (0 : Int32)), (.int (0 : Int32)), (.int (0 : Int32)), (.int (0 : Int32)), (.int (0 : Int32)), (.int (0 : Int32)), (.int (0 : Int32)), (.int (0 : Int32)), (.int (0 : Int32)), (.int (0 : Int32)), (.int (0 : Int32)), (.int (0 : Int32)), (.int (0 : Int32))] (.int (0 : Int32)) := Arv.set Aro5 qo5 So5 No5 Ho5 Go5 rfl W6 0 rfl (by decide)
  have f8 : Exa Z h6 b1 "[I" := Ex1.wr W6
  have K9 : Keep h0 h6 [] := K2.wr W6 (Or.inr sz_b1)
  have N10 := Fr.snoc X6 N0 g_b1
  have Zs11 : n0 ≤ h6.size := Nat.le_trans Zs3 (Keep.of_wr W6).1
  obtain ⟨clo12, Aro12, qo12, So12, No12, Ho12, Go12⟩ := id f7
  have hino12 : ¬ ((1 : Int32) < 0 ∨ clo12.slots.size ≤ ((1 : Int32)).toNatClampNeg) := inb_of So12 ⟨by decide, by decide⟩
  obtain ⟨T13, h13, X13, e13, W13, st13⟩ := stI X6 hx hZ e6 Aro12 (j := (1 : Int32)) hino12 (g := (mkF m 14 #[.val (.int (13 : Int32)), .val (.ref b1), .val (.int (1 : Int32))] [(.int (1 : Int32)), (.int (1 : Int32)), (.ref b1)])) rfl rfl (hb hby d1_14)
  have f14 : Arv Z h13 b1 k1 .int (13 : Int32) [(.int (0 : Int32)), (.int (1 : Int32)), (.int (0 : Int32)), (.int (0 : Int32)), (.int (0 : Int32)), (.int (0 : Int32)), (.int (0 : Int32)), (.int (0 : Int32)), (.int (0 : Int32)), (.int (0 : Int32)), (.int (0 : Int32)), (.int (0 : Int32)), (.int (0 : Int32))] (.int (0 : Int32)) := Arv.set Aro12 qo12 So12 No12 Ho12 Go12 rfl W13 1 rfl (by decide)
  have f15 : Exa Z h13 b1 "[I" := f8.wr W13
  have K16 : Keep h0 h13 [] := K9.wr W13 (Or.inr sz_b1)
  have N17 := Fr.snoc X13 N10 g_b1
  have Zs18 : n0 ≤ h13.size := Nat.le_trans Zs11 (Keep.of_wr W13).1
  obtain ⟨clo19, Aro19, qo19, So19, No19, Ho19, Go19⟩ := id f14
  have hino19 : ¬ ((2 : Int32) < 0 ∨ clo19.slots.size ≤ ((2 : Int32)).toNatClampNeg) := inb_of So19 ⟨by decide, by decide⟩
  obtain ⟨T20, h20, X20, e20, W20, st20⟩ := stI X13 hx hZ e13 Aro19 (j := (2 : Int32)) hino19 (g := (mkF m 14 #[.val (.int (13 : Int32)), .val (.ref b1), .val (.int (2 : Int32))] [(.int (2 : Int32)), (.int (2 : Int32)), (.ref b1)])) rfl rfl (hb hby d1_14)
  have f21 : Arv Z h20 b1 k1 .int (13 : Int32) [(.int (0 : Int32)), (.int (1 : Int32)), (.int (2 : Int32)), (.int (0 : Int32)), (.int (0 : Int32)), (.int (0 : Int32)), (.int (0 : Int32)), (.int (0 : Int32)), (.int (0 : Int32)), (.int (0 : Int32)), (.int (0 : Int32)), (.int (0 : Int32)), (.int (0 : Int32))] (.int (0 : Int32)) := Arv.set Aro19 qo19 So19 No19 Ho19 Go19 rfl W20 2 rfl (by decide)
  have f22 : Exa Z h20 b1 "[I" := f15.wr W20
  have K23 : Keep h0 h20 [] := K16.wr W20 (Or.inr sz_b1)
  have N24 := Fr.snoc X20 N17 g_b1
  have Zs25 : n0 ≤ h20.size := Nat.le_trans Zs18 (Keep.of_wr W20).1
  obtain ⟨clo26, Aro26, qo26, So26, No26, Ho26, Go26⟩ := id f21
  have hino26 : ¬ ((3 : Int32) < 0 ∨ clo26.slots.size ≤ ((3 : Int32)).toNatClampNeg) := inb_of So26 ⟨by decide, by decide⟩
  obtain ⟨T27, h27, X27, e27, W27, st27⟩ := stI X20 hx hZ e20 Aro26 (j := (3 : Int32)) hino26 (g := (mkF m 14 #[.val (.int (13 : Int32)), .val (.ref b1), .val (.int (3 : Int32))] [(.int (3 : Int32)), (.int (3 : Int32)), (.ref b1)])) rfl rfl (hb hby d1_14)
  have f28 : Arv Z h27 b1 k1 .int (13 : Int32) [(.int (0 : Int32)), (.int (1 : Int32)), (.int (2 : Int32)), (.int (3 : Int32)), (.int (0 : Int32)), (.int (0 : Int32)), (.int (0 : Int32)), (.int (0 : Int32)), (.int (0 : Int32)), (.int (0 : Int32)), (.int (0 : Int32)), (.int (0 : Int32)), (.int (0 : Int32))] (.int (0 : Int32)) := Arv.set Aro26 qo26 So26 No26 Ho26 Go26 rfl W27 3 rfl (by decide)
  have f29 : Exa Z h27 b1 "[I" := f22.wr W27
  have K30 : Keep h0 h27 [] := K23.wr W27 (Or.inr sz_b1)
  have N31 := Fr.snoc X27 N24 g_b1
  have Zs32 : n0 ≤ h27.size := Nat.le_trans Zs25 (Keep.of_wr W27).1
  obtain ⟨clo33, Aro33, qo33, So33, No33, Ho33, Go33⟩ := id f28
  have hino33 : ¬ ((4 : Int32) < 0 ∨ clo33.slots.size ≤ ((4 : Int32)).toNatClampNeg) := inb_of So33 ⟨by decide, by decide⟩
  obtain ⟨T34, h34, X34, e34, W34, st34⟩ := stI X27 hx hZ e27 Aro33 (j := (4 : Int32)) hino33 (g := (mkF m 14 #[.val (.int (13 : Int32)), .val (.ref b1), .val (.int (4 : Int32))] [(.int (4 : Int32)), (.int (4 : Int32)), (.ref b1)])) rfl rfl (hb hby d1_14)
  have f35 : Arv Z h34 b1 k1 .int (13 : Int32) [(.int (0 : Int32)), (.int (1 : Int32)), (.int (2 : Int32)), (.int (3 : Int32)), (.int (4 : Int32)), (.int (0 : Int32)), (.int (0 : Int32)), (.int (0 : Int32)), (.int (0 : Int32)), (.int (0 : Int32)), (.int (0 : Int32)), (.int (0 : Int32)), (.int (0 : Int32))] (.int (0 : Int32)) := Arv.set Aro33 qo33 So33 No33 Ho33 Go33 rfl W34 4 rfl (by decide)
  have f36 : Exa Z h34 b1 "[I" := f29.wr W34
  have K37 : Keep h0 h34 [] := K30.wr W34 (Or.inr sz_b1)
  have N38 := Fr.snoc X34 N31 g_b1
  have Zs39 : n0 ≤ h34.size := Nat.le_trans Zs32 (Keep.of_wr W34).1
  obtain ⟨clo40, Aro40, qo40, So40, No40, Ho40, Go40⟩ := id f35
  have hino40 : ¬ ((5 : Int32) < 0 ∨ clo40.slots.size ≤ ((5 : Int32)).toNatClampNeg) := inb_of So40 ⟨by decide, by decide⟩
  obtain ⟨T41, h41, X41, e41, W41, st41⟩ := stI X34 hx hZ e34 Aro40 (j := (5 : Int32)) hino40 (g := (mkF m 14 #[.val (.int (13 : Int32)), .val (.ref b1), .val (.int (5 : Int32))] [(.int (5 : Int32)), (.int (5 : Int32)), (.ref b1)])) rfl rfl (hb hby d1_14)
  have f42 : Arv Z h41 b1 k1 .int (13 : Int32) [(.int (0 : Int32)), (.int (1 : Int32)), (.int (2 : Int32)), (.int (3 : Int32)), (.int (4 : Int32)), (.int (5 : Int32)), (.int (0 : Int32)), (.int (0 : Int32)), (.int (0 : Int32)), (.int (0 : Int32)), (.int (0 : Int32)), (.int (0 : Int32)), (.int (0 : Int32))] (.int (0 : Int32)) := Arv.set Aro40 qo40 So40 No40 Ho40 Go40 rfl W41 5 rfl (by decide)
  have f43 : Exa Z h41 b1 "[I" := f36.wr W41
  have K44 : Keep h0 h41 [] := K37.wr W41 (Or.inr sz_b1)
  have N45 := Fr.snoc X41 N38 g_b1
  have Zs46 : n0 ≤ h41.size := Nat.le_trans Zs39 (Keep.of_wr W41).1
  obtain ⟨clo47, Aro47, qo47, So47, No47, Ho47, Go47⟩ := id f42
  have hino47 : ¬ ((6 : Int32) < 0 ∨ clo47.slots.size ≤ ((6 : Int32)).toNatClampNeg) := inb_of So47 ⟨by decide, by decide⟩
  obtain ⟨T48, h48, X48, e48, W48, st48⟩ := stI X41 hx hZ e41 Aro47 (j := (6 : Int32)) hino47 (g := (mkF m 14 #[.val (.int (13 : Int32)), .val (.ref b1), .val (.int (6 : Int32))] [(.int (6 : Int32)), (.int (6 : Int32)), (.ref b1)])) rfl rfl (hb hby d1_14)
  have f49 : Arv Z h48 b1 k1 .int (13 : Int32) [(.int (0 : Int32)), (.int (1 : Int32)), (.int (2 : Int32)), (.int (3 : Int32)), (.int (4 : Int32)), (.int (5 : Int32)), (.int (6 : Int32)), (.int (0 : Int32)), (.int (0 : Int32)), (.int (0 : Int32)), (.int (0 : Int32)), (.int (0 : Int32)), (.int (0 : Int32))] (.int (0 : Int32)) := Arv.set Aro47 qo47 So47 No47 Ho47 Go47 rfl W48 6 rfl (by decide)
  have f50 : Exa Z h48 b1 "[I" := f43.wr W48
  have K51 : Keep h0 h48 [] := K44.wr W48 (Or.inr sz_b1)
  have N52 := Fr.snoc X48 N45 g_b1
  have Zs53 : n0 ≤ h48.size := Nat.le_trans Zs46 (Keep.of_wr W48).1
  obtain ⟨clo54, Aro54, qo54, So54, No54, Ho54, Go54⟩ := id f49
  have hino54 : ¬ ((7 : Int32) < 0 ∨ clo54.slots.size ≤ ((7 : Int32)).toNatClampNeg) := inb_of So54 ⟨by decide, by decide⟩
  obtain ⟨T55, h55, X55, e55, W55, st55⟩ := stI X48 hx hZ e48 Aro54 (j := (7 : Int32)) hino54 (g := (mkF m 14 #[.val (.int (13 : Int32)), .val (.ref b1), .val (.int (7 : Int32))] [(.int (7 : Int32)), (.int (7 : Int32)), (.ref b1)])) rfl rfl (hb hby d1_14)
  have f56 : Arv Z h55 b1 k1 .int (13 : Int32) [(.int (0 : Int32)), (.int (1 : Int32)), (.int (2 : Int32)), (.int (3 : Int32)), (.int (4 : Int32)), (.int (5 : Int32)), (.int (6 : Int32)), (.int (7 : Int32)), (.int (0 : Int32)), (.int (0 : Int32)), (.int (0 : Int32)), (.int (0 : Int32)), (.int (0 : Int32))] (.int (0 : Int32)) := Arv.set Aro54 qo54 So54 No54 Ho54 Go54 rfl W55 7 rfl (by decide)
  have f57 : Exa Z h55 b1 "[I" := f50.wr W55
  have K58 : Keep h0 h55 [] := K51.wr W55 (Or.inr sz_b1)
  have N59 := Fr.snoc X55 N52 g_b1
  have Zs60 : n0 ≤ h55.size := Nat.le_trans Zs53 (Keep.of_wr W55).1
  obtain ⟨clo61, Aro61, qo61, So61, No61, Ho61, Go61⟩ := id f56
  have hino61 : ¬ ((8 : Int32) < 0 ∨ clo61.slots.size ≤ ((8 : Int32)).toNatClampNeg) := inb_of So61 ⟨by decide, by decide⟩
  obtain ⟨T62, h62, X62, e62, W62, st62⟩ := stI X55 hx hZ e55 Aro61 (j := (8 : Int32)) hino61 (g := (mkF m 14 #[.val (.int (13 : Int32)), .val (.ref b1), .val (.int (8 : Int32))] [(.int (8 : Int32)), (.int (8 : Int32)), (.ref b1)])) rfl rfl (hb hby d1_14)
  have f63 : Arv Z h62 b1 k1 .int (13 : Int32) [(.int (0 : Int32)), (.int (1 : Int32)), (.int (2 : Int32)), (.int (3 : Int32)), (.int (4 : Int32)), (.int (5 : Int32)), (.int (6 : Int32)), (.int (7 : Int32)), (.int (8 : Int32)), (.int (0 : Int32)), (.int (0 : Int32)), (.int (0 : Int32)), (.int (0 : Int32))] (.int (0 : Int32)) := Arv.set Aro61 qo61 So61 No61 Ho61 Go61 rfl W62 8 rfl (by decide)
  have f64 : Exa Z h62 b1 "[I" := f57.wr W62
  have K65 : Keep h0 h62 [] := K58.wr W62 (Or.inr sz_b1)
  have N66 := Fr.snoc X62 N59 g_b1
  have Zs67 : n0 ≤ h62.size := Nat.le_trans Zs60 (Keep.of_wr W62).1
  obtain ⟨clo68, Aro68, qo68, So68, No68, Ho68, Go68⟩ := id f63
  have hino68 : ¬ ((9 : Int32) < 0 ∨ clo68.slots.size ≤ ((9 : Int32)).toNatClampNeg) := inb_of So68 ⟨by decide, by decide⟩
  obtain ⟨T69, h69, X69, e69, W69, st69⟩ := stI X62 hx hZ e62 Aro68 (j := (9 : Int32)) hino68 (g := (mkF m 14 #[.val (.int (13 : Int32)), .val (.ref b1), .val (.int (9 : Int32))] [(.int (9 : Int32)), (.int (9 : Int32)), (.ref b1)])) rfl rfl (hb hby d1_14)
  have f70 : Arv Z h69 b1 k1 .int (13 : Int32) [(.int (0 : Int32)), (.int (1 : Int32)), (.int (2 : Int32)), (.int (3 : Int32)), (.int (4 : Int32)), (.int (5 : Int32)), (.int (6 : Int32)), (.int (7 : Int32)), (.int (8 : Int32)), (.int (9 : Int32)), (.int (0 : Int32)), (.int (0 : Int32)), (.int (0 : Int32))] (.int (0 : Int32)) := Arv.set Aro68 qo68 So68 No68 Ho68 Go68 rfl W69 9 rfl (by decide)
  have f71 : Exa Z h69 b1 "[I" := f64.wr W69
  have K72 : Keep h0 h69 [] := K65.wr W69 (Or.inr sz_b1)
  have N73 := Fr.snoc X69 N66 g_b1
  have Zs74 : n0 ≤ h69.size := Nat.le_trans Zs67 (Keep.of_wr W69).1
  obtain ⟨clo75, Aro75, qo75, So75, No75, Ho75, Go75⟩ := id f70
  have hino75 : ¬ ((10 : Int32) < 0 ∨ clo75.slots.size ≤ ((10 : Int32)).toNatClampNeg) := inb_of So75 ⟨by decide, by decide⟩
  obtain ⟨T76, h76, X76, e76, W76, st76⟩ := stI X69 hx hZ e69 Aro75 (j := (10 : Int32)) hino75 (g := (mkF m 14 #[.val (.int (13 : Int32)), .val (.ref b1), .val (.int (10 : Int32))] [(.int (10 : Int32)), (.int (10 : Int32)), (.ref b1)])) rfl rfl (hb hby d1_14)
  have f77 : Arv Z h76 b1 k1 .int (13 : Int32) [(.int (0 : Int32)), (.int (1 : Int32)), (.int (2 : Int32)), (.int (3 : Int32)), (.int (4 : Int32)), (.int (5 : Int32)), (.int (6 : Int32)), (.int (7 : Int32)), (.int (8 : Int32)), (.int (9 : Int32)), (.int (10 : Int32)), (.int (0 : Int32)), (.int (0 : Int32))] (.int (0 : Int32)) := Arv.set Aro75 qo75 So75 No75 Ho75 Go75 rfl W76 10 rfl (by decide)
  have f78 : Exa Z h76 b1 "[I" := f71.wr W76
  have K79 : Keep h0 h76 [] := K72.wr W76 (Or.inr sz_b1)
  have N80 := Fr.snoc X76 N73 g_b1
  have Zs81 : n0 ≤ h76.size := Nat.le_trans Zs74 (Keep.of_wr W76).1
  obtain ⟨clo82, Aro82, qo82, So82, No82, Ho82, Go82⟩ := id f77
  have hino82 : ¬ ((11 : Int32) < 0 ∨ clo82.slots.size ≤ ((11 : Int32)).toNatClampNeg) := inb_of So82 ⟨by decide, by decide⟩
  obtain ⟨T83, h83, X83, e83, W83, st83⟩ := stI X76 hx hZ e76 Aro82 (j := (11 : Int32)) hino82 (g := (mkF m 14 #[.val (.int (13 : Int32)), .val (.ref b1), .val (.int (11 : Int32))] [(.int (11 : Int32)), (.int (11 : Int32)), (.ref b1)])) rfl rfl (hb hby d1_14)
  have f84 : Arv Z h83 b1 k1 .int (13 : Int32) [(.int (0 : Int32)), (.int (1 : Int32)), (.int (2 : Int32)), (.int (3 : Int32)), (.int (4 : Int32)), (.int (5 : Int32)), (.int (6 : Int32)), (.int (7 : Int32)), (.int (8 : Int32)), (.int (9 : Int32)), (.int (10 : Int32)), (.int (11 : Int32)), (.int (0 : Int32))] (.int (0 : Int32)) := Arv.set Aro82 qo82 So82 No82 Ho82 Go82 rfl W83 11 rfl (by decide)
  have f85 : Exa Z h83 b1 "[I" := f78.wr W83
  have K86 : Keep h0 h83 [] := K79.wr W83 (Or.inr sz_b1)
  have N87 := Fr.snoc X83 N80 g_b1
  have Zs88 : n0 ≤ h83.size := Nat.le_trans Zs81 (Keep.of_wr W83).1
  obtain ⟨clo89, Aro89, qo89, So89, No89, Ho89, Go89⟩ := id f84
  have hino89 : ¬ ((12 : Int32) < 0 ∨ clo89.slots.size ≤ ((12 : Int32)).toNatClampNeg) := inb_of So89 ⟨by decide, by decide⟩
  obtain ⟨T90, h90, X90, e90, W90, st90⟩ := stI X83 hx hZ e83 Aro89 (j := (12 : Int32)) hino89 (g := (mkF m 14 #[.val (.int (13 : Int32)), .val (.ref b1), .val (.int (12 : Int32))] [(.int (12 : Int32)), (.int (12 : Int32)), (.ref b1)])) rfl rfl (hb hby d1_14)
  have f91 : Arv Z h90 b1 k1 .int (13 : Int32) [(.int (0 : Int32)), (.int (1 : Int32)), (.int (2 : Int32)), (.int (3 : Int32)), (.int (4 : Int32)), (.int (5 : Int32)), (.int (6 : Int32)), (.int (7 : Int32)), (.int (8 : Int32)), (.int (9 : Int32)), (.int (10 : Int32)), (.int (11 : Int32)), (.int (12 : Int32))] (.int (0 : Int32)) := Arv.set Aro89 qo89 So89 No89 Ho89 Go89 rfl W90 12 rfl (by decide)
  have f92 : Exa Z h90 b1 "[I" := f85.wr W90
  have K93 : Keep h0 h90 [] := K86.wr W90 (Or.inr sz_b1)
  have N94 := Fr.snoc X90 N87 g_b1
  have Zs95 : n0 ≤ h90.size := Nat.le_trans Zs88 (Keep.of_wr W90).1
  have f96 : Arv Z h90 b1 k1 .int (13 : Int32) own_ids (.int (0 : Int32)) := own_conv f91 (by decide)
  obtain ⟨fs, hr, hrun, hended, hW, hsame⟩ := X90.leave (v := some (.ref b1)) (fun h => by rw [Bd.returns] at h; cases h) Bd.notSynchronized
  refine ⟨_, _, pre0 _ ?_, hrun, hended, _, _, rfl, ?_, ⟨_, rfl⟩, hW, hsame.mono (by decide) (by decide)⟩
  · show Steps p.tables e below (s₁.setTop (mkF m 0 #[.val (.int (13 : Int32)), .unset, .unset] [])) _
    refine XS.iloadN X0.here hx rfl (hb hby d1_0) rfl ?_
    show Steps p.tables e below (s₁.setTop (mkF m 1 #[.val (.int (13 : Int32)), .unset, .unset] [(.int (13 : Int32))])) _
    refine st1 _ ?_
    show Steps p.tables e below (T1.setTop (mkF m 3 #[.val (.int (13 : Int32)), .unset, .unset] [(.ref b1)])) _
    refine XS.astoreN X1.here hx rfl (hb hby d1_3) rfl rfl (l' := #[.val (.int (13 : Int32)), .val (.ref b1), .unset]) rfl ?_
    show Steps p.tables e below (T1.setTop (mkF m 4 #[.val (.int (13 : Int32)), .val (.ref b1), .unset] [])) _
    refine XS.iconst X1.here hx rfl (hb hby d1_4) ?_
    show Steps p.tables e below (T1.setTop (mkF m 5 #[.val (.int (13 : Int32)), .val (.ref b1), .unset] [(.int (0 : Int32))])) _
    refine XS.istoreN X1.here hx rfl (hb hby d1_5) rfl (l' := #[.val (.int (13 : Int32)), .val (.ref b1), .val (.int (0 : Int32))]) rfl ?_
    show Steps p.tables e below (T1.setTop (mkF m 6 #[.val (.int (13 : Int32)), .val (.ref b1), .val (.int (0 : Int32))] [])) _
    refine XS.iloadN X1.here hx rfl (hb hby d1_6) rfl ?_
    show Steps p.tables e below (T1.setTop (mkF m 7 #[.val (.int (13 : Int32)), .val (.ref b1), .val (.int (0 : Int32))] [(.int (0 : Int32))])) _
    refine XS.iloadN X1.here hx rfl (hb hby d1_7) rfl ?_
    show Steps p.tables e below (T1.setTop (mkF m 8 #[.val (.int (13 : Int32)), .val (.ref b1), .val (.int (0 : Int32))] [(.int (13 : Int32)), (.int (0 : Int32))])) _
    refine XS.icmpNo X1.here hx rfl (hb hby d1_8) rfl (tlt (by decide : (0 : Int32) < (13 : Int32))).2.1 ?_
    show Steps p.tables e below (T1.setTop (mkF m 11 #[.val (.int (13 : Int32)), .val (.ref b1), .val (.int (0 : Int32))] [])) _
    refine XS.aloadN X1.here hx rfl (hb hby d1_11) rfl rfl ?_
    show Steps p.tables e below (T1.setTop (mkF m 12 #[.val (.int (13 : Int32)), .val (.ref b1), .val (.int (0 : Int32))] [(.ref b1)])) _
    refine XS.iloadN X1.here hx rfl (hb hby d1_12) rfl ?_
    show Steps p.tables e below (T1.setTop (mkF m 13 #[.val (.int (13 : Int32)), .val (.ref b1), .val (.int (0 : Int32))] [(.int (0 : Int32)), (.ref b1)])) _
    refine XS.iloadN X1.here hx rfl (hb hby d1_13) rfl ?_
    show Steps p.tables e below (T1.setTop (mkF m 14 #[.val (.int (13 : Int32)), .val (.ref b1), .val (.int (0 : Int32))] [(.int (0 : Int32)), (.int (0 : Int32)), (.ref b1)])) _
    refine st6 _ ?_
    show Steps p.tables e below (T6.setTop (mkF m 15 #[.val (.int (13 : Int32)), .val (.ref b1), .val (.int (0 : Int32))] [])) _
    refine XS.iinc X6.here hx rfl (hb hby d1_15) rfl (l' := #[.val (.int (13 : Int32)), .val (.ref b1), .val (.int (1 : Int32))]) rfl ?_
    show Steps p.tables e below (T6.setTop (mkF m 18 #[.val (.int (13 : Int32)), .val (.ref b1), .val (.int (1 : Int32))] [])) _
    refine XS.goto X6.here hx rfl (pc0 := 18) (pc' := 6) rfl (hb hby d1_18) (by decide) (by decide) ?_
    show Steps p.tables e below (T6.setTop (mkF m 6 #[.val (.int (13 : Int32)), .val (.ref b1), .val (.int (1 : Int32))] [])) _
    refine XS.iloadN X6.here hx rfl (hb hby d1_6) rfl ?_
    show Steps p.tables e below (T6.setTop (mkF m 7 #[.val (.int (13 : Int32)), .val (.ref b1), .val (.int (1 : Int32))] [(.int (1 : Int32))])) _
    refine XS.iloadN X6.here hx rfl (hb hby d1_7) rfl ?_
    show Steps p.tables e below (T6.setTop (mkF m 8 #[.val (.int (13 : Int32)), .val (.ref b1), .val (.int (1 : Int32))] [(.int (13 : Int32)), (.int (1 : Int32))])) _
    refine XS.icmpNo X6.here hx rfl (hb hby d1_8) rfl (tlt (by decide : (1 : Int32) < (13 : Int32))).2.1 ?_
    show Steps p.tables e below (T6.setTop (mkF m 11 #[.val (.int (13 : Int32)), .val (.ref b1), .val (.int (1 : Int32))] [])) _
    refine XS.aloadN X6.here hx rfl (hb hby d1_11) rfl rfl ?_
    show Steps p.tables e below (T6.setTop (mkF m 12 #[.val (.int (13 : Int32)), .val (.ref b1), .val (.int (1 : Int32))] [(.ref b1)])) _
    refine XS.iloadN X6.here hx rfl (hb hby d1_12) rfl ?_
    show Steps p.tables e below (T6.setTop (mkF m 13 #[.val (.int (13 : Int32)), .val (.ref b1), .val (.int (1 : Int32))] [(.int (1 : Int32)), (.ref b1)])) _
    refine XS.iloadN X6.here hx rfl (hb hby d1_13) rfl ?_
    show Steps p.tables e below (T6.setTop (mkF m 14 #[.val (.int (13 : Int32)), .val (.ref b1), .val (.int (1 : Int32))] [(.int (1 : Int32)), (.int (1 : Int32)), (.ref b1)])) _
    refine st13 _ ?_
    show Steps p.tables e below (T13.setTop (mkF m 15 #[.val (.int (13 : Int32)), .val (.ref b1), .val (.int (1 : Int32))] [])) _
    refine XS.iinc X13.here hx rfl (hb hby d1_15) rfl (l' := #[.val (.int (13 : Int32)), .val (.ref b1), .val (.int (2 : Int32))]) rfl ?_
    show Steps p.tables e below (T13.setTop (mkF m 18 #[.val (.int (13 : Int32)), .val (.ref b1), .val (.int (2 : Int32))] [])) _
    refine XS.goto X13.here hx rfl (pc0 := 18) (pc' := 6) rfl (hb hby d1_18) (by decide) (by decide) ?_
    show Steps p.tables e below (T13.setTop (mkF m 6 #[.val (.int (13 : Int32)), .val (.ref b1), .val (.int (2 : Int32))] [])) _
    refine XS.iloadN X13.here hx rfl (hb hby d1_6) rfl ?_
    show Steps p.tables e below (T13.setTop (mkF m 7 #[.val (.int (13 : Int32)), .val (.ref b1), .val (.int (2 : Int32))] [(.int (2 : Int32))])) _
    refine XS.iloadN X13.here hx rfl (hb hby d1_7) rfl ?_
    show Steps p.tables e below (T13.setTop (mkF m 8 #[.val (.int (13 : Int32)), .val (.ref b1), .val (.int (2 : Int32))] [(.int (13 : Int32)), (.int (2 : Int32))])) _
    refine XS.icmpNo X13.here hx rfl (hb hby d1_8) rfl (tlt (by decide : (2 : Int32) < (13 : Int32))).2.1 ?_
    show Steps p.tables e below (T13.setTop (mkF m 11 #[.val (.int (13 : Int32)), .val (.ref b1), .val (.int (2 : Int32))] [])) _
    refine XS.aloadN X13.here hx rfl (hb hby d1_11) rfl rfl ?_
    show Steps p.tables e below (T13.setTop (mkF m 12 #[.val (.int (13 : Int32)), .val (.ref b1), .val (.int (2 : Int32))] [(.ref b1)])) _
    refine XS.iloadN X13.here hx rfl (hb hby d1_12) rfl ?_
    show Steps p.tables e below (T13.setTop (mkF m 13 #[.val (.int (13 : Int32)), .val (.ref b1), .val (.int (2 : Int32))] [(.int (2 : Int32)), (.ref b1)])) _
    refine XS.iloadN X13.here hx rfl (hb hby d1_13) rfl ?_
    show Steps p.tables e below (T13.setTop (mkF m 14 #[.val (.int (13 : Int32)), .val (.ref b1), .val (.int (2 : Int32))] [(.int (2 : Int32)), (.int (2 : Int32)), (.ref b1)])) _
    refine st20 _ ?_
    show Steps p.tables e below (T20.setTop (mkF m 15 #[.val (.int (13 : Int32)), .val (.ref b1), .val (.int (2 : Int32))] [])) _
    refine XS.iinc X20.here hx rfl (hb hby d1_15) rfl (l' := #[.val (.int (13 : Int32)), .val (.ref b1), .val (.int (3 : Int32))]) rfl ?_
    show Steps p.tables e below (T20.setTop (mkF m 18 #[.val (.int (13 : Int32)), .val (.ref b1), .val (.int (3 : Int32))] [])) _
    refine XS.goto X20.here hx rfl (pc0 := 18) (pc' := 6) rfl (hb hby d1_18) (by decide) (by decide) ?_
    show Steps p.tables e below (T20.setTop (mkF m 6 #[.val (.int (13 : Int32)), .val (.ref b1), .val (.int (3 : Int32))] [])) _
    refine XS.iloadN X20.here hx rfl (hb hby d1_6) rfl ?_
    show Steps p.tables e below (T20.setTop (mkF m 7 #[.val (.int (13 : Int32)), .val (.ref b1), .val (.int (3 : Int32))] [(.int (3 : Int32))])) _
    refine XS.iloadN X20.here hx rfl (hb hby d1_7) rfl ?_
    show Steps p.tables e below (T20.setTop (mkF m 8 #[.val (.int (13 : Int32)), .val (.ref b1), .val (.int (3 : Int32))] [(.int (13 : Int32)), (.int (3 : Int32))])) _
    refine XS.icmpNo X20.here hx rfl (hb hby d1_8) rfl (tlt (by decide : (3 : Int32) < (13 : Int32))).2.1 ?_
    show Steps p.tables e below (T20.setTop (mkF m 11 #[.val (.int (13 : Int32)), .val (.ref b1), .val (.int (3 : Int32))] [])) _
    refine XS.aloadN X20.here hx rfl (hb hby d1_11) rfl rfl ?_
    show Steps p.tables e below (T20.setTop (mkF m 12 #[.val (.int (13 : Int32)), .val (.ref b1), .val (.int (3 : Int32))] [(.ref b1)])) _
    refine XS.iloadN X20.here hx rfl (hb hby d1_12) rfl ?_
    show Steps p.tables e below (T20.setTop (mkF m 13 #[.val (.int (13 : Int32)), .val (.ref b1), .val (.int (3 : Int32))] [(.int (3 : Int32)), (.ref b1)])) _
    refine XS.iloadN X20.here hx rfl (hb hby d1_13) rfl ?_
    show Steps p.tables e below (T20.setTop (mkF m 14 #[.val (.int (13 : Int32)), .val (.ref b1), .val (.int (3 : Int32))] [(.int (3 : Int32)), (.int (3 : Int32)), (.ref b1)])) _
    refine st27 _ ?_
    show Steps p.tables e below (T27.setTop (mkF m 15 #[.val (.int (13 : Int32)), .val (.ref b1), .val (.int (3 : Int32))] [])) _
    refine XS.iinc X27.here hx rfl (hb hby d1_15) rfl (l' := #[.val (.int (13 : Int32)), .val (.ref b1), .val (.int (4 : Int32))]) rfl ?_
    show Steps p.tables e below (T27.setTop (mkF m 18 #[.val (.int (13 : Int32)), .val (.ref b1), .val (.int (4 : Int32))] [])) _
    refine XS.goto X27.here hx rfl (pc0 := 18) (pc' := 6) rfl (hb hby d1_18) (by decide) (by decide) ?_
    show Steps p.tables e below (T27.setTop (mkF m 6 #[.val (.int (13 : Int32)), .val (.ref b1), .val (.int (4 : Int32))] [])) _
    refine XS.iloadN X27.here hx rfl (hb hby d1_6) rfl ?_
    show Steps p.tables e below (T27.setTop (mkF m 7 #[.val (.int (13 : Int32)), .val (.ref b1), .val (.int (4 : Int32))] [(.int (4 : Int32))])) _
    refine XS.iloadN X27.here hx rfl (hb hby d1_7) rfl ?_
    show Steps p.tables e below (T27.setTop (mkF m 8 #[.val (.int (13 : Int32)), .val (.ref b1), .val (.int (4 : Int32))] [(.int (13 : Int32)), (.int (4 : Int32))])) _
    refine XS.icmpNo X27.here hx rfl (hb hby d1_8) rfl (tlt (by decide : (4 : Int32) < (13 : Int32))).2.1 ?_
    show Steps p.tables e below (T27.setTop (mkF m 11 #[.val (.int (13 : Int32)), .val (.ref b1), .val (.int (4 : Int32))] [])) _
    refine XS.aloadN X27.here hx rfl (hb hby d1_11) rfl rfl ?_
    show Steps p.tables e below (T27.setTop (mkF m 12 #[.val (.int (13 : Int32)), .val (.ref b1), .val (.int (4 : Int32))] [(.ref b1)])) _
    refine XS.iloadN X27.here hx rfl (hb hby d1_12) rfl ?_
    show Steps p.tables e below (T27.setTop (mkF m 13 #[.val (.int (13 : Int32)), .val (.ref b1), .val (.int (4 : Int32))] [(.int (4 : Int32)), (.ref b1)])) _
    refine XS.iloadN X27.here hx rfl (hb hby d1_13) rfl ?_
    show Steps p.tables e below (T27.setTop (mkF m 14 #[.val (.int (13 : Int32)), .val (.ref b1), .val (.int (4 : Int32))] [(.int (4 : Int32)), (.int (4 : Int32)), (.ref b1)])) _
    refine st34 _ ?_
    show Steps p.tables e below (T34.setTop (mkF m 15 #[.val (.int (13 : Int32)), .val (.ref b1), .val (.int (4 : Int32))] [])) _
    refine XS.iinc X34.here hx rfl (hb hby d1_15) rfl (l' := #[.val (.int (13 : Int32)), .val (.ref b1), .val (.int (5 : Int32))]) rfl ?_
    show Steps p.tables e below (T34.setTop (mkF m 18 #[.val (.int (13 : Int32)), .val (.ref b1), .val (.int (5 : Int32))] [])) _
    refine XS.goto X34.here hx rfl (pc0 := 18) (pc' := 6) rfl (hb hby d1_18) (by decide) (by decide) ?_
    show Steps p.tables e below (T34.setTop (mkF m 6 #[.val (.int (13 : Int32)), .val (.ref b1), .val (.int (5 : Int32))] [])) _
    refine XS.iloadN X34.here hx rfl (hb hby d1_6) rfl ?_
    show Steps p.tables e below (T34.setTop (mkF m 7 #[.val (.int (13 : Int32)), .val (.ref b1), .val (.int (5 : Int32))] [(.int (5 : Int32))])) _
    refine XS.iloadN X34.here hx rfl (hb hby d1_7) rfl ?_
    show Steps p.tables e below (T34.setTop (mkF m 8 #[.val (.int (13 : Int32)), .val (.ref b1), .val (.int (5 : Int32))] [(.int (13 : Int32)), (.int (5 : Int32))])) _
    refine XS.icmpNo X34.here hx rfl (hb hby d1_8) rfl (tlt (by decide : (5 : Int32) < (13 : Int32))).2.1 ?_
    show Steps p.tables e below (T34.setTop (mkF m 11 #[.val (.int (13 : Int32)), .val (.ref b1), .val (.int (5 : Int32))] [])) _
    refine XS.aloadN X34.here hx rfl (hb hby d1_11) rfl rfl ?_
    show Steps p.tables e below (T34.setTop (mkF m 12 #[.val (.int (13 : Int32)), .val (.ref b1), .val (.int (5 : Int32))] [(.ref b1)])) _
    refine XS.iloadN X34.here hx rfl (hb hby d1_12) rfl ?_
    show Steps p.tables e below (T34.setTop (mkF m 13 #[.val (.int (13 : Int32)), .val (.ref b1), .val (.int (5 : Int32))] [(.int (5 : Int32)), (.ref b1)])) _
    refine XS.iloadN X34.here hx rfl (hb hby d1_13) rfl ?_
    show Steps p.tables e below (T34.setTop (mkF m 14 #[.val (.int (13 : Int32)), .val (.ref b1), .val (.int (5 : Int32))] [(.int (5 : Int32)), (.int (5 : Int32)), (.ref b1)])) _
    refine st41 _ ?_
    show Steps p.tables e below (T41.setTop (mkF m 15 #[.val (.int (13 : Int32)), .val (.ref b1), .val (.int (5 : Int32))] [])) _
    refine XS.iinc X41.here hx rfl (hb hby d1_15) rfl (l' := #[.val (.int (13 : Int32)), .val (.ref b1), .val (.int (6 : Int32))]) rfl ?_
    show Steps p.tables e below (T41.setTop (mkF m 18 #[.val (.int (13 : Int32)), .val (.ref b1), .val (.int (6 : Int32))] [])) _
    refine XS.goto X41.here hx rfl (pc0 := 18) (pc' := 6) rfl (hb hby d1_18) (by decide) (by decide) ?_
    show Steps p.tables e below (T41.setTop (mkF m 6 #[.val (.int (13 : Int32)), .val (.ref b1), .val (.int (6 : Int32))] [])) _
    refine XS.iloadN X41.here hx rfl (hb hby d1_6) rfl ?_
    show Steps p.tables e below (T41.setTop (mkF m 7 #[.val (.int (13 : Int32)), .val (.ref b1), .val (.int (6 : Int32))] [(.int (6 : Int32))])) _
    refine XS.iloadN X41.here hx rfl (hb hby d1_7) rfl ?_
    show Steps p.tables e below (T41.setTop (mkF m 8 #[.val (.int (13 : Int32)), .val (.ref b1), .val (.int (6 : Int32))] [(.int (13 : Int32)), (.int (6 : Int32))])) _
    refine XS.icmpNo X41.here hx rfl (hb hby d1_8) rfl (tlt (by decide : (6 : Int32) < (13 : Int32))).2.1 ?_
    show Steps p.tables e below (T41.setTop (mkF m 11 #[.val (.int (13 : Int32)), .val (.ref b1), .val (.int (6 : Int32))] [])) _
    refine XS.aloadN X41.here hx rfl (hb hby d1_11) rfl rfl ?_
    show Steps p.tables e below (T41.setTop (mkF m 12 #[.val (.int (13 : Int32)), .val (.ref b1), .val (.int (6 : Int32))] [(.ref b1)])) _
    refine XS.iloadN X41.here hx rfl (hb hby d1_12) rfl ?_
    show Steps p.tables e below (T41.setTop (mkF m 13 #[.val (.int (13 : Int32)), .val (.ref b1), .val (.int (6 : Int32))] [(.int (6 : Int32)), (.ref b1)])) _
    refine XS.iloadN X41.here hx rfl (hb hby d1_13) rfl ?_
    show Steps p.tables e below (T41.setTop (mkF m 14 #[.val (.int (13 : Int32)), .val (.ref b1), .val (.int (6 : Int32))] [(.int (6 : Int32)), (.int (6 : Int32)), (.ref b1)])) _
    refine st48 _ ?_
    show Steps p.tables e below (T48.setTop (mkF m 15 #[.val (.int (13 : Int32)), .val (.ref b1), .val (.int (6 : Int32))] [])) _
    refine XS.iinc X48.here hx rfl (hb hby d1_15) rfl (l' := #[.val (.int (13 : Int32)), .val (.ref b1), .val (.int (7 : Int32))]) rfl ?_
    show Steps p.tables e below (T48.setTop (mkF m 18 #[.val (.int (13 : Int32)), .val (.ref b1), .val (.int (7 : Int32))] [])) _
    refine XS.goto X48.here hx rfl (pc0 := 18) (pc' := 6) rfl (hb hby d1_18) (by decide) (by decide) ?_
    show Steps p.tables e below (T48.setTop (mkF m 6 #[.val (.int (13 : Int32)), .val (.ref b1), .val (.int (7 : Int32))] [])) _
    refine XS.iloadN X48.here hx rfl (hb hby d1_6) rfl ?_
    show Steps p.tables e below (T48.setTop (mkF m 7 #[.val (.int (13 : Int32)), .val (.ref b1), .val (.int (7 : Int32))] [(.int (7 : Int32))])) _
    refine XS.iloadN X48.here hx rfl (hb hby d1_7) rfl ?_
    show Steps p.tables e below (T48.setTop (mkF m 8 #[.val (.int (13 : Int32)), .val (.ref b1), .val (.int (7 : Int32))] [(.int (13 : Int32)), (.int (7 : Int32))])) _
    refine XS.icmpNo X48.here hx rfl (hb hby d1_8) rfl (tlt (by decide : (7 : Int32) < (13 : Int32))).2.1 ?_
    show Steps p.tables e below (T48.setTop (mkF m 11 #[.val (.int (13 : Int32)), .val (.ref b1), .val (.int (7 : Int32))] [])) _
    refine XS.aloadN X48.here hx rfl (hb hby d1_11) rfl rfl ?_
    show Steps p.tables e below (T48.setTop (mkF m 12 #[.val (.int (13 : Int32)), .val (.ref b1), .val (.int (7 : Int32))] [(.ref b1)])) _
    refine XS.iloadN X48.here hx rfl (hb hby d1_12) rfl ?_
    show Steps p.tables e below (T48.setTop (mkF m 13 #[.val (.int (13 : Int32)), .val (.ref b1), .val (.int (7 : Int32))] [(.int (7 : Int32)), (.ref b1)])) _
    refine XS.iloadN X48.here hx rfl (hb hby d1_13) rfl ?_
    show Steps p.tables e below (T48.setTop (mkF m 14 #[.val (.int (13 : Int32)), .val (.ref b1), .val (.int (7 : Int32))] [(.int (7 : Int32)), (.int (7 : Int32)), (.ref b1)])) _
    refine st55 _ ?_
    show Steps p.tables e below (T55.setTop (mkF m 15 #[.val (.int (13 : Int32)), .val (.ref b1), .val (.int (7 : Int32))] [])) _
    refine XS.iinc X55.here hx rfl (hb hby d1_15) rfl (l' := #[.val (.int (13 : Int32)), .val (.ref b1), .val (.int (8 : Int32))]) rfl ?_
    show Steps p.tables e below (T55.setTop (mkF m 18 #[.val (.int (13 : Int32)), .val (.ref b1), .val (.int (8 : Int32))] [])) _
    refine XS.goto X55.here hx rfl (pc0 := 18) (pc' := 6) rfl (hb hby d1_18) (by decide) (by decide) ?_
    show Steps p.tables e below (T55.setTop (mkF m 6 #[.val (.int (13 : Int32)), .val (.ref b1), .val (.int (8 : Int32))] [])) _
    refine XS.iloadN X55.here hx rfl (hb hby d1_6) rfl ?_
    show Steps p.tables e below (T55.setTop (mkF m 7 #[.val (.int (13 : Int32)), .val (.ref b1), .val (.int (8 : Int32))] [(.int (8 : Int32))])) _
    refine XS.iloadN X55.here hx rfl (hb hby d1_7) rfl ?_
    show Steps p.tables e below (T55.setTop (mkF m 8 #[.val (.int (13 : Int32)), .val (.ref b1), .val (.int (8 : Int32))] [(.int (13 : Int32)), (.int (8 : Int32))])) _
    refine XS.icmpNo X55.here hx rfl (hb hby d1_8) rfl (tlt (by decide : (8 : Int32) < (13 : Int32))).2.1 ?_
    show Steps p.tables e below (T55.setTop (mkF m 11 #[.val (.int (13 : Int32)), .val (.ref b1), .val (.int (8 : Int32))] [])) _
    refine XS.aloadN X55.here hx rfl (hb hby d1_11) rfl rfl ?_
    show Steps p.tables e below (T55.setTop (mkF m 12 #[.val (.int (13 : Int32)), .val (.ref b1), .val (.int (8 : Int32))] [(.ref b1)])) _
    refine XS.iloadN X55.here hx rfl (hb hby d1_12) rfl ?_
    show Steps p.tables e below (T55.setTop (mkF m 13 #[.val (.int (13 : Int32)), .val (.ref b1), .val (.int (8 : Int32))] [(.int (8 : Int32)), (.ref b1)])) _
    refine XS.iloadN X55.here hx rfl (hb hby d1_13) rfl ?_
    show Steps p.tables e below (T55.setTop (mkF m 14 #[.val (.int (13 : Int32)), .val (.ref b1), .val (.int (8 : Int32))] [(.int (8 : Int32)), (.int (8 : Int32)), (.ref b1)])) _
    refine st62 _ ?_
    show Steps p.tables e below (T62.setTop (mkF m 15 #[.val (.int (13 : Int32)), .val (.ref b1), .val (.int (8 : Int32))] [])) _
    refine XS.iinc X62.here hx rfl (hb hby d1_15) rfl (l' := #[.val (.int (13 : Int32)), .val (.ref b1), .val (.int (9 : Int32))]) rfl ?_
    show Steps p.tables e below (T62.setTop (mkF m 18 #[.val (.int (13 : Int32)), .val (.ref b1), .val (.int (9 : Int32))] [])) _
    refine XS.goto X62.here hx rfl (pc0 := 18) (pc' := 6) rfl (hb hby d1_18) (by decide) (by decide) ?_
    show Steps p.tables e below (T62.setTop (mkF m 6 #[.val (.int (13 : Int32)), .val (.ref b1), .val (.int (9 : Int32))] [])) _
    refine XS.iloadN X62.here hx rfl (hb hby d1_6) rfl ?_
    show Steps p.tables e below (T62.setTop (mkF m 7 #[.val (.int (13 : Int32)), .val (.ref b1), .val (.int (9 : Int32))] [(.int (9 : Int32))])) _
    refine XS.iloadN X62.here hx rfl (hb hby d1_7) rfl ?_
    show Steps p.tables e below (T62.setTop (mkF m 8 #[.val (.int (13 : Int32)), .val (.ref b1), .val (.int (9 : Int32))] [(.int (13 : Int32)), (.int (9 : Int32))])) _
    refine XS.icmpNo X62.here hx rfl (hb hby d1_8) rfl (tlt (by decide : (9 : Int32) < (13 : Int32))).2.1 ?_
    show Steps p.tables e below (T62.setTop (mkF m 11 #[.val (.int (13 : Int32)), .val (.ref b1), .val (.int (9 : Int32))] [])) _
    refine XS.aloadN X62.here hx rfl (hb hby d1_11) rfl rfl ?_
    show Steps p.tables e below (T62.setTop (mkF m 12 #[.val (.int (13 : Int32)), .val (.ref b1), .val (.int (9 : Int32))] [(.ref b1)])) _
    refine XS.iloadN X62.here hx rfl (hb hby d1_12) rfl ?_
    show Steps p.tables e below (T62.setTop (mkF m 13 #[.val (.int (13 : Int32)), .val (.ref b1), .val (.int (9 : Int32))] [(.int (9 : Int32)), (.ref b1)])) _
    refine XS.iloadN X62.here hx rfl (hb hby d1_13) rfl ?_
    show Steps p.tables e below (T62.setTop (mkF m 14 #[.val (.int (13 : Int32)), .val (.ref b1), .val (.int (9 : Int32))] [(.int (9 : Int32)), (.int (9 : Int32)), (.ref b1)])) _
    refine st69 _ ?_
    show Steps p.tables e below (T69.setTop (mkF m 15 #[.val (.int (13 : Int32)), .val (.ref b1), .val (.int (9 : Int32))] [])) _
    refine XS.iinc X69.here hx rfl (hb hby d1_15) rfl (l' := #[.val (.int (13 : Int32)), .val (.ref b1), .val (.int (10 : Int32))]) rfl ?_
    show Steps p.tables e below (T69.setTop (mkF m 18 #[.val (.int (13 : Int32)), .val (.ref b1), .val (.int (10 : Int32))] [])) _
    refine XS.goto X69.here hx rfl (pc0 := 18) (pc' := 6) rfl (hb hby d1_18) (by decide) (by decide) ?_
    show Steps p.tables e below (T69.setTop (mkF m 6 #[.val (.int (13 : Int32)), .val (.ref b1), .val (.int (10 : Int32))] [])) _
    refine XS.iloadN X69.here hx rfl (hb hby d1_6) rfl ?_
    show Steps p.tables e below (T69.setTop (mkF m 7 #[.val (.int (13 : Int32)), .val (.ref b1), .val (.int (10 : Int32))] [(.int (10 : Int32))])) _
    refine XS.iloadN X69.here hx rfl (hb hby d1_7) rfl ?_
    show Steps p.tables e below (T69.setTop (mkF m 8 #[.val (.int (13 : Int32)), .val (.ref b1), .val (.int (10 : Int32))] [(.int (13 : Int32)), (.int (10 : Int32))])) _
    refine XS.icmpNo X69.here hx rfl (hb hby d1_8) rfl (tlt (by decide : (10 : Int32) < (13 : Int32))).2.1 ?_
    show Steps p.tables e below (T69.setTop (mkF m 11 #[.val (.int (13 : Int32)), .val (.ref b1), .val (.int (10 : Int32))] [])) _
    refine XS.aloadN X69.here hx rfl (hb hby d1_11) rfl rfl ?_
    show Steps p.tables e below (T69.setTop (mkF m 12 #[.val (.int (13 : Int32)), .val (.ref b1), .val (.int (10 : Int32))] [(.ref b1)])) _
    refine XS.iloadN X69.here hx rfl (hb hby d1_12) rfl ?_
    show Steps p.tables e below (T69.setTop (mkF m 13 #[.val (.int (13 : Int32)), .val (.ref b1), .val (.int (10 : Int32))] [(.int (10 : Int32)), (.ref b1)])) _
    refine XS.iloadN X69.here hx rfl (hb hby d1_13) rfl ?_
    show Steps p.tables e below (T69.setTop (mkF m 14 #[.val (.int (13 : Int32)), .val (.ref b1), .val (.int (10 : Int32))] [(.int (10 : Int32)), (.int (10 : Int32)), (.ref b1)])) _
    refine st76 _ ?_
    show Steps p.tables e below (T76.setTop (mkF m 15 #[.val (.int (13 : Int32)), .val (.ref b1), .val (.int (10 : Int32))] [])) _
    refine XS.iinc X76.here hx rfl (hb hby d1_15) rfl (l' := #[.val (.int (13 : Int32)), .val (.ref b1), .val (.int (11 : Int32))]) rfl ?_
    show Steps p.tables e below (T76.setTop (mkF m 18 #[.val (.int (13 : Int32)), .val (.ref b1), .val (.int (11 : Int32))] [])) _
    refine XS.goto X76.here hx rfl (pc0 := 18) (pc' := 6) rfl (hb hby d1_18) (by decide) (by decide) ?_
    show Steps p.tables e below (T76.setTop (mkF m 6 #[.val (.int (13 : Int32)), .val (.ref b1), .val (.int (11 : Int32))] [])) _
    refine XS.iloadN X76.here hx rfl (hb hby d1_6) rfl ?_
    show Steps p.tables e below (T76.setTop (mkF m 7 #[.val (.int (13 : Int32)), .val (.ref b1), .val (.int (11 : Int32))] [(.int (11 : Int32))])) _
    refine XS.iloadN X76.here hx rfl (hb hby d1_7) rfl ?_
    show Steps p.tables e below (T76.setTop (mkF m 8 #[.val (.int (13 : Int32)), .val (.ref b1), .val (.int (11 : Int32))] [(.int (13 : Int32)), (.int (11 : Int32))])) _
    refine XS.icmpNo X76.here hx rfl (hb hby d1_8) rfl (tlt (by decide : (11 : Int32) < (13 : Int32))).2.1 ?_
    show Steps p.tables e below (T76.setTop (mkF m 11 #[.val (.int (13 : Int32)), .val (.ref b1), .val (.int (11 : Int32))] [])) _
    refine XS.aloadN X76.here hx rfl (hb hby d1_11) rfl rfl ?_
    show Steps p.tables e below (T76.setTop (mkF m 12 #[.val (.int (13 : Int32)), .val (.ref b1), .val (.int (11 : Int32))] [(.ref b1)])) _
    refine XS.iloadN X76.here hx rfl (hb hby d1_12) rfl ?_
    show Steps p.tables e below (T76.setTop (mkF m 13 #[.val (.int (13 : Int32)), .val (.ref b1), .val (.int (11 : Int32))] [(.int (11 : Int32)), (.ref b1)])) _
    refine XS.iloadN X76.here hx rfl (hb hby d1_13) rfl ?_
    show Steps p.tables e below (T76.setTop (mkF m 14 #[.val (.int (13 : Int32)), .val (.ref b1), .val (.int (11 : Int32))] [(.int (11 : Int32)), (.int (11 : Int32)), (.ref b1)])) _
    refine st83 _ ?_
    show Steps p.tables e below (T83.setTop (mkF m 15 #[.val (.int (13 : Int32)), .val (.ref b1), .val (.int (11 : Int32))] [])) _
    refine XS.iinc X83.here hx rfl (hb hby d1_15) rfl (l' := #[.val (.int (13 : Int32)), .val (.ref b1), .val (.int (12 : Int32))]) rfl ?_
    show Steps p.tables e below (T83.setTop (mkF m 18 #[.val (.int (13 : Int32)), .val (.ref b1), .val (.int (12 : Int32))] [])) _
    refine XS.goto X83.here hx rfl (pc0 := 18) (pc' := 6) rfl (hb hby d1_18) (by decide) (by decide) ?_
    show Steps p.tables e below (T83.setTop (mkF m 6 #[.val (.int (13 : Int32)), .val (.ref b1), .val (.int (12 : Int32))] [])) _
    refine XS.iloadN X83.here hx rfl (hb hby d1_6) rfl ?_
    show Steps p.tables e below (T83.setTop (mkF m 7 #[.val (.int (13 : Int32)), .val (.ref b1), .val (.int (12 : Int32))] [(.int (12 : Int32))])) _
    refine XS.iloadN X83.here hx rfl (hb hby d1_7) rfl ?_
    show Steps p.tables e below (T83.setTop (mkF m 8 #[.val (.int (13 : Int32)), .val (.ref b1), .val (.int (12 : Int32))] [(.int (13 : Int32)), (.int (12 : Int32))])) _
    refine XS.icmpNo X83.here hx rfl (hb hby d1_8) rfl (tlt (by decide : (12 : Int32) < (13 : Int32))).2.1 ?_
    show Steps p.tables e below (T83.setTop (mkF m 11 #[.val (.int (13 : Int32)), .val (.ref b1), .val (.int (12 : Int32))] [])) _
    refine XS.aloadN X83.here hx rfl (hb hby d1_11) rfl rfl ?_
    show Steps p.tables e below (T83.setTop (mkF m 12 #[.val (.int (13 : Int32)), .val (.ref b1), .val (.int (12 : Int32))] [(.ref b1)])) _
    refine XS.iloadN X83.here hx rfl (hb hby d1_12) rfl ?_
    show Steps p.tables e below (T83.setTop (mkF m 13 #[.val (.int (13 : Int32)), .val (.ref b1), .val (.int (12 : Int32))] [(.int (12 : Int32)), (.ref b1)])) _
    refine XS.iloadN X83.here hx rfl (hb hby d1_13) rfl ?_
    show Steps p.tables e below (T83.setTop (mkF m 14 #[.val (.int (13 : Int32)), .val (.ref b1), .val (.int (12 : Int32))] [(.int (12 : Int32)), (.int (12 : Int32)), (.ref b1)])) _
    refine st90 _ ?_
    show Steps p.tables e below (T90.setTop (mkF m 15 #[.val (.int (13 : Int32)), .val (.ref b1), .val (.int (12 : Int32))] [])) _
    refine XS.iinc X90.here hx rfl (hb hby d1_15) rfl (l' := #[.val (.int (13 : Int32)), .val (.ref b1), .val (.int (13 : Int32))]) rfl ?_
    show Steps p.tables e below (T90.setTop (mkF m 18 #[.val (.int (13 : Int32)), .val (.ref b1), .val (.int (13 : Int32))] [])) _
    refine XS.goto X90.here hx rfl (pc0 := 18) (pc' := 6) rfl (hb hby d1_18) (by decide) (by decide) ?_
    show Steps p.tables e below (T90.setTop (mkF m 6 #[.val (.int (13 : Int32)), .val (.ref b1), .val (.int (13 : Int32))] [])) _
    refine XS.iloadN X90.here hx rfl (hb hby d1_6) rfl ?_
    show Steps p.tables e below (T90.setTop (mkF m 7 #[.val (.int (13 : Int32)), .val (.ref b1), .val (.int (13 : Int32))] [(.int (13 : Int32))])) _
    refine XS.iloadN X90.here hx rfl (hb hby d1_7) rfl ?_
    show Steps p.tables e below (T90.setTop (mkF m 8 #[.val (.int (13 : Int32)), .val (.ref b1), .val (.int (13 : Int32))] [(.int (13 : Int32)), (.int (13 : Int32))])) _
    refine XS.icmpYes X90.here hx rfl (pc0 := 8) (pc' := 21) rfl (hb hby d1_8) rfl (flt (by decide : ¬ ((13 : Int32) < (13 : Int32)))).2.1 (by decide) (by decide) ?_
    show Steps p.tables e below (T90.setTop (mkF m 21 #[.val (.int (13 : Int32)), .val (.ref b1), .val (.int (13 : Int32))] [])) _
    refine XS.aloadN X90.here hx rfl (hb hby d1_21) rfl rfl ?_
    show Steps p.tables e below (T90.setTop (mkF m 22 #[.val (.int (13 : Int32)), .val (.ref b1), .val (.int (13 : Int32))] [(.ref b1)])) _
    exact retOut X90 hx (t := (.array .int)) (i := .areturn) Bd.returns rfl (Or.inr (Or.inr (Or.inr (Or.inr ⟨rfl, rfl, rfl⟩)))) (hb hby d1_22) hr
  · show Q_pos13 Z  h0 n0 _ T90.heap _
    rw [e90]
    exact ⟨b1, k1, rfl, N94, g_b1, sz_b1, K93, f92, f96⟩
def Q_pos14 (Z : State)  (h0 : Heap) (n0 : Nat) (v : Option Value) (h : Heap) (L : List Loc) : Prop := ∃ (o1 : Addr), ∃ (ko1 : ClassId), v = some (.ref o1) ∧ Fr n0 L ∧ n0 ≤ o1 ∧ h0.size ≤ o1 ∧ Keep h0 h [] ∧ Exa Z h o1 "[I" ∧ Arv Z h o1 ko1 .int (14 : Int32) own_ids (.int (0 : Int32))
set_option maxRecDepth 65536 in
set_option maxHeartbeats 40000000 in
theorem rm_pos14 (l : Launch) (Z : State) (a0 : Array Value) (hw : ∀ d ∈ tables_1, d.before a0 Z = true) (ws : List Jvm.Cond)  (h0 : Heap) (n0 : Nat) (Z0 : n0 ≤ h0.size) :
    MetFree l (⟨"com/example/trawl/trawl/gen/FisherYates", "positions", "(I)[I"⟩ : MethodName) (head1 (Jvm.Cond.code (⟨"com/example/trawl/trawl/gen/FisherYates", "positions", "(I)[I"⟩ : MethodName) prog_1_method_2_code 3 (some (.array .int)) :: ws) ({ frames := 0, cells := 1, slots := 16, locals := 0 } : Room)) (fun a U => a = #[(.int (14 : Int32))] ∧ Z.Warmed39 U.vm ∧ U.heap = h0) (fun _ _ _ _ _ => True) (fun _ U o U' => ∃ v L, o = .returned v ∧ Q_pos14 Z  h0 n0 v U'.heap L ∧ FrameEnd U o U' L ({ frames := 0, cells := 1, slots := 16, locals := 0 } : Room).cells ({ frames := 0, cells := 1, slots := 16, locals := 0 } : Room).slots) := by
  refine MetFree.of_bodySF (plainFor_of_name pn_com_example_trawl_trawl_gen_FisherYates) hisR ?_
  intro p e s m args below meth c s₁ Bd hml0 hP hK
  obtain ⟨rfl, hZ, hh⟩ := hP
  have hx := Bd.exec
  have hby := Bd.bytes
  have hml : c.maxLocals = 3 := hml0
  have hown : s.vm.findClass "com/example/trawl/trawl/gen/FisherYates" = some m.cls := findClass_of_methodNamed Bd.named
  have hnm := (name_of_methodNamed Bd.named Bd.method).1
  have X0 : Stand p l e ({ frames := 0, cells := 1, slots := 16, locals := 0 } : Room) s m #[(.int (14 : Int32))] below meth c s₁ [] 0 0 := Stand.of_body Bd
  have e0 : s₁.heap = h0 := by rw [← hh, Bd.state]; rfl
  have N0 := Fr.nil n0
  have pre0 : ∀ t, Steps p.tables e below (s₁.setTop (mkF m 0 #[.val (.int (14 : Int32)), .unset, .unset] [])) t → Steps p.tables e below (s₁.setTop (entryFrame m #[(.int (14 : Int32))] 3)) t := fun t k => castTop (ef_1_I m (14 : Int32)) k
  obtain ⟨T1, h1, k1, X1, e1, E1, A1, Ex1, st1⟩ := newPE X0 hx hZ (hw _ (List.mem_of_getElem? (i := 4) rfl)) e0 (g := (mkF m 1 #[.val (.int (14 : Int32)), .unset, .unset] [(.int (14 : Int32))])) rfl (hb hby d1_1) rfl (by decide) (cap := 14) (by decide) (by decide) (by decide) (by decide) (ad := "[I") (by decide)
  obtain ⟨b1, g1⟩ : ∃ z, z = h0.size := ⟨_, rfl⟩
  rw [← g1] at A1 Ex1 st1
  have g_b1 : n0 ≤ b1 := Nat.le_trans Z0 (Nat.le_of_eq g1.symm)
  have sz_b1 : h0.size ≤ b1 := Nat.le_trans (Keep.refl h0 []).1 (Nat.le_of_eq g1.symm)
  have K2 : Keep h0 h1 [] := (Keep.refl h0 []).ext E1
  have Zs3 : n0 ≤ h1.size := Nat.le_trans Z0 E1.1
  have f4 : Arv Z h1 b1 k1 .int (14 : Int32) [(.int (0 : Int32)), (.int (0 : Int32)), (.int (0 : Int32)), (.int (0 : Int32)), (.int (0 : Int32)), (.int (0 : Int32)), (.int (0 : Int32)), (.int (0 : Int32)), (.int (0 : Int32)), (.int (0 : Int32)), (.int (0 : Int32)), (.int (0 : Int32)), (.int (0 : Int32)), (.int (0 : Int32))] (.int (0 : Int32)) := (Arv.new A1 (by decide)).pad (pad_rep [] (.int (0 : Int32)) 14)
  obtain ⟨clo5, Aro5, qo5, So5, No5, Ho5, Go5⟩ := id f4
  have hino5 : ¬ ((0 : Int32) < 0 ∨ clo5.slots.size ≤ ((0 : Int32)).toNatClampNeg) := inb_of So5 ⟨by decide, by decide⟩
  obtain ⟨T6, h6, X6, e6, W6, st6⟩ := stI X1 hx hZ e1 Aro5 (j := (0 : Int32)) hino5 (g := (mkF m 14 #[.val (.int (14 : Int32)), .val (.ref b1), .val (.int (0 : Int32))] [(.int (0 : Int32)), (.int (0 : Int32)), (.ref b1)])) rfl rfl (hb hby d1_14)
  have f7 : Arv Z h6 b1 k1 .int (14 : Int32) [(.int (0 : Int32)), (.int (0 : Int32)), (.int (0 : Int32)), (.int (0 : Int32)), (.int (0 : Int32)), (.int (0 : Int32)), (.int (0 : Int32)), (.int (0 : Int32)), (.int (0 : Int32)), (.int (0 : Int32)), (.int (0 : Int32)), (.int (0 : Int32)), (.int (0 : Int32)), (.int (0 : Int32))] (.int (0 : Int32)) := Arv.set Aro5 qo5 So5 No5 Ho5 Go5 rfl W6 0 rfl (by decide)
  have f8 : Exa Z h6 b1 "[I" := Ex1.wr W6
  have K9 : Keep h0 h6 [] := K2.wr W6 (Or.inr sz_b1)
  have N10 := Fr.snoc X6 N0 g_b1
  have Zs11 : n0 ≤ h6.size := Nat.le_trans Zs3 (Keep.of_wr W6).1
  obtain ⟨clo12, Aro12, qo12, So12, No12, Ho12, Go12⟩ := id f7
  have hino12 : ¬ ((1 : Int32) < 0 ∨ clo12.slots.size ≤ ((1 : Int32)).toNatClampNeg) := inb_of So12 ⟨by decide, by decide⟩
  obtain ⟨T13, h13, X13, e13, W13, st13⟩ := stI X6 hx hZ e6 Aro12 (j := (1 : Int32)) hino12 (g := (mkF m 14 #[.val (.int (14 : Int32)), .val (.ref b1), .val (.int (1 : Int32))] [(.int (1 : Int32)), (.int (1 : Int32)), (.ref b1)])) rfl rfl (hb hby d1_14)
  have f14 : Arv Z h13 b1 k1 .int (14 : Int32) [(.int (0 : Int32)), (.int (1 : Int32)), (.int (0 : Int32)), (.int (0 : Int32)), (.int (0 : Int32)), (.int (0 : Int32)), (.int (0 : Int32)), (.int (0 : Int32)), (.int (0 : Int32)), (.int (0 : Int32)), (.int (0 : Int32)), (.int (0 : Int32)), (.int (0 : Int32)), (.int (0 : Int32))] (.int (0 : Int32)) := Arv.set Aro12 qo12 So12 No12 Ho12 Go12 rfl W13 1 rfl (by decide)
  have f15 : Exa Z h13 b1 "[I" := f8.wr W13
  have K16 : Keep h0 h13 [] := K9.wr W13 (Or.inr sz_b1)
  have N17 := Fr.snoc X13 N10 g_b1
  have Zs18 : n0 ≤ h13.size := Nat.le_trans Zs11 (Keep.of_wr W13).1
  obtain ⟨clo19, Aro19, qo19, So19, No19, Ho19, Go19⟩ := id f14
  have hino19 : ¬ ((2 : Int32) < 0 ∨ clo19.slots.size ≤ ((2 : Int32)).toNatClampNeg) := inb_of So19 ⟨by decide, by decide⟩
  obtain ⟨T20, h20, X20, e20, W20, st20⟩ := stI X13 hx hZ e13 Aro19 (j := (2 : Int32)) hino19 (g := (mkF m 14 #[.val (.int (14 : Int32)), .val (.ref b1), .val (.int (2 : Int32))] [(.int (2 : Int32)), (.int (2 : Int32)), (.ref b1)])) rfl rfl (hb hby d1_14)
  have f21 : Arv Z h20 b1 k1 .int (14 : Int32) [(.int (0 : Int32)), (.int (1 : Int32)), (.int (2 : Int32)), (.int (0 : Int32)), (.int (0 : Int32)), (.int (0 : Int32)), (.int (0 : Int32)), (.int (0 : Int32)), (.int (0 : Int32)), (.int (0 : Int32)), (.int (0 : Int32)), (.int (0 : Int32)), (.int (0 : Int32)), (.int (0 : Int32))] (.int (0 : Int32)) := Arv.set Aro19 qo19 So19 No19 Ho19 Go19 rfl W20 2 rfl (by decide)
  have f22 : Exa Z h20 b1 "[I" := f15.wr W20
  have K23 : Keep h0 h20 [] := K16.wr W20 (Or.inr sz_b1)
  have N24 := Fr.snoc X20 N17 g_b1
  have Zs25 : n0 ≤ h20.size := Nat.le_trans Zs18 (Keep.of_wr W20).1
  obtain ⟨clo26, Aro26, qo26, So26, No26, Ho26, Go26⟩ := id f21
  have hino26 : ¬ ((3 : Int32) < 0 ∨ clo26.slots.size ≤ ((3 : Int32)).toNatClampNeg) := inb_of So26 ⟨by decide, by decide⟩
  obtain ⟨T27, h27, X27, e27, W27, st27⟩ := stI X20 hx hZ e20 Aro26 (j := (3 : Int32)) hino26 (g := (mkF m 14 #[.val (.int (14 : Int32)), .val (.ref b1), .val (.int (3 : Int32))] [(.int (3 : Int32)), (.int (3 : Int32)), (.ref b1)])) rfl rfl (hb hby d1_14)
  have f28 : Arv Z h27 b1 k1 .int (14 : Int32) [(.int (0 : Int32)), (.int (1 : Int32)), (.int (2 : Int32)), (.int (3 : Int32)), (.int (0 : Int32)), (.int (0 : Int32)), (.int (0 : Int32)), (.int (0 : Int32)), (.int (0 : Int32)), (.int (0 : Int32)), (.int (0 : Int32)), (.int (0 : Int32)), (.int (0 : Int32)), (.int (0 : Int32))] (.int (0 : Int32)) := Arv.set Aro26 qo26 So26 No26 Ho26 Go26 rfl W27 3 rfl (by decide)
  have f29 : Exa Z h27 b1 "[I" := f22.wr W27
  have K30 : Keep h0 h27 [] := K23.wr W27 (Or.inr sz_b1)
  have N31 := Fr.snoc X27 N24 g_b1
  have Zs32 : n0 ≤ h27.size := Nat.le_trans Zs25 (Keep.of_wr W27).1
  obtain ⟨clo33, Aro33, qo33, So33, No33, Ho33, Go33⟩ := id f28
  have hino33 : ¬ ((4 : Int32) < 0 ∨ clo33.slots.size ≤ ((4 : Int32)).toNatClampNeg) := inb_of So33 ⟨by decide, by decide⟩
  obtain ⟨T34, h34, X34, e34, W34, st34⟩ := stI X27 hx hZ e27 Aro33 (j := (4 : Int32)) hino33 (g := (mkF m 14 #[.val (.int (14 : Int32)), .val (.ref b1), .val (.int (4 : Int32))] [(.int (4 : Int32)), (.int (4 : Int32)), (.ref b1)])) rfl rfl (hb hby d1_14)
  have f35 : Arv Z h34 b1 k1 .int (14 : Int32) [(.int (0 : Int32)), (.int (1 : Int32)), (.int (2 : Int32)), (.int (3 : Int32)), (.int (4 : Int32)), (.int (0 : Int32)), (.int (0 : Int32)), (.int (0 : Int32)), (.int (0 : Int32)), (.int (0 : Int32)), (.int (0 : Int32)), (.int (0 : Int32)), (.int (0 : Int32)), (.int (0 : Int32))] (.int (0 : Int32)) := Arv.set Aro33 qo33 So33 No33 Ho33 Go33 rfl W34 4 rfl (by decide)
  have f36 : Exa Z h34 b1 "[I" := f29.wr W34
  have K37 : Keep h0 h34 [] := K30.wr W34 (Or.inr sz_b1)
  have N38 := Fr.snoc X34 N31 g_b1
  have Zs39 : n0 ≤ h34.size := Nat.le_trans Zs32 (Keep.of_wr W34).1
  obtain ⟨clo40, Aro40, qo40, So40, No40, Ho40, Go40⟩ := id f35
  have hino40 : ¬ ((5 : Int32) < 0 ∨ clo40.slots.size ≤ ((5 : Int32)).toNatClampNeg) := inb_of So40 ⟨by decide, by decide⟩
  obtain ⟨T41, h41, X41, e41, W41, st41⟩ := stI X34 hx hZ e34 Aro40 (j := (5 : Int32)) hino40 (g := (mkF m 14 #[.val (.int (14 : Int32)), .val (.ref b1), .val (.int (5 : Int32))] [(.int (5 : Int32)), (.int (5 : Int32)), (.ref b1)])) rfl rfl (hb hby d1_14)
  have f42 : Arv Z h41 b1 k1 .int (14 : Int32) [(.int (0 : Int32)), (.int (1 : Int32)), (.int (2 : Int32)), (.int (3 : Int32)), (.int (4 : Int32)), (.int (5 : Int32)), (.int (0 : Int32)), (.int (0 : Int32)), (.int (0 : Int32)), (.int (0 : Int32)), (.int (0 : Int32)), (.int (0 : Int32)), (.int (0 : Int32)), (.int (0 : Int32))] (.int (0 : Int32)) := Arv.set Aro40 qo40 So40 No40 Ho40 Go40 rfl W41 5 rfl (by decide)
  have f43 : Exa Z h41 b1 "[I" := f36.wr W41
  have K44 : Keep h0 h41 [] := K37.wr W41 (Or.inr sz_b1)
  have N45 := Fr.snoc X41 N38 g_b1
  have Zs46 : n0 ≤ h41.size := Nat.le_trans Zs39 (Keep.of_wr W41).1
  obtain ⟨clo47, Aro47, qo47, So47, No47, Ho47, Go47⟩ := id f42
  have hino47 : ¬ ((6 : Int32) < 0 ∨ clo47.slots.size ≤ ((6 : Int32)).toNatClampNeg) := inb_of So47 ⟨by decide, by decide⟩
  obtain ⟨T48, h48, X48, e48, W48, st48⟩ := stI X41 hx hZ e41 Aro47 (j := (6 : Int32)) hino47 (g := (mkF m 14 #[.val (.int (14 : Int32)), .val (.ref b1), .val (.int (6 : Int32))] [(.int (6 : Int32)), (.int (6 : Int32)), (.ref b1)])) rfl rfl (hb hby d1_14)
  have f49 : Arv Z h48 b1 k1 .int (14 : Int32) [(.int (0 : Int32)), (.int (1 : Int32)), (.int (2 : Int32)), (.int (3 : Int32)), (.int (4 : Int32)), (.int (5 : Int32)), (.int (6 : Int32)), (.int (0 : Int32)), (.int (0 : Int32)), (.int (0 : Int32)), (.int (0 : Int32)), (.int (0 : Int32)), (.int (0 : Int32)), (.int (0 : Int32))] (.int (0 : Int32)) := Arv.set Aro47 qo47 So47 No47 Ho47 Go47 rfl W48 6 rfl (by decide)
  have f50 : Exa Z h48 b1 "[I" := f43.wr W48
  have K51 : Keep h0 h48 [] := K44.wr W48 (Or.inr sz_b1)
  have N52 := Fr.snoc X48 N45 g_b1
  have Zs53 : n0 ≤ h48.size := Nat.le_trans Zs46 (Keep.of_wr W48).1
  obtain ⟨clo54, Aro54, qo54, So54, No54, Ho54, Go54⟩ := id f49
  have hino54 : ¬ ((7 : Int32) < 0 ∨ clo54.slots.size ≤ ((7 : Int32)).toNatClampNeg) := inb_of So54 ⟨by decide, by decide⟩
  obtain ⟨T55, h55, X55, e55, W55, st55⟩ := stI X48 hx hZ e48 Aro54 (j := (7 : Int32)) hino54 (g := (mkF m 14 #[.val (.int (14 : Int32)), .val (.ref b1), .val (.int (7 : Int32))] [(.int (7 : Int32)), (.int (7 : Int32)), (.ref b1)])) rfl rfl (hb hby d1_14)
  have f56 : Arv Z h55 b1 k1 .int (14 : Int32) [(.int (0 : Int32)), (.int (1 : Int32)), (.int (2 : Int32)), (.int (3 : Int32)), (.int (4 : Int32)), (.int (5 : Int32)), (.int (6 : Int32)), (.int (7 : Int32)), (.int (0 : Int32)), (.int (0 : Int32)), (.int (0 : Int32)), (.int (0 : Int32)), (.int (0 : Int32)), (.int (0 : Int32))] (.int (0 : Int32)) := Arv.set Aro54 qo54 So54 No54 Ho54 Go54 rfl W55 7 rfl (by decide)
  have f57 : Exa Z h55 b1 "[I" := f50.wr W55
  have K58 : Keep h0 h55 [] := K51.wr W55 (Or.inr sz_b1)
  have N59 := Fr.snoc X55 N52 g_b1
  have Zs60 : n0 ≤ h55.size := Nat.le_trans Zs53 (Keep.of_wr W55).1
  obtain ⟨clo61, Aro61, qo61, So61, No61, Ho61, Go61⟩ := id f56
  have hino61 : ¬ ((8 : Int32) < 0 ∨ clo61.slots.size ≤ ((8 : Int32)).toNatClampNeg) := inb_of So61 ⟨by decide, by decide⟩
  obtain ⟨T62, h62, X62, e62, W62, st62⟩ := stI X55 hx hZ e55 Aro61 (j := (8 : Int32)) hino61 (g := (mkF m 14 #[.val (.int (14 : Int32)), .val (.ref b1), .val (.int (8 : Int32))] [(.int (8 : Int32)), (.int (8 : Int32)), (.ref b1)])) rfl rfl (hb hby d1_14)
  have f63 : Arv Z h62 b1 k1 .int (14 : Int32) [(.int (0 : Int32)), (.int (1 : Int32)), (.int (2 : Int32)), (.int (3 : Int32)), (.int (4 : Int32)), (.int (5 : Int32)), (.int (6 : Int32)), (.int (7 : Int32)), (.int (8 : Int32)), (.int (0 : Int32)), (.int (0 : Int32)), (.int (0 : Int32)), (.int (0 : Int32)), (.int (0 : Int32))] (.int (0 : Int32)) := Arv.set Aro61 qo61 So61 No61 Ho61 Go61 rfl W62 8 rfl (by decide)
  have f64 : Exa Z h62 b1 "[I" := f57.wr W62
  have K65 : Keep h0 h62 [] := K58.wr W62 (Or.inr sz_b1)
  have N66 := Fr.snoc X62 N59 g_b1
  have Zs67 : n0 ≤ h62.size := Nat.le_trans Zs60 (Keep.of_wr W62).1
  obtain ⟨clo68, Aro68, qo68, So68, No68, Ho68, Go68⟩ := id f63
  have hino68 : ¬ ((9 : Int32) < 0 ∨ clo68.slots.size ≤ ((9 : Int32)).toNatClampNeg) := inb_of So68 ⟨by decide, by decide⟩
  obtain ⟨T69, h69, X69, e69, W69, st69⟩ := stI X62 hx hZ e62 Aro68 (j := (9 : Int32)) hino68 (g := (mkF m 14 #[.val (.int (14 : Int32)), .val (.ref b1), .val (.int (9 : Int32))] [(.int (9 : Int32)), (.int (9 : Int32)), (.ref b1)])) rfl rfl (hb hby d1_14)
  have f70 : Arv Z h69 b1 k1 .int (14 : Int32) [(.int (0 : Int32)), (.int (1 : Int32)), (.int (2 : Int32)), (.int (3 : Int32)), (.int (4 : Int32)), (.int (5 : Int32)), (.int (6 : Int32)), (.int (7 : Int32)), (.int (8 : Int32)), (.int (9 : Int32)), (.int (0 : Int32)), (.int (0 : Int32)), (.int (0 : Int32)), (.int (0 : Int32))] (.int (0 : Int32)) := Arv.set Aro68 qo68 So68 No68 Ho68 Go68 rfl W69 9 rfl (by decide)
  have f71 : Exa Z h69 b1 "[I" := f64.wr W69
  have K72 : Keep h0 h69 [] := K65.wr W69 (Or.inr sz_b1)
  have N73 := Fr.snoc X69 N66 g_b1
  have Zs74 : n0 ≤ h69.size := Nat.le_trans Zs67 (Keep.of_wr W69).1
  obtain ⟨clo75, Aro75, qo75, So75, No75, Ho75, Go75⟩ := id f70
  have hino75 : ¬ ((10 : Int32) < 0 ∨ clo75.slots.size ≤ ((10 : Int32)).toNatClampNeg) := inb_of So75 ⟨by decide, by decide⟩
  obtain ⟨T76, h76, X76, e76, W76, st76⟩ := stI X69 hx hZ e69 Aro75 (j := (10 : Int32)) hino75 (g := (mkF m 14 #[.val (.int (14 : Int32)), .val (.ref b1), .val (.int (10 : Int32))] [(.int (10 : Int32)), (.int (10 : Int32)), (.ref b1)])) rfl rfl (hb hby d1_14)
  have f77 : Arv Z h76 b1 k1 .int (14 : Int32) [(.int (0 : Int32)), (.int (1 : Int32)), (.int (2 : Int32)), (.int (3 : Int32)), (.int (4 : Int32)), (.int (5 : Int32)), (.int (6 : Int32)), (.int (7 : Int32)), (.int (8 : Int32)), (.int (9 : Int32)), (.int (10 : Int32)), (.int (0 : Int32)), (.int (0 : Int32)), (.int (0 : Int32))] (.int (0 : Int32)) := Arv.set Aro75 qo75 So75 No75 Ho75 Go75 rfl W76 10 rfl (by decide)
  have f78 : Exa Z h76 b1 "[I" := f71.wr W76
  have K79 : Keep h0 h76 [] := K72.wr W76 (Or.inr sz_b1)
  have N80 := Fr.snoc X76 N73 g_b1
  have Zs81 : n0 ≤ h76.size := Nat.le_trans Zs74 (Keep.of_wr W76).1
  obtain ⟨clo82, Aro82, qo82, So82, No82, Ho82, Go82⟩ := id f77
  have hino82 : ¬ ((11 : Int32) < 0 ∨ clo82.slots.size ≤ ((11 : Int32)).toNatClampNeg) := inb_of So82 ⟨by decide, by decide⟩
  obtain ⟨T83, h83, X83, e83, W83, st83⟩ := stI X76 hx hZ e76 Aro82 (j := (11 : Int32)) hino82 (g := (mkF m 14 #[.val (.int (14 : Int32)), .val (.ref b1), .val (.int (11 : Int32))] [(.int (11 : Int32)), (.int (11 : Int32)), (.ref b1)])) rfl rfl (hb hby d1_14)
  have f84 : Arv Z h83 b1 k1 .int (14 : Int32) [(.int (0 : Int32)), (.int (1 : Int32)), (.int (2 : Int32)), (.int (3 : Int32)), (.int (4 : Int32)), (.int (5 : Int32)), (.int (6 : Int32)), (.int (7 : Int32)), (.int (8 : Int32)), (.int (9 : Int32)), (.int (10 : Int32)), (.int (11 : Int32)), (.int (0 : Int32)), (.int (0 : Int32))] (.int (0 : Int32)) := Arv.set Aro82 qo82 So82 No82 Ho82 Go82 rfl W83 11 rfl (by decide)
  have f85 : Exa Z h83 b1 "[I" := f78.wr W83
  have K86 : Keep h0 h83 [] := K79.wr W83 (Or.inr sz_b1)
  have N87 := Fr.snoc X83 N80 g_b1
  have Zs88 : n0 ≤ h83.size := Nat.le_trans Zs81 (Keep.of_wr W83).1
  obtain ⟨clo89, Aro89, qo89, So89, No89, Ho89, Go89⟩ := id f84
  have hino89 : ¬ ((12 : Int32) < 0 ∨ clo89.slots.size ≤ ((12 : Int32)).toNatClampNeg) := inb_of So89 ⟨by decide, by decide⟩
  obtain ⟨T90, h90, X90, e90, W90, st90⟩ := stI X83 hx hZ e83 Aro89 (j := (12 : Int32)) hino89 (g := (mkF m 14 #[.val (.int (14 : Int32)), .val (.ref b1), .val (.int (12 : Int32))] [(.int (12 : Int32)), (.int (12 : Int32)), (.ref b1)])) rfl rfl (hb hby d1_14)
  have f91 : Arv Z h90 b1 k1 .int (14 : Int32) [(.int (0 : Int32)), (.int (1 : Int32)), (.int (2 : Int32)), (.int (3 : Int32)), (.int (4 : Int32)), (.int (5 : Int32)), (.int (6 : Int32)), (.int (7 : Int32)), (.int (8 : Int32)), (.int (9 : Int32)), (.int (10 : Int32)), (.int (11 : Int32)), (.int (12 : Int32)), (.int (0 : Int32))] (.int (0 : Int32)) := Arv.set Aro89 qo89 So89 No89 Ho89 Go89 rfl W90 12 rfl (by decide)
  have f92 : Exa Z h90 b1 "[I" := f85.wr W90
  have K93 : Keep h0 h90 [] := K86.wr W90 (Or.inr sz_b1)
  have N94 := Fr.snoc X90 N87 g_b1
  have Zs95 : n0 ≤ h90.size := Nat.le_trans Zs88 (Keep.of_wr W90).1
  obtain ⟨clo96, Aro96, qo96, So96, No96, Ho96, Go96⟩ := id f91
  have hino96 : ¬ ((13 : Int32) < 0 ∨ clo96.slots.size ≤ ((13 : Int32)).toNatClampNeg) := inb_of So96 ⟨by decide, by decide⟩
  obtain ⟨T97, h97, X97, e97, W97, st97⟩ := stI X90 hx hZ e90 Aro96 (j := (13 : Int32)) hino96 (g := (mkF m 14 #[.val (.int (14 : Int32)), .val (.ref b1), .val (.int (13 : Int32))] [(.int (13 : Int32)), (.int (13 : Int32)), (.ref b1)])) rfl rfl (hb hby d1_14)
  have f98 : Arv Z h97 b1 k1 .int (14 : Int32) [(.int (0 : Int32)), (.int (1 : Int32)), (.int (2 : Int32)), (.int (3 : Int32)), (.int (4 : Int32)), (.int (5 : Int32)), (.int (6 : Int32)), (.int (7 : Int32)), (.int (8 : Int32)), (.int (9 : Int32)), (.int (10 : Int32)), (.int (11 : Int32)), (.int (12 : Int32)), (.int (13 : Int32))] (.int (0 : Int32)) := Arv.set Aro96 qo96 So96 No96 Ho96 Go96 rfl W97 13 rfl (by decide)
  have f99 : Exa Z h97 b1 "[I" := f92.wr W97
  have K100 : Keep h0 h97 [] := K93.wr W97 (Or.inr sz_b1)
  have N101 := Fr.snoc X97 N94 g_b1
  have Zs102 : n0 ≤ h97.size := Nat.le_trans Zs95 (Keep.of_wr W97).1
  have f103 : Arv Z h97 b1 k1 .int (14 : Int32) own_ids (.int (0 : Int32)) := own_conv f98 (by decide)
  obtain ⟨fs, hr, hrun, hended, hW, hsame⟩ := X97.leave (v := some (.ref b1)) (fun h => by rw [Bd.returns] at h; cases h) Bd.notSynchronized
  refine ⟨_, _, pre0 _ ?_, hrun, hended, _, _, rfl, ?_, ⟨_, rfl⟩, hW, hsame.mono (by decide) (by decide)⟩
  · show Steps p.tables e below (s₁.setTop (mkF m 0 #[.val (.int (14 : Int32)), .unset, .unset] [])) _
    refine XS.iloadN X0.here hx rfl (hb hby d1_0) rfl ?_
    show Steps p.tables e below (s₁.setTop (mkF m 1 #[.val (.int (14 : Int32)), .unset, .unset] [(.int (14 : Int32))])) _
    refine st1 _ ?_
    show Steps p.tables e below (T1.setTop (mkF m 3 #[.val (.int (14 : Int32)), .unset, .unset] [(.ref b1)])) _
    refine XS.astoreN X1.here hx rfl (hb hby d1_3) rfl rfl (l' := #[.val (.int (14 : Int32)), .val (.ref b1), .unset]) rfl ?_
    show Steps p.tables e below (T1.setTop (mkF m 4 #[.val (.int (14 : Int32)), .val (.ref b1), .unset] [])) _
    refine XS.iconst X1.here hx rfl (hb hby d1_4) ?_
    show Steps p.tables e below (T1.setTop (mkF m 5 #[.val (.int (14 : Int32)), .val (.ref b1), .unset] [(.int (0 : Int32))])) _
    refine XS.istoreN X1.here hx rfl (hb hby d1_5) rfl (l' := #[.val (.int (14 : Int32)), .val (.ref b1), .val (.int (0 : Int32))]) rfl ?_
    show Steps p.tables e below (T1.setTop (mkF m 6 #[.val (.int (14 : Int32)), .val (.ref b1), .val (.int (0 : Int32))] [])) _
    refine XS.iloadN X1.here hx rfl (hb hby d1_6) rfl ?_
    show Steps p.tables e below (T1.setTop (mkF m 7 #[.val (.int (14 : Int32)), .val (.ref b1), .val (.int (0 : Int32))] [(.int (0 : Int32))])) _
    refine XS.iloadN X1.here hx rfl (hb hby d1_7) rfl ?_
    show Steps p.tables e below (T1.setTop (mkF m 8 #[.val (.int (14 : Int32)), .val (.ref b1), .val (.int (0 : Int32))] [(.int (14 : Int32)), (.int (0 : Int32))])) _
    refine XS.icmpNo X1.here hx rfl (hb hby d1_8) rfl (tlt (by decide : (0 : Int32) < (14 : Int32))).2.1 ?_
    show Steps p.tables e below (T1.setTop (mkF m 11 #[.val (.int (14 : Int32)), .val (.ref b1), .val (.int (0 : Int32))] [])) _
    refine XS.aloadN X1.here hx rfl (hb hby d1_11) rfl rfl ?_
    show Steps p.tables e below (T1.setTop (mkF m 12 #[.val (.int (14 : Int32)), .val (.ref b1), .val (.int (0 : Int32))] [(.ref b1)])) _
    refine XS.iloadN X1.here hx rfl (hb hby d1_12) rfl ?_
    show Steps p.tables e below (T1.setTop (mkF m 13 #[.val (.int (14 : Int32)), .val (.ref b1), .val (.int (0 : Int32))] [(.int (0 : Int32)), (.ref b1)])) _
    refine XS.iloadN X1.here hx rfl (hb hby d1_13) rfl ?_
    show Steps p.tables e below (T1.setTop (mkF m 14 #[.val (.int (14 : Int32)), .val (.ref b1), .val (.int (0 : Int32))] [(.int (0 : Int32)), (.int (0 : Int32)), (.ref b1)])) _
    refine st6 _ ?_
    show Steps p.tables e below (T6.setTop (mkF m 15 #[.val (.int (14 : Int32)), .val (.ref b1), .val (.int (0 : Int32))] [])) _
    refine XS.iinc X6.here hx rfl (hb hby d1_15) rfl (l' := #[.val (.int (14 : Int32)), .val (.ref b1), .val (.int (1 : Int32))]) rfl ?_
    show Steps p.tables e below (T6.setTop (mkF m 18 #[.val (.int (14 : Int32)), .val (.ref b1), .val (.int (1 : Int32))] [])) _
    refine XS.goto X6.here hx rfl (pc0 := 18) (pc' := 6) rfl (hb hby d1_18) (by decide) (by decide) ?_
    show Steps p.tables e below (T6.setTop (mkF m 6 #[.val (.int (14 : Int32)), .val (.ref b1), .val (.int (1 : Int32))] [])) _
    refine XS.iloadN X6.here hx rfl (hb hby d1_6) rfl ?_
    show Steps p.tables e below (T6.setTop (mkF m 7 #[.val (.int (14 : Int32)), .val (.ref b1), .val (.int (1 : Int32))] [(.int (1 : Int32))])) _
    refine XS.iloadN X6.here hx rfl (hb hby d1_7) rfl ?_
    show Steps p.tables e below (T6.setTop (mkF m 8 #[.val (.int (14 : Int32)), .val (.ref b1), .val (.int (1 : Int32))] [(.int (14 : Int32)), (.int (1 : Int32))])) _
    refine XS.icmpNo X6.here hx rfl (hb hby d1_8) rfl (tlt (by decide : (1 : Int32) < (14 : Int32))).2.1 ?_
    show Steps p.tables e below (T6.setTop (mkF m 11 #[.val (.int (14 : Int32)), .val (.ref b1), .val (.int (1 : Int32))] [])) _
    refine XS.aloadN X6.here hx rfl (hb hby d1_11) rfl rfl ?_
    show Steps p.tables e below (T6.setTop (mkF m 12 #[.val (.int (14 : Int32)), .val (.ref b1), .val (.int (1 : Int32))] [(.ref b1)])) _
    refine XS.iloadN X6.here hx rfl (hb hby d1_12) rfl ?_
    show Steps p.tables e below (T6.setTop (mkF m 13 #[.val (.int (14 : Int32)), .val (.ref b1), .val (.int (1 : Int32))] [(.int (1 : Int32)), (.ref b1)])) _
    refine XS.iloadN X6.here hx rfl (hb hby d1_13) rfl ?_
    show Steps p.tables e below (T6.setTop (mkF m 14 #[.val (.int (14 : Int32)), .val (.ref b1), .val (.int (1 : Int32))] [(.int (1 : Int32)), (.int (1 : Int32)), (.ref b1)])) _
    refine st13 _ ?_
    show Steps p.tables e below (T13.setTop (mkF m 15 #[.val (.int (14 : Int32)), .val (.ref b1), .val (.int (1 : Int32))] [])) _
    refine XS.iinc X13.here hx rfl (hb hby d1_15) rfl (l' := #[.val (.int (14 : Int32)), .val (.ref b1), .val (.int (2 : Int32))]) rfl ?_
    show Steps p.tables e below (T13.setTop (mkF m 18 #[.val (.int (14 : Int32)), .val (.ref b1), .val (.int (2 : Int32))] [])) _
    refine XS.goto X13.here hx rfl (pc0 := 18) (pc' := 6) rfl (hb hby d1_18) (by decide) (by decide) ?_
    show Steps p.tables e below (T13.setTop (mkF m 6 #[.val (.int (14 : Int32)), .val (.ref b1), .val (.int (2 : Int32))] [])) _
    refine XS.iloadN X13.here hx rfl (hb hby d1_6) rfl ?_
    show Steps p.tables e below (T13.setTop (mkF m 7 #[.val (.int (14 : Int32)), .val (.ref b1), .val (.int (2 : Int32))] [(.int (2 : Int32))])) _
    refine XS.iloadN X13.here hx rfl (hb hby d1_7) rfl ?_
    show Steps p.tables e below (T13.setTop (mkF m 8 #[.val (.int (14 : Int32)), .val (.ref b1), .val (.int (2 : Int32))] [(.int (14 : Int32)), (.int (2 : Int32))])) _
    refine XS.icmpNo X13.here hx rfl (hb hby d1_8) rfl (tlt (by decide : (2 : Int32) < (14 : Int32))).2.1 ?_
    show Steps p.tables e below (T13.setTop (mkF m 11 #[.val (.int (14 : Int32)), .val (.ref b1), .val (.int (2 : Int32))] [])) _
    refine XS.aloadN X13.here hx rfl (hb hby d1_11) rfl rfl ?_
    show Steps p.tables e below (T13.setTop (mkF m 12 #[.val (.int (14 : Int32)), .val (.ref b1), .val (.int (2 : Int32))] [(.ref b1)])) _
    refine XS.iloadN X13.here hx rfl (hb hby d1_12) rfl ?_
    show Steps p.tables e below (T13.setTop (mkF m 13 #[.val (.int (14 : Int32)), .val (.ref b1), .val (.int (2 : Int32))] [(.int (2 : Int32)), (.ref b1)])) _
    refine XS.iloadN X13.here hx rfl (hb hby d1_13) rfl ?_
    show Steps p.tables e below (T13.setTop (mkF m 14 #[.val (.int (14 : Int32)), .val (.ref b1), .val (.int (2 : Int32))] [(.int (2 : Int32)), (.int (2 : Int32)), (.ref b1)])) _
    refine st20 _ ?_
    show Steps p.tables e below (T20.setTop (mkF m 15 #[.val (.int (14 : Int32)), .val (.ref b1), .val (.int (2 : Int32))] [])) _
    refine XS.iinc X20.here hx rfl (hb hby d1_15) rfl (l' := #[.val (.int (14 : Int32)), .val (.ref b1), .val (.int (3 : Int32))]) rfl ?_
    show Steps p.tables e below (T20.setTop (mkF m 18 #[.val (.int (14 : Int32)), .val (.ref b1), .val (.int (3 : Int32))] [])) _
    refine XS.goto X20.here hx rfl (pc0 := 18) (pc' := 6) rfl (hb hby d1_18) (by decide) (by decide) ?_
    show Steps p.tables e below (T20.setTop (mkF m 6 #[.val (.int (14 : Int32)), .val (.ref b1), .val (.int (3 : Int32))] [])) _
    refine XS.iloadN X20.here hx rfl (hb hby d1_6) rfl ?_
    show Steps p.tables e below (T20.setTop (mkF m 7 #[.val (.int (14 : Int32)), .val (.ref b1), .val (.int (3 : Int32))] [(.int (3 : Int32))])) _
    refine XS.iloadN X20.here hx rfl (hb hby d1_7) rfl ?_
    show Steps p.tables e below (T20.setTop (mkF m 8 #[.val (.int (14 : Int32)), .val (.ref b1), .val (.int (3 : Int32))] [(.int (14 : Int32)), (.int (3 : Int32))])) _
    refine XS.icmpNo X20.here hx rfl (hb hby d1_8) rfl (tlt (by decide : (3 : Int32) < (14 : Int32))).2.1 ?_
    show Steps p.tables e below (T20.setTop (mkF m 11 #[.val (.int (14 : Int32)), .val (.ref b1), .val (.int (3 : Int32))] [])) _
    refine XS.aloadN X20.here hx rfl (hb hby d1_11) rfl rfl ?_
    show Steps p.tables e below (T20.setTop (mkF m 12 #[.val (.int (14 : Int32)), .val (.ref b1), .val (.int (3 : Int32))] [(.ref b1)])) _
    refine XS.iloadN X20.here hx rfl (hb hby d1_12) rfl ?_
    show Steps p.tables e below (T20.setTop (mkF m 13 #[.val (.int (14 : Int32)), .val (.ref b1), .val (.int (3 : Int32))] [(.int (3 : Int32)), (.ref b1)])) _
    refine XS.iloadN X20.here hx rfl (hb hby d1_13) rfl ?_
    show Steps p.tables e below (T20.setTop (mkF m 14 #[.val (.int (14 : Int32)), .val (.ref b1), .val (.int (3 : Int32))] [(.int (3 : Int32)), (.int (3 : Int32)), (.ref b1)])) _
    refine st27 _ ?_
    show Steps p.tables e below (T27.setTop (mkF m 15 #[.val (.int (14 : Int32)), .val (.ref b1), .val (.int (3 : Int32))] [])) _
    refine XS.iinc X27.here hx rfl (hb hby d1_15) rfl (l' := #[.val (.int (14 : Int32)), .val (.ref b1), .val (.int (4 : Int32))]) rfl ?_
    show Steps p.tables e below (T27.setTop (mkF m 18 #[.val (.int (14 : Int32)), .val (.ref b1), .val (.int (4 : Int32))] [])) _
    refine XS.goto X27.here hx rfl (pc0 := 18) (pc' := 6) rfl (hb hby d1_18) (by decide) (by decide) ?_
    show Steps p.tables e below (T27.setTop (mkF m 6 #[.val (.int (14 : Int32)), .val (.ref b1), .val (.int (4 : Int32))] [])) _
    refine XS.iloadN X27.here hx rfl (hb hby d1_6) rfl ?_
    show Steps p.tables e below (T27.setTop (mkF m 7 #[.val (.int (14 : Int32)), .val (.ref b1), .val (.int (4 : Int32))] [(.int (4 : Int32))])) _
    refine XS.iloadN X27.here hx rfl (hb hby d1_7) rfl ?_
    show Steps p.tables e below (T27.setTop (mkF m 8 #[.val (.int (14 : Int32)), .val (.ref b1), .val (.int (4 : Int32))] [(.int (14 : Int32)), (.int (4 : Int32))])) _
    refine XS.icmpNo X27.here hx rfl (hb hby d1_8) rfl (tlt (by decide : (4 : Int32) < (14 : Int32))).2.1 ?_
    show Steps p.tables e below (T27.setTop (mkF m 11 #[.val (.int (14 : Int32)), .val (.ref b1), .val (.int (4 : Int32))] [])) _
    refine XS.aloadN X27.here hx rfl (hb hby d1_11) rfl rfl ?_
    show Steps p.tables e below (T27.setTop (mkF m 12 #[.val (.int (14 : Int32)), .val (.ref b1), .val (.int (4 : Int32))] [(.ref b1)])) _
    refine XS.iloadN X27.here hx rfl (hb hby d1_12) rfl ?_
    show Steps p.tables e below (T27.setTop (mkF m 13 #[.val (.int (14 : Int32)), .val (.ref b1), .val (.int (4 : Int32))] [(.int (4 : Int32)), (.ref b1)])) _
    refine XS.iloadN X27.here hx rfl (hb hby d1_13) rfl ?_
    show Steps p.tables e below (T27.setTop (mkF m 14 #[.val (.int (14 : Int32)), .val (.ref b1), .val (.int (4 : Int32))] [(.int (4 : Int32)), (.int (4 : Int32)), (.ref b1)])) _
    refine st34 _ ?_
    show Steps p.tables e below (T34.setTop (mkF m 15 #[.val (.int (14 : Int32)), .val (.ref b1), .val (.int (4 : Int32))] [])) _
    refine XS.iinc X34.here hx rfl (hb hby d1_15) rfl (l' := #[.val (.int (14 : Int32)), .val (.ref b1), .val (.int (5 : Int32))]) rfl ?_
    show Steps p.tables e below (T34.setTop (mkF m 18 #[.val (.int (14 : Int32)), .val (.ref b1), .val (.int (5 : Int32))] [])) _
    refine XS.goto X34.here hx rfl (pc0 := 18) (pc' := 6) rfl (hb hby d1_18) (by decide) (by decide) ?_
    show Steps p.tables e below (T34.setTop (mkF m 6 #[.val (.int (14 : Int32)), .val (.ref b1), .val (.int (5 : Int32))] [])) _
    refine XS.iloadN X34.here hx rfl (hb hby d1_6) rfl ?_
    show Steps p.tables e below (T34.setTop (mkF m 7 #[.val (.int (14 : Int32)), .val (.ref b1), .val (.int (5 : Int32))] [(.int (5 : Int32))])) _
    refine XS.iloadN X34.here hx rfl (hb hby d1_7) rfl ?_
    show Steps p.tables e below (T34.setTop (mkF m 8 #[.val (.int (14 : Int32)), .val (.ref b1), .val (.int (5 : Int32))] [(.int (14 : Int32)), (.int (5 : Int32))])) _
    refine XS.icmpNo X34.here hx rfl (hb hby d1_8) rfl (tlt (by decide : (5 : Int32) < (14 : Int32))).2.1 ?_
    show Steps p.tables e below (T34.setTop (mkF m 11 #[.val (.int (14 : Int32)), .val (.ref b1), .val (.int (5 : Int32))] [])) _
    refine XS.aloadN X34.here hx rfl (hb hby d1_11) rfl rfl ?_
    show Steps p.tables e below (T34.setTop (mkF m 12 #[.val (.int (14 : Int32)), .val (.ref b1), .val (.int (5 : Int32))] [(.ref b1)])) _
    refine XS.iloadN X34.here hx rfl (hb hby d1_12) rfl ?_
    show Steps p.tables e below (T34.setTop (mkF m 13 #[.val (.int (14 : Int32)), .val (.ref b1), .val (.int (5 : Int32))] [(.int (5 : Int32)), (.ref b1)])) _
    refine XS.iloadN X34.here hx rfl (hb hby d1_13) rfl ?_
    show Steps p.tables e below (T34.setTop (mkF m 14 #[.val (.int (14 : Int32)), .val (.ref b1), .val (.int (5 : Int32))] [(.int (5 : Int32)), (.int (5 : Int32)), (.ref b1)])) _
    refine st41 _ ?_
    show Steps p.tables e below (T41.setTop (mkF m 15 #[.val (.int (14 : Int32)), .val (.ref b1), .val (.int (5 : Int32))] [])) _
    refine XS.iinc X41.here hx rfl (hb hby d1_15) rfl (l' := #[.val (.int (14 : Int32)), .val (.ref b1), .val (.int (6 : Int32))]) rfl ?_
    show Steps p.tables e below (T41.setTop (mkF m 18 #[.val (.int (14 : Int32)), .val (.ref b1), .val (.int (6 : Int32))] [])) _
    refine XS.goto X41.here hx rfl (pc0 := 18) (pc' := 6) rfl (hb hby d1_18) (by decide) (by decide) ?_
    show Steps p.tables e below (T41.setTop (mkF m 6 #[.val (.int (14 : Int32)), .val (.ref b1), .val (.int (6 : Int32))] [])) _
    refine XS.iloadN X41.here hx rfl (hb hby d1_6) rfl ?_
    show Steps p.tables e below (T41.setTop (mkF m 7 #[.val (.int (14 : Int32)), .val (.ref b1), .val (.int (6 : Int32))] [(.int (6 : Int32))])) _
    refine XS.iloadN X41.here hx rfl (hb hby d1_7) rfl ?_
    show Steps p.tables e below (T41.setTop (mkF m 8 #[.val (.int (14 : Int32)), .val (.ref b1), .val (.int (6 : Int32))] [(.int (14 : Int32)), (.int (6 : Int32))])) _
    refine XS.icmpNo X41.here hx rfl (hb hby d1_8) rfl (tlt (by decide : (6 : Int32) < (14 : Int32))).2.1 ?_
    show Steps p.tables e below (T41.setTop (mkF m 11 #[.val (.int (14 : Int32)), .val (.ref b1), .val (.int (6 : Int32))] [])) _
    refine XS.aloadN X41.here hx rfl (hb hby d1_11) rfl rfl ?_
    show Steps p.tables e below (T41.setTop (mkF m 12 #[.val (.int (14 : Int32)), .val (.ref b1), .val (.int (6 : Int32))] [(.ref b1)])) _
    refine XS.iloadN X41.here hx rfl (hb hby d1_12) rfl ?_
    show Steps p.tables e below (T41.setTop (mkF m 13 #[.val (.int (14 : Int32)), .val (.ref b1), .val (.int (6 : Int32))] [(.int (6 : Int32)), (.ref b1)])) _
    refine XS.iloadN X41.here hx rfl (hb hby d1_13) rfl ?_
    show Steps p.tables e below (T41.setTop (mkF m 14 #[.val (.int (14 : Int32)), .val (.ref b1), .val (.int (6 : Int32))] [(.int (6 : Int32)), (.int (6 : Int32)), (.ref b1)])) _
    refine st48 _ ?_
    show Steps p.tables e below (T48.setTop (mkF m 15 #[.val (.int (14 : Int32)), .val (.ref b1), .val (.int (6 : Int32))] [])) _
    refine XS.iinc X48.here hx rfl (hb hby d1_15) rfl (l' := #[.val (.int (14 : Int32)), .val (.ref b1), .val (.int (7 : Int32))]) rfl ?_
    show Steps p.tables e below (T48.setTop (mkF m 18 #[.val (.int (14 : Int32)), .val (.ref b1), .val (.int (7 : Int32))] [])) _
    refine XS.goto X48.here hx rfl (pc0 := 18) (pc' := 6) rfl (hb hby d1_18) (by decide) (by decide) ?_
    show Steps p.tables e below (T48.setTop (mkF m 6 #[.val (.int (14 : Int32)), .val (.ref b1), .val (.int (7 : Int32))] [])) _
    refine XS.iloadN X48.here hx rfl (hb hby d1_6) rfl ?_
    show Steps p.tables e below (T48.setTop (mkF m 7 #[.val (.int (14 : Int32)), .val (.ref b1), .val (.int (7 : Int32))] [(.int (7 : Int32))])) _
    refine XS.iloadN X48.here hx rfl (hb hby d1_7) rfl ?_
    show Steps p.tables e below (T48.setTop (mkF m 8 #[.val (.int (14 : Int32)), .val (.ref b1), .val (.int (7 : Int32))] [(.int (14 : Int32)), (.int (7 : Int32))])) _
    refine XS.icmpNo X48.here hx rfl (hb hby d1_8) rfl (tlt (by decide : (7 : Int32) < (14 : Int32))).2.1 ?_
    show Steps p.tables e below (T48.setTop (mkF m 11 #[.val (.int (14 : Int32)), .val (.ref b1), .val (.int (7 : Int32))] [])) _
    refine XS.aloadN X48.here hx rfl (hb hby d1_11) rfl rfl ?_
    show Steps p.tables e below (T48.setTop (mkF m 12 #[.val (.int (14 : Int32)), .val (.ref b1), .val (.int (7 : Int32))] [(.ref b1)])) _
    refine XS.iloadN X48.here hx rfl (hb hby d1_12) rfl ?_
    show Steps p.tables e below (T48.setTop (mkF m 13 #[.val (.int (14 : Int32)), .val (.ref b1), .val (.int (7 : Int32))] [(.int (7 : Int32)), (.ref b1)])) _
    refine XS.iloadN X48.here hx rfl (hb hby d1_13) rfl ?_
    show Steps p.tables e below (T48.setTop (mkF m 14 #[.val (.int (14 : Int32)), .val (.ref b1), .val (.int (7 : Int32))] [(.int (7 : Int32)), (.int (7 : Int32)), (.ref b1)])) _
    refine st55 _ ?_
    show Steps p.tables e below (T55.setTop (mkF m 15 #[.val (.int (14 : Int32)), .val (.ref b1), .val (.int (7 : Int32))] [])) _
    refine XS.iinc X55.here hx rfl (hb hby d1_15) rfl (l' := #[.val (.int (14 : Int32)), .val (.ref b1), .val (.int (8 : Int32))]) rfl ?_
    show Steps p.tables e below (T55.setTop (mkF m 18 #[.val (.int (14 : Int32)), .val (.ref b1), .val (.int (8 : Int32))] [])) _
    refine XS.goto X55.here hx rfl (pc0 := 18) (pc' := 6) rfl (hb hby d1_18) (by decide) (by decide) ?_
    show Steps p.tables e below (T55.setTop (mkF m 6 #[.val (.int (14 : Int32)), .val (.ref b1), .val (.int (8 : Int32))] [])) _
    refine XS.iloadN X55.here hx rfl (hb hby d1_6) rfl ?_
    show Steps p.tables e below (T55.setTop (mkF m 7 #[.val (.int (14 : Int32)), .val (.ref b1), .val (.int (8 : Int32))] [(.int (8 : Int32))])) _
    refine XS.iloadN X55.here hx rfl (hb hby d1_7) rfl ?_
    show Steps p.tables e below (T55.setTop (mkF m 8 #[.val (.int (14 : Int32)), .val (.ref b1), .val (.int (8 : Int32))] [(.int (14 : Int32)), (.int (8 : Int32))])) _
    refine XS.icmpNo X55.here hx rfl (hb hby d1_8) rfl (tlt (by decide : (8 : Int32) < (14 : Int32))).2.1 ?_
    show Steps p.tables e below (T55.setTop (mkF m 11 #[.val (.int (14 : Int32)), .val (.ref b1), .val (.int (8 : Int32))] [])) _
    refine XS.aloadN X55.here hx rfl (hb hby d1_11) rfl rfl ?_
    show Steps p.tables e below (T55.setTop (mkF m 12 #[.val (.int (14 : Int32)), .val (.ref b1), .val (.int (8 : Int32))] [(.ref b1)])) _
    refine XS.iloadN X55.here hx rfl (hb hby d1_12) rfl ?_
    show Steps p.tables e below (T55.setTop (mkF m 13 #[.val (.int (14 : Int32)), .val (.ref b1), .val (.int (8 : Int32))] [(.int (8 : Int32)), (.ref b1)])) _
    refine XS.iloadN X55.here hx rfl (hb hby d1_13) rfl ?_
    show Steps p.tables e below (T55.setTop (mkF m 14 #[.val (.int (14 : Int32)), .val (.ref b1), .val (.int (8 : Int32))] [(.int (8 : Int32)), (.int (8 : Int32)), (.ref b1)])) _
    refine st62 _ ?_
    show Steps p.tables e below (T62.setTop (mkF m 15 #[.val (.int (14 : Int32)), .val (.ref b1), .val (.int (8 : Int32))] [])) _
    refine XS.iinc X62.here hx rfl (hb hby d1_15) rfl (l' := #[.val (.int (14 : Int32)), .val (.ref b1), .val (.int (9 : Int32))]) rfl ?_
    show Steps p.tables e below (T62.setTop (mkF m 18 #[.val (.int (14 : Int32)), .val (.ref b1), .val (.int (9 : Int32))] [])) _
    refine XS.goto X62.here hx rfl (pc0 := 18) (pc' := 6) rfl (hb hby d1_18) (by decide) (by decide) ?_
    show Steps p.tables e below (T62.setTop (mkF m 6 #[.val (.int (14 : Int32)), .val (.ref b1), .val (.int (9 : Int32))] [])) _
    refine XS.iloadN X62.here hx rfl (hb hby d1_6) rfl ?_
    show Steps p.tables e below (T62.setTop (mkF m 7 #[.val (.int (14 : Int32)), .val (.ref b1), .val (.int (9 : Int32))] [(.int (9 : Int32))])) _
    refine XS.iloadN X62.here hx rfl (hb hby d1_7) rfl ?_
    show Steps p.tables e below (T62.setTop (mkF m 8 #[.val (.int (14 : Int32)), .val (.ref b1), .val (.int (9 : Int32))] [(.int (14 : Int32)), (.int (9 : Int32))])) _
    refine XS.icmpNo X62.here hx rfl (hb hby d1_8) rfl (tlt (by decide : (9 : Int32) < (14 : Int32))).2.1 ?_
    show Steps p.tables e below (T62.setTop (mkF m 11 #[.val (.int (14 : Int32)), .val (.ref b1), .val (.int (9 : Int32))] [])) _
    refine XS.aloadN X62.here hx rfl (hb hby d1_11) rfl rfl ?_
    show Steps p.tables e below (T62.setTop (mkF m 12 #[.val (.int (14 : Int32)), .val (.ref b1), .val (.int (9 : Int32))] [(.ref b1)])) _
    refine XS.iloadN X62.here hx rfl (hb hby d1_12) rfl ?_
    show Steps p.tables e below (T62.setTop (mkF m 13 #[.val (.int (14 : Int32)), .val (.ref b1), .val (.int (9 : Int32))] [(.int (9 : Int32)), (.ref b1)])) _
    refine XS.iloadN X62.here hx rfl (hb hby d1_13) rfl ?_
    show Steps p.tables e below (T62.setTop (mkF m 14 #[.val (.int (14 : Int32)), .val (.ref b1), .val (.int (9 : Int32))] [(.int (9 : Int32)), (.int (9 : Int32)), (.ref b1)])) _
    refine st69 _ ?_
    show Steps p.tables e below (T69.setTop (mkF m 15 #[.val (.int (14 : Int32)), .val (.ref b1), .val (.int (9 : Int32))] [])) _
    refine XS.iinc X69.here hx rfl (hb hby d1_15) rfl (l' := #[.val (.int (14 : Int32)), .val (.ref b1), .val (.int (10 : Int32))]) rfl ?_
    show Steps p.tables e below (T69.setTop (mkF m 18 #[.val (.int (14 : Int32)), .val (.ref b1), .val (.int (10 : Int32))] [])) _
    refine XS.goto X69.here hx rfl (pc0 := 18) (pc' := 6) rfl (hb hby d1_18) (by decide) (by decide) ?_
    show Steps p.tables e below (T69.setTop (mkF m 6 #[.val (.int (14 : Int32)), .val (.ref b1), .val (.int (10 : Int32))] [])) _
    refine XS.iloadN X69.here hx rfl (hb hby d1_6) rfl ?_
    show Steps p.tables e below (T69.setTop (mkF m 7 #[.val (.int (14 : Int32)), .val (.ref b1), .val (.int (10 : Int32))] [(.int (10 : Int32))])) _
    refine XS.iloadN X69.here hx rfl (hb hby d1_7) rfl ?_
    show Steps p.tables e below (T69.setTop (mkF m 8 #[.val (.int (14 : Int32)), .val (.ref b1), .val (.int (10 : Int32))] [(.int (14 : Int32)), (.int (10 : Int32))])) _
    refine XS.icmpNo X69.here hx rfl (hb hby d1_8) rfl (tlt (by decide : (10 : Int32) < (14 : Int32))).2.1 ?_
    show Steps p.tables e below (T69.setTop (mkF m 11 #[.val (.int (14 : Int32)), .val (.ref b1), .val (.int (10 : Int32))] [])) _
    refine XS.aloadN X69.here hx rfl (hb hby d1_11) rfl rfl ?_
    show Steps p.tables e below (T69.setTop (mkF m 12 #[.val (.int (14 : Int32)), .val (.ref b1), .val (.int (10 : Int32))] [(.ref b1)])) _
    refine XS.iloadN X69.here hx rfl (hb hby d1_12) rfl ?_
    show Steps p.tables e below (T69.setTop (mkF m 13 #[.val (.int (14 : Int32)), .val (.ref b1), .val (.int (10 : Int32))] [(.int (10 : Int32)), (.ref b1)])) _
    refine XS.iloadN X69.here hx rfl (hb hby d1_13) rfl ?_
    show Steps p.tables e below (T69.setTop (mkF m 14 #[.val (.int (14 : Int32)), .val (.ref b1), .val (.int (10 : Int32))] [(.int (10 : Int32)), (.int (10 : Int32)), (.ref b1)])) _
    refine st76 _ ?_
    show Steps p.tables e below (T76.setTop (mkF m 15 #[.val (.int (14 : Int32)), .val (.ref b1), .val (.int (10 : Int32))] [])) _
    refine XS.iinc X76.here hx rfl (hb hby d1_15) rfl (l' := #[.val (.int (14 : Int32)), .val (.ref b1), .val (.int (11 : Int32))]) rfl ?_
    show Steps p.tables e below (T76.setTop (mkF m 18 #[.val (.int (14 : Int32)), .val (.ref b1), .val (.int (11 : Int32))] [])) _
    refine XS.goto X76.here hx rfl (pc0 := 18) (pc' := 6) rfl (hb hby d1_18) (by decide) (by decide) ?_
    show Steps p.tables e below (T76.setTop (mkF m 6 #[.val (.int (14 : Int32)), .val (.ref b1), .val (.int (11 : Int32))] [])) _
    refine XS.iloadN X76.here hx rfl (hb hby d1_6) rfl ?_
    show Steps p.tables e below (T76.setTop (mkF m 7 #[.val (.int (14 : Int32)), .val (.ref b1), .val (.int (11 : Int32))] [(.int (11 : Int32))])) _
    refine XS.iloadN X76.here hx rfl (hb hby d1_7) rfl ?_
    show Steps p.tables e below (T76.setTop (mkF m 8 #[.val (.int (14 : Int32)), .val (.ref b1), .val (.int (11 : Int32))] [(.int (14 : Int32)), (.int (11 : Int32))])) _
    refine XS.icmpNo X76.here hx rfl (hb hby d1_8) rfl (tlt (by decide : (11 : Int32) < (14 : Int32))).2.1 ?_
    show Steps p.tables e below (T76.setTop (mkF m 11 #[.val (.int (14 : Int32)), .val (.ref b1), .val (.int (11 : Int32))] [])) _
    refine XS.aloadN X76.here hx rfl (hb hby d1_11) rfl rfl ?_
    show Steps p.tables e below (T76.setTop (mkF m 12 #[.val (.int (14 : Int32)), .val (.ref b1), .val (.int (11 : Int32))] [(.ref b1)])) _
    refine XS.iloadN X76.here hx rfl (hb hby d1_12) rfl ?_
    show Steps p.tables e below (T76.setTop (mkF m 13 #[.val (.int (14 : Int32)), .val (.ref b1), .val (.int (11 : Int32))] [(.int (11 : Int32)), (.ref b1)])) _
    refine XS.iloadN X76.here hx rfl (hb hby d1_13) rfl ?_
    show Steps p.tables e below (T76.setTop (mkF m 14 #[.val (.int (14 : Int32)), .val (.ref b1), .val (.int (11 : Int32))] [(.int (11 : Int32)), (.int (11 : Int32)), (.ref b1)])) _
    refine st83 _ ?_
    show Steps p.tables e below (T83.setTop (mkF m 15 #[.val (.int (14 : Int32)), .val (.ref b1), .val (.int (11 : Int32))] [])) _
    refine XS.iinc X83.here hx rfl (hb hby d1_15) rfl (l' := #[.val (.int (14 : Int32)), .val (.ref b1), .val (.int (12 : Int32))]) rfl ?_
    show Steps p.tables e below (T83.setTop (mkF m 18 #[.val (.int (14 : Int32)), .val (.ref b1), .val (.int (12 : Int32))] [])) _
    refine XS.goto X83.here hx rfl (pc0 := 18) (pc' := 6) rfl (hb hby d1_18) (by decide) (by decide) ?_
    show Steps p.tables e below (T83.setTop (mkF m 6 #[.val (.int (14 : Int32)), .val (.ref b1), .val (.int (12 : Int32))] [])) _
    refine XS.iloadN X83.here hx rfl (hb hby d1_6) rfl ?_
    show Steps p.tables e below (T83.setTop (mkF m 7 #[.val (.int (14 : Int32)), .val (.ref b1), .val (.int (12 : Int32))] [(.int (12 : Int32))])) _
    refine XS.iloadN X83.here hx rfl (hb hby d1_7) rfl ?_
    show Steps p.tables e below (T83.setTop (mkF m 8 #[.val (.int (14 : Int32)), .val (.ref b1), .val (.int (12 : Int32))] [(.int (14 : Int32)), (.int (12 : Int32))])) _
    refine XS.icmpNo X83.here hx rfl (hb hby d1_8) rfl (tlt (by decide : (12 : Int32) < (14 : Int32))).2.1 ?_
    show Steps p.tables e below (T83.setTop (mkF m 11 #[.val (.int (14 : Int32)), .val (.ref b1), .val (.int (12 : Int32))] [])) _
    refine XS.aloadN X83.here hx rfl (hb hby d1_11) rfl rfl ?_
    show Steps p.tables e below (T83.setTop (mkF m 12 #[.val (.int (14 : Int32)), .val (.ref b1), .val (.int (12 : Int32))] [(.ref b1)])) _
    refine XS.iloadN X83.here hx rfl (hb hby d1_12) rfl ?_
    show Steps p.tables e below (T83.setTop (mkF m 13 #[.val (.int (14 : Int32)), .val (.ref b1), .val (.int (12 : Int32))] [(.int (12 : Int32)), (.ref b1)])) _
    refine XS.iloadN X83.here hx rfl (hb hby d1_13) rfl ?_
    show Steps p.tables e below (T83.setTop (mkF m 14 #[.val (.int (14 : Int32)), .val (.ref b1), .val (.int (12 : Int32))] [(.int (12 : Int32)), (.int (12 : Int32)), (.ref b1)])) _
    refine st90 _ ?_
    show Steps p.tables e below (T90.setTop (mkF m 15 #[.val (.int (14 : Int32)), .val (.ref b1), .val (.int (12 : Int32))] [])) _
    refine XS.iinc X90.here hx rfl (hb hby d1_15) rfl (l' := #[.val (.int (14 : Int32)), .val (.ref b1), .val (.int (13 : Int32))]) rfl ?_
    show Steps p.tables e below (T90.setTop (mkF m 18 #[.val (.int (14 : Int32)), .val (.ref b1), .val (.int (13 : Int32))] [])) _
    refine XS.goto X90.here hx rfl (pc0 := 18) (pc' := 6) rfl (hb hby d1_18) (by decide) (by decide) ?_
    show Steps p.tables e below (T90.setTop (mkF m 6 #[.val (.int (14 : Int32)), .val (.ref b1), .val (.int (13 : Int32))] [])) _
    refine XS.iloadN X90.here hx rfl (hb hby d1_6) rfl ?_
    show Steps p.tables e below (T90.setTop (mkF m 7 #[.val (.int (14 : Int32)), .val (.ref b1), .val (.int (13 : Int32))] [(.int (13 : Int32))])) _
    refine XS.iloadN X90.here hx rfl (hb hby d1_7) rfl ?_
    show Steps p.tables e below (T90.setTop (mkF m 8 #[.val (.int (14 : Int32)), .val (.ref b1), .val (.int (13 : Int32))] [(.int (14 : Int32)), (.int (13 : Int32))])) _
    refine XS.icmpNo X90.here hx rfl (hb hby d1_8) rfl (tlt (by decide : (13 : Int32) < (14 : Int32))).2.1 ?_
    show Steps p.tables e below (T90.setTop (mkF m 11 #[.val (.int (14 : Int32)), .val (.ref b1), .val (.int (13 : Int32))] [])) _
    refine XS.aloadN X90.here hx rfl (hb hby d1_11) rfl rfl ?_
    show Steps p.tables e below (T90.setTop (mkF m 12 #[.val (.int (14 : Int32)), .val (.ref b1), .val (.int (13 : Int32))] [(.ref b1)])) _
    refine XS.iloadN X90.here hx rfl (hb hby d1_12) rfl ?_
    show Steps p.tables e below (T90.setTop (mkF m 13 #[.val (.int (14 : Int32)), .val (.ref b1), .val (.int (13 : Int32))] [(.int (13 : Int32)), (.ref b1)])) _
    refine XS.iloadN X90.here hx rfl (hb hby d1_13) rfl ?_
    show Steps p.tables e below (T90.setTop (mkF m 14 #[.val (.int (14 : Int32)), .val (.ref b1), .val (.int (13 : Int32))] [(.int (13 : Int32)), (.int (13 : Int32)), (.ref b1)])) _
    refine st97 _ ?_
    show Steps p.tables e below (T97.setTop (mkF m 15 #[.val (.int (14 : Int32)), .val (.ref b1), .val (.int (13 : Int32))] [])) _
    refine XS.iinc X97.here hx rfl (hb hby d1_15) rfl (l' := #[.val (.int (14 : Int32)), .val (.ref b1), .val (.int (14 : Int32))]) rfl ?_
    show Steps p.tables e below (T97.setTop (mkF m 18 #[.val (.int (14 : Int32)), .val (.ref b1), .val (.int (14 : Int32))] [])) _
    refine XS.goto X97.here hx rfl (pc0 := 18) (pc' := 6) rfl (hb hby d1_18) (by decide) (by decide) ?_
    show Steps p.tables e below (T97.setTop (mkF m 6 #[.val (.int (14 : Int32)), .val (.ref b1), .val (.int (14 : Int32))] [])) _
    refine XS.iloadN X97.here hx rfl (hb hby d1_6) rfl ?_
    show Steps p.tables e below (T97.setTop (mkF m 7 #[.val (.int (14 : Int32)), .val (.ref b1), .val (.int (14 : Int32))] [(.int (14 : Int32))])) _
    refine XS.iloadN X97.here hx rfl (hb hby d1_7) rfl ?_
    show Steps p.tables e below (T97.setTop (mkF m 8 #[.val (.int (14 : Int32)), .val (.ref b1), .val (.int (14 : Int32))] [(.int (14 : Int32)), (.int (14 : Int32))])) _
    refine XS.icmpYes X97.here hx rfl (pc0 := 8) (pc' := 21) rfl (hb hby d1_8) rfl (flt (by decide : ¬ ((14 : Int32) < (14 : Int32)))).2.1 (by decide) (by decide) ?_
    show Steps p.tables e below (T97.setTop (mkF m 21 #[.val (.int (14 : Int32)), .val (.ref b1), .val (.int (14 : Int32))] [])) _
    refine XS.aloadN X97.here hx rfl (hb hby d1_21) rfl rfl ?_
    show Steps p.tables e below (T97.setTop (mkF m 22 #[.val (.int (14 : Int32)), .val (.ref b1), .val (.int (14 : Int32))] [(.ref b1)])) _
    exact retOut X97 hx (t := (.array .int)) (i := .areturn) Bd.returns rfl (Or.inr (Or.inr (Or.inr (Or.inr ⟨rfl, rfl, rfl⟩)))) (hb hby d1_22) hr
  · show Q_pos14 Z  h0 n0 _ T97.heap _
    rw [e97]
    exact ⟨b1, k1, rfl, N101, g_b1, sz_b1, K100, f99, f103⟩
def Q_pos15 (Z : State)  (h0 : Heap) (n0 : Nat) (v : Option Value) (h : Heap) (L : List Loc) : Prop := ∃ (o1 : Addr), ∃ (ko1 : ClassId), v = some (.ref o1) ∧ Fr n0 L ∧ n0 ≤ o1 ∧ h0.size ≤ o1 ∧ Keep h0 h [] ∧ Exa Z h o1 "[I" ∧ Arv Z h o1 ko1 .int (15 : Int32) own_ids (.int (0 : Int32))
set_option maxRecDepth 65536 in
set_option maxHeartbeats 40000000 in
theorem rm_pos15 (l : Launch) (Z : State) (a0 : Array Value) (hw : ∀ d ∈ tables_1, d.before a0 Z = true) (ws : List Jvm.Cond)  (h0 : Heap) (n0 : Nat) (Z0 : n0 ≤ h0.size) :
    MetFree l (⟨"com/example/trawl/trawl/gen/FisherYates", "positions", "(I)[I"⟩ : MethodName) (head1 (Jvm.Cond.code (⟨"com/example/trawl/trawl/gen/FisherYates", "positions", "(I)[I"⟩ : MethodName) prog_1_method_2_code 3 (some (.array .int)) :: ws) ({ frames := 0, cells := 1, slots := 16, locals := 0 } : Room)) (fun a U => a = #[(.int (15 : Int32))] ∧ Z.Warmed39 U.vm ∧ U.heap = h0) (fun _ _ _ _ _ => True) (fun _ U o U' => ∃ v L, o = .returned v ∧ Q_pos15 Z  h0 n0 v U'.heap L ∧ FrameEnd U o U' L ({ frames := 0, cells := 1, slots := 16, locals := 0 } : Room).cells ({ frames := 0, cells := 1, slots := 16, locals := 0 } : Room).slots) := by
  refine MetFree.of_bodySF (plainFor_of_name pn_com_example_trawl_trawl_gen_FisherYates) hisR ?_
  intro p e s m args below meth c s₁ Bd hml0 hP hK
  obtain ⟨rfl, hZ, hh⟩ := hP
  have hx := Bd.exec
  have hby := Bd.bytes
  have hml : c.maxLocals = 3 := hml0
  have hown : s.vm.findClass "com/example/trawl/trawl/gen/FisherYates" = some m.cls := findClass_of_methodNamed Bd.named
  have hnm := (name_of_methodNamed Bd.named Bd.method).1
  have X0 : Stand p l e ({ frames := 0, cells := 1, slots := 16, locals := 0 } : Room) s m #[(.int (15 : Int32))] below meth c s₁ [] 0 0 := Stand.of_body Bd
  have e0 : s₁.heap = h0 := by rw [← hh, Bd.state]; rfl
  have N0 := Fr.nil n0
  have pre0 : ∀ t, Steps p.tables e below (s₁.setTop (mkF m 0 #[.val (.int (15 : Int32)), .unset, .unset] [])) t → Steps p.tables e below (s₁.setTop (entryFrame m #[(.int (15 : Int32))] 3)) t := fun t k => castTop (ef_1_I m (15 : Int32)) k
  obtain ⟨T1, h1, k1, X1, e1, E1, A1, Ex1, st1⟩ := newPE X0 hx hZ (hw _ (List.mem_of_getElem? (i := 4) rfl)) e0 (g := (mkF m 1 #[.val (.int (15 : Int32)), .unset, .unset] [(.int (15 : Int32))])) rfl (hb hby d1_1) rfl (by decide) (cap := 15) (by decide) (by decide) (by decide) (by decide) (ad := "[I") (by decide)
  obtain ⟨b1, g1⟩ : ∃ z, z = h0.size := ⟨_, rfl⟩
  rw [← g1] at A1 Ex1 st1
  have g_b1 : n0 ≤ b1 := Nat.le_trans Z0 (Nat.le_of_eq g1.symm)
  have sz_b1 : h0.size ≤ b1 := Nat.le_trans (Keep.refl h0 []).1 (Nat.le_of_eq g1.symm)
  have K2 : Keep h0 h1 [] := (Keep.refl h0 []).ext E1
  have Zs3 : n0 ≤ h1.size := Nat.le_trans Z0 E1.1
  have f4 : Arv Z h1 b1 k1 .int (15 : Int32) [(.int (0 : Int32)), (.int (0 : Int32)), (.int (0 : Int32)), (.int (0 : Int32)), (.int (0 : Int32)), (.int (0 : Int32)), (.int (0 : Int32)), (.int (0 : Int32)), (.int (0 : Int32)), (.int (0 : Int32)), (.int (0 : Int32)), (.int (0 : Int32)), (.int (0 : Int32)), (.int (0 : Int32)), (.int (0 : Int32))] (.int (0 : Int32)) := (Arv.new A1 (by decide)).pad (pad_rep [] (.int (0 : Int32)) 15)
  obtain ⟨clo5, Aro5, qo5, So5, No5, Ho5, Go5⟩ := id f4
  have hino5 : ¬ ((0 : Int32) < 0 ∨ clo5.slots.size ≤ ((0 : Int32)).toNatClampNeg) := inb_of So5 ⟨by decide, by decide⟩
  obtain ⟨T6, h6, X6, e6, W6, st6⟩ := stI X1 hx hZ e1 Aro5 (j := (0 : Int32)) hino5 (g := (mkF m 14 #[.val (.int (15 : Int32)), .val (.ref b1), .val (.int (0 : Int32))] [(.int (0 : Int32)), (.int (0 : Int32)), (.ref b1)])) rfl rfl (hb hby d1_14)
  have f7 : Arv Z h6 b1 k1 .int (15 : Int32) [(.int (0 : Int32)), (.int (0 : Int32)), (.int (0 : Int32)), (.int (0 : Int32)), (.int (0 : Int32)), (.int (0 : Int32)), (.int (0 : Int32)), (.int (0 : Int32)), (.int (0 : Int32)), (.int (0 : Int32)), (.int (0 : Int32)), (.int (0 : Int32)), (.int (0 : Int32)), (.int (0 : Int32)), (.int (0 : Int32))] (.int (0 : Int32)) := Arv.set Aro5 qo5 So5 No5 Ho5 Go5 rfl W6 0 rfl (by decide)
  have f8 : Exa Z h6 b1 "[I" := Ex1.wr W6
  have K9 : Keep h0 h6 [] := K2.wr W6 (Or.inr sz_b1)
  have N10 := Fr.snoc X6 N0 g_b1
  have Zs11 : n0 ≤ h6.size := Nat.le_trans Zs3 (Keep.of_wr W6).1
  obtain ⟨clo12, Aro12, qo12, So12, No12, Ho12, Go12⟩ := id f7
  have hino12 : ¬ ((1 : Int32) < 0 ∨ clo12.slots.size ≤ ((1 : Int32)).toNatClampNeg) := inb_of So12 ⟨by decide, by decide⟩
  obtain ⟨T13, h13, X13, e13, W13, st13⟩ := stI X6 hx hZ e6 Aro12 (j := (1 : Int32)) hino12 (g := (mkF m 14 #[.val (.int (15 : Int32)), .val (.ref b1), .val (.int (1 : Int32))] [(.int (1 : Int32)), (.int (1 : Int32)), (.ref b1)])) rfl rfl (hb hby d1_14)
  have f14 : Arv Z h13 b1 k1 .int (15 : Int32) [(.int (0 : Int32)), (.int (1 : Int32)), (.int (0 : Int32)), (.int (0 : Int32)), (.int (0 : Int32)), (.int (0 : Int32)), (.int (0 : Int32)), (.int (0 : Int32)), (.int (0 : Int32)), (.int (0 : Int32)), (.int (0 : Int32)), (.int (0 : Int32)), (.int (0 : Int32)), (.int (0 : Int32)), (.int (0 : Int32))] (.int (0 : Int32)) := Arv.set Aro12 qo12 So12 No12 Ho12 Go12 rfl W13 1 rfl (by decide)
  have f15 : Exa Z h13 b1 "[I" := f8.wr W13
  have K16 : Keep h0 h13 [] := K9.wr W13 (Or.inr sz_b1)
  have N17 := Fr.snoc X13 N10 g_b1
  have Zs18 : n0 ≤ h13.size := Nat.le_trans Zs11 (Keep.of_wr W13).1
  obtain ⟨clo19, Aro19, qo19, So19, No19, Ho19, Go19⟩ := id f14
  have hino19 : ¬ ((2 : Int32) < 0 ∨ clo19.slots.size ≤ ((2 : Int32)).toNatClampNeg) := inb_of So19 ⟨by decide, by decide⟩
  obtain ⟨T20, h20, X20, e20, W20, st20⟩ := stI X13 hx hZ e13 Aro19 (j := (2 : Int32)) hino19 (g := (mkF m 14 #[.val (.int (15 : Int32)), .val (.ref b1), .val (.int (2 : Int32))] [(.int (2 : Int32)), (.int (2 : Int32)), (.ref b1)])) rfl rfl (hb hby d1_14)
  have f21 : Arv Z h20 b1 k1 .int (15 : Int32) [(.int (0 : Int32)), (.int (1 : Int32)), (.int (2 : Int32)), (.int (0 : Int32)), (.int (0 : Int32)), (.int (0 : Int32)), (.int (0 : Int32)), (.int (0 : Int32)), (.int (0 : Int32)), (.int (0 : Int32)), (.int (0 : Int32)), (.int (0 : Int32)), (.int (0 : Int32)), (.int (0 : Int32)), (.int (0 : Int32))] (.int (0 : Int32)) := Arv.set Aro19 qo19 So19 No19 Ho19 Go19 rfl W20 2 rfl (by decide)
  have f22 : Exa Z h20 b1 "[I" := f15.wr W20
  have K23 : Keep h0 h20 [] := K16.wr W20 (Or.inr sz_b1)
  have N24 := Fr.snoc X20 N17 g_b1
  have Zs25 : n0 ≤ h20.size := Nat.le_trans Zs18 (Keep.of_wr W20).1
  obtain ⟨clo26, Aro26, qo26, So26, No26, Ho26, Go26⟩ := id f21
  have hino26 : ¬ ((3 : Int32) < 0 ∨ clo26.slots.size ≤ ((3 : Int32)).toNatClampNeg) := inb_of So26 ⟨by decide, by decide⟩
  obtain ⟨T27, h27, X27, e27, W27, st27⟩ := stI X20 hx hZ e20 Aro26 (j := (3 : Int32)) hino26 (g := (mkF m 14 #[.val (.int (15 : Int32)), .val (.ref b1), .val (.int (3 : Int32))] [(.int (3 : Int32)), (.int (3 : Int32)), (.ref b1)])) rfl rfl (hb hby d1_14)
  have f28 : Arv Z h27 b1 k1 .int (15 : Int32) [(.int (0 : Int32)), (.int (1 : Int32)), (.int (2 : Int32)), (.int (3 : Int32)), (.int (0 : Int32)), (.int (0 : Int32)), (.int (0 : Int32)), (.int (0 : Int32)), (.int (0 : Int32)), (.int (0 : Int32)), (.int (0 : Int32)), (.int (0 : Int32)), (.int (0 : Int32)), (.int (0 : Int32)), (.int (0 : Int32))] (.int (0 : Int32)) := Arv.set Aro26 qo26 So26 No26 Ho26 Go26 rfl W27 3 rfl (by decide)
  have f29 : Exa Z h27 b1 "[I" := f22.wr W27
  have K30 : Keep h0 h27 [] := K23.wr W27 (Or.inr sz_b1)
  have N31 := Fr.snoc X27 N24 g_b1
  have Zs32 : n0 ≤ h27.size := Nat.le_trans Zs25 (Keep.of_wr W27).1
  obtain ⟨clo33, Aro33, qo33, So33, No33, Ho33, Go33⟩ := id f28
  have hino33 : ¬ ((4 : Int32) < 0 ∨ clo33.slots.size ≤ ((4 : Int32)).toNatClampNeg) := inb_of So33 ⟨by decide, by decide⟩
  obtain ⟨T34, h34, X34, e34, W34, st34⟩ := stI X27 hx hZ e27 Aro33 (j := (4 : Int32)) hino33 (g := (mkF m 14 #[.val (.int (15 : Int32)), .val (.ref b1), .val (.int (4 : Int32))] [(.int (4 : Int32)), (.int (4 : Int32)), (.ref b1)])) rfl rfl (hb hby d1_14)
  have f35 : Arv Z h34 b1 k1 .int (15 : Int32) [(.int (0 : Int32)), (.int (1 : Int32)), (.int (2 : Int32)), (.int (3 : Int32)), (.int (4 : Int32)), (.int (0 : Int32)), (.int (0 : Int32)), (.int (0 : Int32)), (.int (0 : Int32)), (.int (0 : Int32)), (.int (0 : Int32)), (.int (0 : Int32)), (.int (0 : Int32)), (.int (0 : Int32)), (.int (0 : Int32))] (.int (0 : Int32)) := Arv.set Aro33 qo33 So33 No33 Ho33 Go33 rfl W34 4 rfl (by decide)
  have f36 : Exa Z h34 b1 "[I" := f29.wr W34
  have K37 : Keep h0 h34 [] := K30.wr W34 (Or.inr sz_b1)
  have N38 := Fr.snoc X34 N31 g_b1
  have Zs39 : n0 ≤ h34.size := Nat.le_trans Zs32 (Keep.of_wr W34).1
  obtain ⟨clo40, Aro40, qo40, So40, No40, Ho40, Go40⟩ := id f35
  have hino40 : ¬ ((5 : Int32) < 0 ∨ clo40.slots.size ≤ ((5 : Int32)).toNatClampNeg) := inb_of So40 ⟨by decide, by decide⟩
  obtain ⟨T41, h41, X41, e41, W41, st41⟩ := stI X34 hx hZ e34 Aro40 (j := (5 : Int32)) hino40 (g := (mkF m 14 #[.val (.int (15 : Int32)), .val (.ref b1), .val (.int (5 : Int32))] [(.int (5 : Int32)), (.int (5 : Int32)), (.ref b1)])) rfl rfl (hb hby d1_14)
  have f42 : Arv Z h41 b1 k1 .int (15 : Int32) [(.int (0 : Int32)), (.int (1 : Int32)), (.int (2 : Int32)), (.int (3 : Int32)), (.int (4 : Int32)), (.int (5 : Int32)), (.int (0 : Int32)), (.int (0 : Int32)), (.int (0 : Int32)), (.int (0 : Int32)), (.int (0 : Int32)), (.int (0 : Int32)), (.int (0 : Int32)), (.int (0 : Int32)), (.int (0 : Int32))] (.int (0 : Int32)) := Arv.set Aro40 qo40 So40 No40 Ho40 Go40 rfl W41 5 rfl (by decide)
  have f43 : Exa Z h41 b1 "[I" := f36.wr W41
  have K44 : Keep h0 h41 [] := K37.wr W41 (Or.inr sz_b1)
  have N45 := Fr.snoc X41 N38 g_b1
  have Zs46 : n0 ≤ h41.size := Nat.le_trans Zs39 (Keep.of_wr W41).1
  obtain ⟨clo47, Aro47, qo47, So47, No47, Ho47, Go47⟩ := id f42
  have hino47 : ¬ ((6 : Int32) < 0 ∨ clo47.slots.size ≤ ((6 : Int32)).toNatClampNeg) := inb_of So47 ⟨by decide, by decide⟩
  obtain ⟨T48, h48, X48, e48, W48, st48⟩ := stI X41 hx hZ e41 Aro47 (j := (6 : Int32)) hino47 (g := (mkF m 14 #[.val (.int (15 : Int32)), .val (.ref b1), .val (.int (6 : Int32))] [(.int (6 : Int32)), (.int (6 : Int32)), (.ref b1)])) rfl rfl (hb hby d1_14)
  have f49 : Arv Z h48 b1 k1 .int (15 : Int32) [(.int (0 : Int32)), (.int (1 : Int32)), (.int (2 : Int32)), (.int (3 : Int32)), (.int (4 : Int32)), (.int (5 : Int32)), (.int (6 : Int32)), (.int (0 : Int32)), (.int (0 : Int32)), (.int (0 : Int32)), (.int (0 : Int32)), (.int (0 : Int32)), (.int (0 : Int32)), (.int (0 : Int32)), (.int (0 : Int32))] (.int (0 : Int32)) := Arv.set Aro47 qo47 So47 No47 Ho47 Go47 rfl W48 6 rfl (by decide)
  have f50 : Exa Z h48 b1 "[I" := f43.wr W48
  have K51 : Keep h0 h48 [] := K44.wr W48 (Or.inr sz_b1)
  have N52 := Fr.snoc X48 N45 g_b1
  have Zs53 : n0 ≤ h48.size := Nat.le_trans Zs46 (Keep.of_wr W48).1
  obtain ⟨clo54, Aro54, qo54, So54, No54, Ho54, Go54⟩ := id f49
  have hino54 : ¬ ((7 : Int32) < 0 ∨ clo54.slots.size ≤ ((7 : Int32)).toNatClampNeg) := inb_of So54 ⟨by decide, by decide⟩
  obtain ⟨T55, h55, X55, e55, W55, st55⟩ := stI X48 hx hZ e48 Aro54 (j := (7 : Int32)) hino54 (g := (mkF m 14 #[.val (.int (15 : Int32)), .val (.ref b1), .val (.int (7 : Int32))] [(.int (7 : Int32)), (.int (7 : Int32)), (.ref b1)])) rfl rfl (hb hby d1_14)
  have f56 : Arv Z h55 b1 k1 .int (15 : Int32) [(.int (0 : Int32)), (.int (1 : Int32)), (.int (2 : Int32)), (.int (3 : Int32)), (.int (4 : Int32)), (.int (5 : Int32)), (.int (6 : Int32)), (.int (7 : Int32)), (.int (0 : Int32)), (.int (0 : Int32)), (.int (0 : Int32)), (.int (0 : Int32)), (.int (0 : Int32)), (.int (0 : Int32)), (.int (0 : Int32))] (.int (0 : Int32)) := Arv.set Aro54 qo54 So54 No54 Ho54 Go54 rfl W55 7 rfl (by decide)
  have f57 : Exa Z h55 b1 "[I" := f50.wr W55
  have K58 : Keep h0 h55 [] := K51.wr W55 (Or.inr sz_b1)
  have N59 := Fr.snoc X55 N52 g_b1
  have Zs60 : n0 ≤ h55.size := Nat.le_trans Zs53 (Keep.of_wr W55).1
  obtain ⟨clo61, Aro61, qo61, So61, No61, Ho61, Go61⟩ := id f56
  have hino61 : ¬ ((8 : Int32) < 0 ∨ clo61.slots.size ≤ ((8 : Int32)).toNatClampNeg) := inb_of So61 ⟨by decide, by decide⟩
  obtain ⟨T62, h62, X62, e62, W62, st62⟩ := stI X55 hx hZ e55 Aro61 (j := (8 : Int32)) hino61 (g := (mkF m 14 #[.val (.int (15 : Int32)), .val (.ref b1), .val (.int (8 : Int32))] [(.int (8 : Int32)), (.int (8 : Int32)), (.ref b1)])) rfl rfl (hb hby d1_14)
  have f63 : Arv Z h62 b1 k1 .int (15 : Int32) [(.int (0 : Int32)), (.int (1 : Int32)), (.int (2 : Int32)), (.int (3 : Int32)), (.int (4 : Int32)), (.int (5 : Int32)), (.int (6 : Int32)), (.int (7 : Int32)), (.int (8 : Int32)), (.int (0 : Int32)), (.int (0 : Int32)), (.int (0 : Int32)), (.int (0 : Int32)), (.int (0 : Int32)), (.int (0 : Int32))] (.int (0 : Int32)) := Arv.set Aro61 qo61 So61 No61 Ho61 Go61 rfl W62 8 rfl (by decide)
  have f64 : Exa Z h62 b1 "[I" := f57.wr W62
  have K65 : Keep h0 h62 [] := K58.wr W62 (Or.inr sz_b1)
  have N66 := Fr.snoc X62 N59 g_b1
  have Zs67 : n0 ≤ h62.size := Nat.le_trans Zs60 (Keep.of_wr W62).1
  obtain ⟨clo68, Aro68, qo68, So68, No68, Ho68, Go68⟩ := id f63
  have hino68 : ¬ ((9 : Int32) < 0 ∨ clo68.slots.size ≤ ((9 : Int32)).toNatClampNeg) := inb_of So68 ⟨by decide, by decide⟩
  obtain ⟨T69, h69, X69, e69, W69, st69⟩ := stI X62 hx hZ e62 Aro68 (j := (9 : Int32)) hino68 (g := (mkF m 14 #[.val (.int (15 : Int32)), .val (.ref b1), .val (.int (9 : Int32))] [(.int (9 : Int32)), (.int (9 : Int32)), (.ref b1)])) rfl rfl (hb hby d1_14)
  have f70 : Arv Z h69 b1 k1 .int (15 : Int32) [(.int (0 : Int32)), (.int (1 : Int32)), (.int (2 : Int32)), (.int (3 : Int32)), (.int (4 : Int32)), (.int (5 : Int32)), (.int (6 : Int32)), (.int (7 : Int32)), (.int (8 : Int32)), (.int (9 : Int32)), (.int (0 : Int32)), (.int (0 : Int32)), (.int (0 : Int32)), (.int (0 : Int32)), (.int (0 : Int32))] (.int (0 : Int32)) := Arv.set Aro68 qo68 So68 No68 Ho68 Go68 rfl W69 9 rfl (by decide)
  have f71 : Exa Z h69 b1 "[I" := f64.wr W69
  have K72 : Keep h0 h69 [] := K65.wr W69 (Or.inr sz_b1)
  have N73 := Fr.snoc X69 N66 g_b1
  have Zs74 : n0 ≤ h69.size := Nat.le_trans Zs67 (Keep.of_wr W69).1
  obtain ⟨clo75, Aro75, qo75, So75, No75, Ho75, Go75⟩ := id f70
  have hino75 : ¬ ((10 : Int32) < 0 ∨ clo75.slots.size ≤ ((10 : Int32)).toNatClampNeg) := inb_of So75 ⟨by decide, by decide⟩
  obtain ⟨T76, h76, X76, e76, W76, st76⟩ := stI X69 hx hZ e69 Aro75 (j := (10 : Int32)) hino75 (g := (mkF m 14 #[.val (.int (15 : Int32)), .val (.ref b1), .val (.int (10 : Int32))] [(.int (10 : Int32)), (.int (10 : Int32)), (.ref b1)])) rfl rfl (hb hby d1_14)
  have f77 : Arv Z h76 b1 k1 .int (15 : Int32) [(.int (0 : Int32)), (.int (1 : Int32)), (.int (2 : Int32)), (.int (3 : Int32)), (.int (4 : Int32)), (.int (5 : Int32)), (.int (6 : Int32)), (.int (7 : Int32)), (.int (8 : Int32)), (.int (9 : Int32)), (.int (10 : Int32)), (.int (0 : Int32)), (.int (0 : Int32)), (.int (0 : Int32)), (.int (0 : Int32))] (.int (0 : Int32)) := Arv.set Aro75 qo75 So75 No75 Ho75 Go75 rfl W76 10 rfl (by decide)
  have f78 : Exa Z h76 b1 "[I" := f71.wr W76
  have K79 : Keep h0 h76 [] := K72.wr W76 (Or.inr sz_b1)
  have N80 := Fr.snoc X76 N73 g_b1
  have Zs81 : n0 ≤ h76.size := Nat.le_trans Zs74 (Keep.of_wr W76).1
  obtain ⟨clo82, Aro82, qo82, So82, No82, Ho82, Go82⟩ := id f77
  have hino82 : ¬ ((11 : Int32) < 0 ∨ clo82.slots.size ≤ ((11 : Int32)).toNatClampNeg) := inb_of So82 ⟨by decide, by decide⟩
  obtain ⟨T83, h83, X83, e83, W83, st83⟩ := stI X76 hx hZ e76 Aro82 (j := (11 : Int32)) hino82 (g := (mkF m 14 #[.val (.int (15 : Int32)), .val (.ref b1), .val (.int (11 : Int32))] [(.int (11 : Int32)), (.int (11 : Int32)), (.ref b1)])) rfl rfl (hb hby d1_14)
  have f84 : Arv Z h83 b1 k1 .int (15 : Int32) [(.int (0 : Int32)), (.int (1 : Int32)), (.int (2 : Int32)), (.int (3 : Int32)), (.int (4 : Int32)), (.int (5 : Int32)), (.int (6 : Int32)), (.int (7 : Int32)), (.int (8 : Int32)), (.int (9 : Int32)), (.int (10 : Int32)), (.int (11 : Int32)), (.int (0 : Int32)), (.int (0 : Int32)), (.int (0 : Int32))] (.int (0 : Int32)) := Arv.set Aro82 qo82 So82 No82 Ho82 Go82 rfl W83 11 rfl (by decide)
  have f85 : Exa Z h83 b1 "[I" := f78.wr W83
  have K86 : Keep h0 h83 [] := K79.wr W83 (Or.inr sz_b1)
  have N87 := Fr.snoc X83 N80 g_b1
  have Zs88 : n0 ≤ h83.size := Nat.le_trans Zs81 (Keep.of_wr W83).1
  obtain ⟨clo89, Aro89, qo89, So89, No89, Ho89, Go89⟩ := id f84
  have hino89 : ¬ ((12 : Int32) < 0 ∨ clo89.slots.size ≤ ((12 : Int32)).toNatClampNeg) := inb_of So89 ⟨by decide, by decide⟩
  obtain ⟨T90, h90, X90, e90, W90, st90⟩ := stI X83 hx hZ e83 Aro89 (j := (12 : Int32)) hino89 (g := (mkF m 14 #[.val (.int (15 : Int32)), .val (.ref b1), .val (.int (12 : Int32))] [(.int (12 : Int32)), (.int (12 : Int32)), (.ref b1)])) rfl rfl (hb hby d1_14)
  have f91 : Arv Z h90 b1 k1 .int (15 : Int32) [(.int (0 : Int32)), (.int (1 : Int32)), (.int (2 : Int32)), (.int (3 : Int32)), (.int (4 : Int32)), (.int (5 : Int32)), (.int (6 : Int32)), (.int (7 : Int32)), (.int (8 : Int32)), (.int (9 : Int32)), (.int (10 : Int32)), (.int (11 : Int32)), (.int (12 : Int32)), (.int (0 : Int32)), (.int (0 : Int32))] (.int (0 : Int32)) := Arv.set Aro89 qo89 So89 No89 Ho89 Go89 rfl W90 12 rfl (by decide)
  have f92 : Exa Z h90 b1 "[I" := f85.wr W90
  have K93 : Keep h0 h90 [] := K86.wr W90 (Or.inr sz_b1)
  have N94 := Fr.snoc X90 N87 g_b1
  have Zs95 : n0 ≤ h90.size := Nat.le_trans Zs88 (Keep.of_wr W90).1
  obtain ⟨clo96, Aro96, qo96, So96, No96, Ho96, Go96⟩ := id f91
  have hino96 : ¬ ((13 : Int32) < 0 ∨ clo96.slots.size ≤ ((13 : Int32)).toNatClampNeg) := inb_of So96 ⟨by decide, by decide⟩
  obtain ⟨T97, h97, X97, e97, W97, st97⟩ := stI X90 hx hZ e90 Aro96 (j := (13 : Int32)) hino96 (g := (mkF m 14 #[.val (.int (15 : Int32)), .val (.ref b1), .val (.int (13 : Int32))] [(.int (13 : Int32)), (.int (13 : Int32)), (.ref b1)])) rfl rfl (hb hby d1_14)
  have f98 : Arv Z h97 b1 k1 .int (15 : Int32) [(.int (0 : Int32)), (.int (1 : Int32)), (.int (2 : Int32)), (.int (3 : Int32)), (.int (4 : Int32)), (.int (5 : Int32)), (.int (6 : Int32)), (.int (7 : Int32)), (.int (8 : Int32)), (.int (9 : Int32)), (.int (10 : Int32)), (.int (11 : Int32)), (.int (12 : Int32)), (.int (13 : Int32)), (.int (0 : Int32))] (.int (0 : Int32)) := Arv.set Aro96 qo96 So96 No96 Ho96 Go96 rfl W97 13 rfl (by decide)
  have f99 : Exa Z h97 b1 "[I" := f92.wr W97
  have K100 : Keep h0 h97 [] := K93.wr W97 (Or.inr sz_b1)
  have N101 := Fr.snoc X97 N94 g_b1
  have Zs102 : n0 ≤ h97.size := Nat.le_trans Zs95 (Keep.of_wr W97).1
  obtain ⟨clo103, Aro103, qo103, So103, No103, Ho103, Go103⟩ := id f98
  have hino103 : ¬ ((14 : Int32) < 0 ∨ clo103.slots.size ≤ ((14 : Int32)).toNatClampNeg) := inb_of So103 ⟨by decide, by decide⟩
  obtain ⟨T104, h104, X104, e104, W104, st104⟩ := stI X97 hx hZ e97 Aro103 (j := (14 : Int32)) hino103 (g := (mkF m 14 #[.val (.int (15 : Int32)), .val (.ref b1), .val (.int (14 : Int32))] [(.int (14 : Int32)), (.int (14 : Int32)), (.ref b1)])) rfl rfl (hb hby d1_14)
  have f105 : Arv Z h104 b1 k1 .int (15 : Int32) [(.int (0 : Int32)), (.int (1 : Int32)), (.int (2 : Int32)), (.int (3 : Int32)), (.int (4 : Int32)), (.int (5 : Int32)), (.int (6 : Int32)), (.int (7 : Int32)), (.int (8 : Int32)), (.int (9 : Int32)), (.int (10 : Int32)), (.int (11 : Int32)), (.int (12 : Int32)), (.int (13 : Int32)), (.int (14 : Int32))] (.int (0 : Int32)) := Arv.set Aro103 qo103 So103 No103 Ho103 Go103 rfl W104 14 rfl (by decide)
  have f106 : Exa Z h104 b1 "[I" := f99.wr W104
  have K107 : Keep h0 h104 [] := K100.wr W104 (Or.inr sz_b1)
  have N108 := Fr.snoc X104 N101 g_b1
  have Zs109 : n0 ≤ h104.size := Nat.le_trans Zs102 (Keep.of_wr W104).1
  have f110 : Arv Z h104 b1 k1 .int (15 : Int32) own_ids (.int (0 : Int32)) := own_conv f105 (by decide)
  obtain ⟨fs, hr, hrun, hended, hW, hsame⟩ := X104.leave (v := some (.ref b1)) (fun h => by rw [Bd.returns] at h; cases h) Bd.notSynchronized
  refine ⟨_, _, pre0 _ ?_, hrun, hended, _, _, rfl, ?_, ⟨_, rfl⟩, hW, hsame.mono (by decide) (by decide)⟩
  · show Steps p.tables e below (s₁.setTop (mkF m 0 #[.val (.int (15 : Int32)), .unset, .unset] [])) _
    refine XS.iloadN X0.here hx rfl (hb hby d1_0) rfl ?_
    show Steps p.tables e below (s₁.setTop (mkF m 1 #[.val (.int (15 : Int32)), .unset, .unset] [(.int (15 : Int32))])) _
    refine st1 _ ?_
    show Steps p.tables e below (T1.setTop (mkF m 3 #[.val (.int (15 : Int32)), .unset, .unset] [(.ref b1)])) _
    refine XS.astoreN X1.here hx rfl (hb hby d1_3) rfl rfl (l' := #[.val (.int (15 : Int32)), .val (.ref b1), .unset]) rfl ?_
    show Steps p.tables e below (T1.setTop (mkF m 4 #[.val (.int (15 : Int32)), .val (.ref b1), .unset] [])) _
    refine XS.iconst X1.here hx rfl (hb hby d1_4) ?_
    show Steps p.tables e below (T1.setTop (mkF m 5 #[.val (.int (15 : Int32)), .val (.ref b1), .unset] [(.int (0 : Int32))])) _
    refine XS.istoreN X1.here hx rfl (hb hby d1_5) rfl (l' := #[.val (.int (15 : Int32)), .val (.ref b1), .val (.int (0 : Int32))]) rfl ?_
    show Steps p.tables e below (T1.setTop (mkF m 6 #[.val (.int (15 : Int32)), .val (.ref b1), .val (.int (0 : Int32))] [])) _
    refine XS.iloadN X1.here hx rfl (hb hby d1_6) rfl ?_
    show Steps p.tables e below (T1.setTop (mkF m 7 #[.val (.int (15 : Int32)), .val (.ref b1), .val (.int (0 : Int32))] [(.int (0 : Int32))])) _
    refine XS.iloadN X1.here hx rfl (hb hby d1_7) rfl ?_
    show Steps p.tables e below (T1.setTop (mkF m 8 #[.val (.int (15 : Int32)), .val (.ref b1), .val (.int (0 : Int32))] [(.int (15 : Int32)), (.int (0 : Int32))])) _
    refine XS.icmpNo X1.here hx rfl (hb hby d1_8) rfl (tlt (by decide : (0 : Int32) < (15 : Int32))).2.1 ?_
    show Steps p.tables e below (T1.setTop (mkF m 11 #[.val (.int (15 : Int32)), .val (.ref b1), .val (.int (0 : Int32))] [])) _
    refine XS.aloadN X1.here hx rfl (hb hby d1_11) rfl rfl ?_
    show Steps p.tables e below (T1.setTop (mkF m 12 #[.val (.int (15 : Int32)), .val (.ref b1), .val (.int (0 : Int32))] [(.ref b1)])) _
    refine XS.iloadN X1.here hx rfl (hb hby d1_12) rfl ?_
    show Steps p.tables e below (T1.setTop (mkF m 13 #[.val (.int (15 : Int32)), .val (.ref b1), .val (.int (0 : Int32))] [(.int (0 : Int32)), (.ref b1)])) _
    refine XS.iloadN X1.here hx rfl (hb hby d1_13) rfl ?_
    show Steps p.tables e below (T1.setTop (mkF m 14 #[.val (.int (15 : Int32)), .val (.ref b1), .val (.int (0 : Int32))] [(.int (0 : Int32)), (.int (0 : Int32)), (.ref b1)])) _
    refine st6 _ ?_
    show Steps p.tables e below (T6.setTop (mkF m 15 #[.val (.int (15 : Int32)), .val (.ref b1), .val (.int (0 : Int32))] [])) _
    refine XS.iinc X6.here hx rfl (hb hby d1_15) rfl (l' := #[.val (.int (15 : Int32)), .val (.ref b1), .val (.int (1 : Int32))]) rfl ?_
    show Steps p.tables e below (T6.setTop (mkF m 18 #[.val (.int (15 : Int32)), .val (.ref b1), .val (.int (1 : Int32))] [])) _
    refine XS.goto X6.here hx rfl (pc0 := 18) (pc' := 6) rfl (hb hby d1_18) (by decide) (by decide) ?_
    show Steps p.tables e below (T6.setTop (mkF m 6 #[.val (.int (15 : Int32)), .val (.ref b1), .val (.int (1 : Int32))] [])) _
    refine XS.iloadN X6.here hx rfl (hb hby d1_6) rfl ?_
    show Steps p.tables e below (T6.setTop (mkF m 7 #[.val (.int (15 : Int32)), .val (.ref b1), .val (.int (1 : Int32))] [(.int (1 : Int32))])) _
    refine XS.iloadN X6.here hx rfl (hb hby d1_7) rfl ?_
    show Steps p.tables e below (T6.setTop (mkF m 8 #[.val (.int (15 : Int32)), .val (.ref b1), .val (.int (1 : Int32))] [(.int (15 : Int32)), (.int (1 : Int32))])) _
    refine XS.icmpNo X6.here hx rfl (hb hby d1_8) rfl (tlt (by decide : (1 : Int32) < (15 : Int32))).2.1 ?_
    show Steps p.tables e below (T6.setTop (mkF m 11 #[.val (.int (15 : Int32)), .val (.ref b1), .val (.int (1 : Int32))] [])) _
    refine XS.aloadN X6.here hx rfl (hb hby d1_11) rfl rfl ?_
    show Steps p.tables e below (T6.setTop (mkF m 12 #[.val (.int (15 : Int32)), .val (.ref b1), .val (.int (1 : Int32))] [(.ref b1)])) _
    refine XS.iloadN X6.here hx rfl (hb hby d1_12) rfl ?_
    show Steps p.tables e below (T6.setTop (mkF m 13 #[.val (.int (15 : Int32)), .val (.ref b1), .val (.int (1 : Int32))] [(.int (1 : Int32)), (.ref b1)])) _
    refine XS.iloadN X6.here hx rfl (hb hby d1_13) rfl ?_
    show Steps p.tables e below (T6.setTop (mkF m 14 #[.val (.int (15 : Int32)), .val (.ref b1), .val (.int (1 : Int32))] [(.int (1 : Int32)), (.int (1 : Int32)), (.ref b1)])) _
    refine st13 _ ?_
    show Steps p.tables e below (T13.setTop (mkF m 15 #[.val (.int (15 : Int32)), .val (.ref b1), .val (.int (1 : Int32))] [])) _
    refine XS.iinc X13.here hx rfl (hb hby d1_15) rfl (l' := #[.val (.int (15 : Int32)), .val (.ref b1), .val (.int (2 : Int32))]) rfl ?_
    show Steps p.tables e below (T13.setTop (mkF m 18 #[.val (.int (15 : Int32)), .val (.ref b1), .val (.int (2 : Int32))] [])) _
    refine XS.goto X13.here hx rfl (pc0 := 18) (pc' := 6) rfl (hb hby d1_18) (by decide) (by decide) ?_
    show Steps p.tables e below (T13.setTop (mkF m 6 #[.val (.int (15 : Int32)), .val (.ref b1), .val (.int (2 : Int32))] [])) _
    refine XS.iloadN X13.here hx rfl (hb hby d1_6) rfl ?_
    show Steps p.tables e below (T13.setTop (mkF m 7 #[.val (.int (15 : Int32)), .val (.ref b1), .val (.int (2 : Int32))] [(.int (2 : Int32))])) _
    refine XS.iloadN X13.here hx rfl (hb hby d1_7) rfl ?_
    show Steps p.tables e below (T13.setTop (mkF m 8 #[.val (.int (15 : Int32)), .val (.ref b1), .val (.int (2 : Int32))] [(.int (15 : Int32)), (.int (2 : Int32))])) _
    refine XS.icmpNo X13.here hx rfl (hb hby d1_8) rfl (tlt (by decide : (2 : Int32) < (15 : Int32))).2.1 ?_
    show Steps p.tables e below (T13.setTop (mkF m 11 #[.val (.int (15 : Int32)), .val (.ref b1), .val (.int (2 : Int32))] [])) _
    refine XS.aloadN X13.here hx rfl (hb hby d1_11) rfl rfl ?_
    show Steps p.tables e below (T13.setTop (mkF m 12 #[.val (.int (15 : Int32)), .val (.ref b1), .val (.int (2 : Int32))] [(.ref b1)])) _
    refine XS.iloadN X13.here hx rfl (hb hby d1_12) rfl ?_
    show Steps p.tables e below (T13.setTop (mkF m 13 #[.val (.int (15 : Int32)), .val (.ref b1), .val (.int (2 : Int32))] [(.int (2 : Int32)), (.ref b1)])) _
    refine XS.iloadN X13.here hx rfl (hb hby d1_13) rfl ?_
    show Steps p.tables e below (T13.setTop (mkF m 14 #[.val (.int (15 : Int32)), .val (.ref b1), .val (.int (2 : Int32))] [(.int (2 : Int32)), (.int (2 : Int32)), (.ref b1)])) _
    refine st20 _ ?_
    show Steps p.tables e below (T20.setTop (mkF m 15 #[.val (.int (15 : Int32)), .val (.ref b1), .val (.int (2 : Int32))] [])) _
    refine XS.iinc X20.here hx rfl (hb hby d1_15) rfl (l' := #[.val (.int (15 : Int32)), .val (.ref b1), .val (.int (3 : Int32))]) rfl ?_
    show Steps p.tables e below (T20.setTop (mkF m 18 #[.val (.int (15 : Int32)), .val (.ref b1), .val (.int (3 : Int32))] [])) _
    refine XS.goto X20.here hx rfl (pc0 := 18) (pc' := 6) rfl (hb hby d1_18) (by decide) (by decide) ?_
    show Steps p.tables e below (T20.setTop (mkF m 6 #[.val (.int (15 : Int32)), .val (.ref b1), .val (.int (3 : Int32))] [])) _
    refine XS.iloadN X20.here hx rfl (hb hby d1_6) rfl ?_
    show Steps p.tables e below (T20.setTop (mkF m 7 #[.val (.int (15 : Int32)), .val (.ref b1), .val (.int (3 : Int32))] [(.int (3 : Int32))])) _
    refine XS.iloadN X20.here hx rfl (hb hby d1_7) rfl ?_
    show Steps p.tables e below (T20.setTop (mkF m 8 #[.val (.int (15 : Int32)), .val (.ref b1), .val (.int (3 : Int32))] [(.int (15 : Int32)), (.int (3 : Int32))])) _
    refine XS.icmpNo X20.here hx rfl (hb hby d1_8) rfl (tlt (by decide : (3 : Int32) < (15 : Int32))).2.1 ?_
    show Steps p.tables e below (T20.setTop (mkF m 11 #[.val (.int (15 : Int32)), .val (.ref b1), .val (.int (3 : Int32))] [])) _
    refine XS.aloadN X20.here hx rfl (hb hby d1_11) rfl rfl ?_
    show Steps p.tables e below (T20.setTop (mkF m 12 #[.val (.int (15 : Int32)), .val (.ref b1), .val (.int (3 : Int32))] [(.ref b1)])) _
    refine XS.iloadN X20.here hx rfl (hb hby d1_12) rfl ?_
    show Steps p.tables e below (T20.setTop (mkF m 13 #[.val (.int (15 : Int32)), .val (.ref b1), .val (.int (3 : Int32))] [(.int (3 : Int32)), (.ref b1)])) _
    refine XS.iloadN X20.here hx rfl (hb hby d1_13) rfl ?_
    show Steps p.tables e below (T20.setTop (mkF m 14 #[.val (.int (15 : Int32)), .val (.ref b1), .val (.int (3 : Int32))] [(.int (3 : Int32)), (.int (3 : Int32)), (.ref b1)])) _
    refine st27 _ ?_
    show Steps p.tables e below (T27.setTop (mkF m 15 #[.val (.int (15 : Int32)), .val (.ref b1), .val (.int (3 : Int32))] [])) _
    refine XS.iinc X27.here hx rfl (hb hby d1_15) rfl (l' := #[.val (.int (15 : Int32)), .val (.ref b1), .val (.int (4 : Int32))]) rfl ?_
    show Steps p.tables e below (T27.setTop (mkF m 18 #[.val (.int (15 : Int32)), .val (.ref b1), .val (.int (4 : Int32))] [])) _
    refine XS.goto X27.here hx rfl (pc0 := 18) (pc' := 6) rfl (hb hby d1_18) (by decide) (by decide) ?_
    show Steps p.tables e below (T27.setTop (mkF m 6 #[.val (.int (15 : Int32)), .val (.ref b1), .val (.int (4 : Int32))] [])) _
    refine XS.iloadN X27.here hx rfl (hb hby d1_6) rfl ?_
    show Steps p.tables e below (T27.setTop (mkF m 7 #[.val (.int (15 : Int32)), .val (.ref b1), .val (.int (4 : Int32))] [(.int (4 : Int32))])) _
    refine XS.iloadN X27.here hx rfl (hb hby d1_7) rfl ?_
    show Steps p.tables e below (T27.setTop (mkF m 8 #[.val (.int (15 : Int32)), .val (.ref b1), .val (.int (4 : Int32))] [(.int (15 : Int32)), (.int (4 : Int32))])) _
    refine XS.icmpNo X27.here hx rfl (hb hby d1_8) rfl (tlt (by decide : (4 : Int32) < (15 : Int32))).2.1 ?_
    show Steps p.tables e below (T27.setTop (mkF m 11 #[.val (.int (15 : Int32)), .val (.ref b1), .val (.int (4 : Int32))] [])) _
    refine XS.aloadN X27.here hx rfl (hb hby d1_11) rfl rfl ?_
    show Steps p.tables e below (T27.setTop (mkF m 12 #[.val (.int (15 : Int32)), .val (.ref b1), .val (.int (4 : Int32))] [(.ref b1)])) _
    refine XS.iloadN X27.here hx rfl (hb hby d1_12) rfl ?_
    show Steps p.tables e below (T27.setTop (mkF m 13 #[.val (.int (15 : Int32)), .val (.ref b1), .val (.int (4 : Int32))] [(.int (4 : Int32)), (.ref b1)])) _
    refine XS.iloadN X27.here hx rfl (hb hby d1_13) rfl ?_
    show Steps p.tables e below (T27.setTop (mkF m 14 #[.val (.int (15 : Int32)), .val (.ref b1), .val (.int (4 : Int32))] [(.int (4 : Int32)), (.int (4 : Int32)), (.ref b1)])) _
    refine st34 _ ?_
    show Steps p.tables e below (T34.setTop (mkF m 15 #[.val (.int (15 : Int32)), .val (.ref b1), .val (.int (4 : Int32))] [])) _
    refine XS.iinc X34.here hx rfl (hb hby d1_15) rfl (l' := #[.val (.int (15 : Int32)), .val (.ref b1), .val (.int (5 : Int32))]) rfl ?_
    show Steps p.tables e below (T34.setTop (mkF m 18 #[.val (.int (15 : Int32)), .val (.ref b1), .val (.int (5 : Int32))] [])) _
    refine XS.goto X34.here hx rfl (pc0 := 18) (pc' := 6) rfl (hb hby d1_18) (by decide) (by decide) ?_
    show Steps p.tables e below (T34.setTop (mkF m 6 #[.val (.int (15 : Int32)), .val (.ref b1), .val (.int (5 : Int32))] [])) _
    refine XS.iloadN X34.here hx rfl (hb hby d1_6) rfl ?_
    show Steps p.tables e below (T34.setTop (mkF m 7 #[.val (.int (15 : Int32)), .val (.ref b1), .val (.int (5 : Int32))] [(.int (5 : Int32))])) _
    refine XS.iloadN X34.here hx rfl (hb hby d1_7) rfl ?_
    show Steps p.tables e below (T34.setTop (mkF m 8 #[.val (.int (15 : Int32)), .val (.ref b1), .val (.int (5 : Int32))] [(.int (15 : Int32)), (.int (5 : Int32))])) _
    refine XS.icmpNo X34.here hx rfl (hb hby d1_8) rfl (tlt (by decide : (5 : Int32) < (15 : Int32))).2.1 ?_
    show Steps p.tables e below (T34.setTop (mkF m 11 #[.val (.int (15 : Int32)), .val (.ref b1), .val (.int (5 : Int32))] [])) _
    refine XS.aloadN X34.here hx rfl (hb hby d1_11) rfl rfl ?_
    show Steps p.tables e below (T34.setTop (mkF m 12 #[.val (.int (15 : Int32)), .val (.ref b1), .val (.int (5 : Int32))] [(.ref b1)])) _
    refine XS.iloadN X34.here hx rfl (hb hby d1_12) rfl ?_
    show Steps p.tables e below (T34.setTop (mkF m 13 #[.val (.int (15 : Int32)), .val (.ref b1), .val (.int (5 : Int32))] [(.int (5 : Int32)), (.ref b1)])) _
    refine XS.iloadN X34.here hx rfl (hb hby d1_13) rfl ?_
    show Steps p.tables e below (T34.setTop (mkF m 14 #[.val (.int (15 : Int32)), .val (.ref b1), .val (.int (5 : Int32))] [(.int (5 : Int32)), (.int (5 : Int32)), (.ref b1)])) _
    refine st41 _ ?_
    show Steps p.tables e below (T41.setTop (mkF m 15 #[.val (.int (15 : Int32)), .val (.ref b1), .val (.int (5 : Int32))] [])) _
    refine XS.iinc X41.here hx rfl (hb hby d1_15) rfl (l' := #[.val (.int (15 : Int32)), .val (.ref b1), .val (.int (6 : Int32))]) rfl ?_
    show Steps p.tables e below (T41.setTop (mkF m 18 #[.val (.int (15 : Int32)), .val (.ref b1), .val (.int (6 : Int32))] [])) _
    refine XS.goto X41.here hx rfl (pc0 := 18) (pc' := 6) rfl (hb hby d1_18) (by decide) (by decide) ?_
    show Steps p.tables e below (T41.setTop (mkF m 6 #[.val (.int (15 : Int32)), .val (.ref b1), .val (.int (6 : Int32))] [])) _
    refine XS.iloadN X41.here hx rfl (hb hby d1_6) rfl ?_
    show Steps p.tables e below (T41.setTop (mkF m 7 #[.val (.int (15 : Int32)), .val (.ref b1), .val (.int (6 : Int32))] [(.int (6 : Int32))])) _
    refine XS.iloadN X41.here hx rfl (hb hby d1_7) rfl ?_
    show Steps p.tables e below (T41.setTop (mkF m 8 #[.val (.int (15 : Int32)), .val (.ref b1), .val (.int (6 : Int32))] [(.int (15 : Int32)), (.int (6 : Int32))])) _
    refine XS.icmpNo X41.here hx rfl (hb hby d1_8) rfl (tlt (by decide : (6 : Int32) < (15 : Int32))).2.1 ?_
    show Steps p.tables e below (T41.setTop (mkF m 11 #[.val (.int (15 : Int32)), .val (.ref b1), .val (.int (6 : Int32))] [])) _
    refine XS.aloadN X41.here hx rfl (hb hby d1_11) rfl rfl ?_
    show Steps p.tables e below (T41.setTop (mkF m 12 #[.val (.int (15 : Int32)), .val (.ref b1), .val (.int (6 : Int32))] [(.ref b1)])) _
    refine XS.iloadN X41.here hx rfl (hb hby d1_12) rfl ?_
    show Steps p.tables e below (T41.setTop (mkF m 13 #[.val (.int (15 : Int32)), .val (.ref b1), .val (.int (6 : Int32))] [(.int (6 : Int32)), (.ref b1)])) _
    refine XS.iloadN X41.here hx rfl (hb hby d1_13) rfl ?_
    show Steps p.tables e below (T41.setTop (mkF m 14 #[.val (.int (15 : Int32)), .val (.ref b1), .val (.int (6 : Int32))] [(.int (6 : Int32)), (.int (6 : Int32)), (.ref b1)])) _
    refine st48 _ ?_
    show Steps p.tables e below (T48.setTop (mkF m 15 #[.val (.int (15 : Int32)), .val (.ref b1), .val (.int (6 : Int32))] [])) _
    refine XS.iinc X48.here hx rfl (hb hby d1_15) rfl (l' := #[.val (.int (15 : Int32)), .val (.ref b1), .val (.int (7 : Int32))]) rfl ?_
    show Steps p.tables e below (T48.setTop (mkF m 18 #[.val (.int (15 : Int32)), .val (.ref b1), .val (.int (7 : Int32))] [])) _
    refine XS.goto X48.here hx rfl (pc0 := 18) (pc' := 6) rfl (hb hby d1_18) (by decide) (by decide) ?_
    show Steps p.tables e below (T48.setTop (mkF m 6 #[.val (.int (15 : Int32)), .val (.ref b1), .val (.int (7 : Int32))] [])) _
    refine XS.iloadN X48.here hx rfl (hb hby d1_6) rfl ?_
    show Steps p.tables e below (T48.setTop (mkF m 7 #[.val (.int (15 : Int32)), .val (.ref b1), .val (.int (7 : Int32))] [(.int (7 : Int32))])) _
    refine XS.iloadN X48.here hx rfl (hb hby d1_7) rfl ?_
    show Steps p.tables e below (T48.setTop (mkF m 8 #[.val (.int (15 : Int32)), .val (.ref b1), .val (.int (7 : Int32))] [(.int (15 : Int32)), (.int (7 : Int32))])) _
    refine XS.icmpNo X48.here hx rfl (hb hby d1_8) rfl (tlt (by decide : (7 : Int32) < (15 : Int32))).2.1 ?_
    show Steps p.tables e below (T48.setTop (mkF m 11 #[.val (.int (15 : Int32)), .val (.ref b1), .val (.int (7 : Int32))] [])) _
    refine XS.aloadN X48.here hx rfl (hb hby d1_11) rfl rfl ?_
    show Steps p.tables e below (T48.setTop (mkF m 12 #[.val (.int (15 : Int32)), .val (.ref b1), .val (.int (7 : Int32))] [(.ref b1)])) _
    refine XS.iloadN X48.here hx rfl (hb hby d1_12) rfl ?_
    show Steps p.tables e below (T48.setTop (mkF m 13 #[.val (.int (15 : Int32)), .val (.ref b1), .val (.int (7 : Int32))] [(.int (7 : Int32)), (.ref b1)])) _
    refine XS.iloadN X48.here hx rfl (hb hby d1_13) rfl ?_
    show Steps p.tables e below (T48.setTop (mkF m 14 #[.val (.int (15 : Int32)), .val (.ref b1), .val (.int (7 : Int32))] [(.int (7 : Int32)), (.int (7 : Int32)), (.ref b1)])) _
    refine st55 _ ?_
    show Steps p.tables e below (T55.setTop (mkF m 15 #[.val (.int (15 : Int32)), .val (.ref b1), .val (.int (7 : Int32))] [])) _
    refine XS.iinc X55.here hx rfl (hb hby d1_15) rfl (l' := #[.val (.int (15 : Int32)), .val (.ref b1), .val (.int (8 : Int32))]) rfl ?_
    show Steps p.tables e below (T55.setTop (mkF m 18 #[.val (.int (15 : Int32)), .val (.ref b1), .val (.int (8 : Int32))] [])) _
    refine XS.goto X55.here hx rfl (pc0 := 18) (pc' := 6) rfl (hb hby d1_18) (by decide) (by decide) ?_
    show Steps p.tables e below (T55.setTop (mkF m 6 #[.val (.int (15 : Int32)), .val (.ref b1), .val (.int (8 : Int32))] [])) _
    refine XS.iloadN X55.here hx rfl (hb hby d1_6) rfl ?_
    show Steps p.tables e below (T55.setTop (mkF m 7 #[.val (.int (15 : Int32)), .val (.ref b1), .val (.int (8 : Int32))] [(.int (8 : Int32))])) _
    refine XS.iloadN X55.here hx rfl (hb hby d1_7) rfl ?_
    show Steps p.tables e below (T55.setTop (mkF m 8 #[.val (.int (15 : Int32)), .val (.ref b1), .val (.int (8 : Int32))] [(.int (15 : Int32)), (.int (8 : Int32))])) _
    refine XS.icmpNo X55.here hx rfl (hb hby d1_8) rfl (tlt (by decide : (8 : Int32) < (15 : Int32))).2.1 ?_
    show Steps p.tables e below (T55.setTop (mkF m 11 #[.val (.int (15 : Int32)), .val (.ref b1), .val (.int (8 : Int32))] [])) _
    refine XS.aloadN X55.here hx rfl (hb hby d1_11) rfl rfl ?_
    show Steps p.tables e below (T55.setTop (mkF m 12 #[.val (.int (15 : Int32)), .val (.ref b1), .val (.int (8 : Int32))] [(.ref b1)])) _
    refine XS.iloadN X55.here hx rfl (hb hby d1_12) rfl ?_
    show Steps p.tables e below (T55.setTop (mkF m 13 #[.val (.int (15 : Int32)), .val (.ref b1), .val (.int (8 : Int32))] [(.int (8 : Int32)), (.ref b1)])) _
    refine XS.iloadN X55.here hx rfl (hb hby d1_13) rfl ?_
    show Steps p.tables e below (T55.setTop (mkF m 14 #[.val (.int (15 : Int32)), .val (.ref b1), .val (.int (8 : Int32))] [(.int (8 : Int32)), (.int (8 : Int32)), (.ref b1)])) _
    refine st62 _ ?_
    show Steps p.tables e below (T62.setTop (mkF m 15 #[.val (.int (15 : Int32)), .val (.ref b1), .val (.int (8 : Int32))] [])) _
    refine XS.iinc X62.here hx rfl (hb hby d1_15) rfl (l' := #[.val (.int (15 : Int32)), .val (.ref b1), .val (.int (9 : Int32))]) rfl ?_
    show Steps p.tables e below (T62.setTop (mkF m 18 #[.val (.int (15 : Int32)), .val (.ref b1), .val (.int (9 : Int32))] [])) _
    refine XS.goto X62.here hx rfl (pc0 := 18) (pc' := 6) rfl (hb hby d1_18) (by decide) (by decide) ?_
    show Steps p.tables e below (T62.setTop (mkF m 6 #[.val (.int (15 : Int32)), .val (.ref b1), .val (.int (9 : Int32))] [])) _
    refine XS.iloadN X62.here hx rfl (hb hby d1_6) rfl ?_
    show Steps p.tables e below (T62.setTop (mkF m 7 #[.val (.int (15 : Int32)), .val (.ref b1), .val (.int (9 : Int32))] [(.int (9 : Int32))])) _
    refine XS.iloadN X62.here hx rfl (hb hby d1_7) rfl ?_
    show Steps p.tables e below (T62.setTop (mkF m 8 #[.val (.int (15 : Int32)), .val (.ref b1), .val (.int (9 : Int32))] [(.int (15 : Int32)), (.int (9 : Int32))])) _
    refine XS.icmpNo X62.here hx rfl (hb hby d1_8) rfl (tlt (by decide : (9 : Int32) < (15 : Int32))).2.1 ?_
    show Steps p.tables e below (T62.setTop (mkF m 11 #[.val (.int (15 : Int32)), .val (.ref b1), .val (.int (9 : Int32))] [])) _
    refine XS.aloadN X62.here hx rfl (hb hby d1_11) rfl rfl ?_
    show Steps p.tables e below (T62.setTop (mkF m 12 #[.val (.int (15 : Int32)), .val (.ref b1), .val (.int (9 : Int32))] [(.ref b1)])) _
    refine XS.iloadN X62.here hx rfl (hb hby d1_12) rfl ?_
    show Steps p.tables e below (T62.setTop (mkF m 13 #[.val (.int (15 : Int32)), .val (.ref b1), .val (.int (9 : Int32))] [(.int (9 : Int32)), (.ref b1)])) _
    refine XS.iloadN X62.here hx rfl (hb hby d1_13) rfl ?_
    show Steps p.tables e below (T62.setTop (mkF m 14 #[.val (.int (15 : Int32)), .val (.ref b1), .val (.int (9 : Int32))] [(.int (9 : Int32)), (.int (9 : Int32)), (.ref b1)])) _
    refine st69 _ ?_
    show Steps p.tables e below (T69.setTop (mkF m 15 #[.val (.int (15 : Int32)), .val (.ref b1), .val (.int (9 : Int32))] [])) _
    refine XS.iinc X69.here hx rfl (hb hby d1_15) rfl (l' := #[.val (.int (15 : Int32)), .val (.ref b1), .val (.int (10 : Int32))]) rfl ?_
    show Steps p.tables e below (T69.setTop (mkF m 18 #[.val (.int (15 : Int32)), .val (.ref b1), .val (.int (10 : Int32))] [])) _
    refine XS.goto X69.here hx rfl (pc0 := 18) (pc' := 6) rfl (hb hby d1_18) (by decide) (by decide) ?_
    show Steps p.tables e below (T69.setTop (mkF m 6 #[.val (.int (15 : Int32)), .val (.ref b1), .val (.int (10 : Int32))] [])) _
    refine XS.iloadN X69.here hx rfl (hb hby d1_6) rfl ?_
    show Steps p.tables e below (T69.setTop (mkF m 7 #[.val (.int (15 : Int32)), .val (.ref b1), .val (.int (10 : Int32))] [(.int (10 : Int32))])) _
    refine XS.iloadN X69.here hx rfl (hb hby d1_7) rfl ?_
    show Steps p.tables e below (T69.setTop (mkF m 8 #[.val (.int (15 : Int32)), .val (.ref b1), .val (.int (10 : Int32))] [(.int (15 : Int32)), (.int (10 : Int32))])) _
    refine XS.icmpNo X69.here hx rfl (hb hby d1_8) rfl (tlt (by decide : (10 : Int32) < (15 : Int32))).2.1 ?_
    show Steps p.tables e below (T69.setTop (mkF m 11 #[.val (.int (15 : Int32)), .val (.ref b1), .val (.int (10 : Int32))] [])) _
    refine XS.aloadN X69.here hx rfl (hb hby d1_11) rfl rfl ?_
    show Steps p.tables e below (T69.setTop (mkF m 12 #[.val (.int (15 : Int32)), .val (.ref b1), .val (.int (10 : Int32))] [(.ref b1)])) _
    refine XS.iloadN X69.here hx rfl (hb hby d1_12) rfl ?_
    show Steps p.tables e below (T69.setTop (mkF m 13 #[.val (.int (15 : Int32)), .val (.ref b1), .val (.int (10 : Int32))] [(.int (10 : Int32)), (.ref b1)])) _
    refine XS.iloadN X69.here hx rfl (hb hby d1_13) rfl ?_
    show Steps p.tables e below (T69.setTop (mkF m 14 #[.val (.int (15 : Int32)), .val (.ref b1), .val (.int (10 : Int32))] [(.int (10 : Int32)), (.int (10 : Int32)), (.ref b1)])) _
    refine st76 _ ?_
    show Steps p.tables e below (T76.setTop (mkF m 15 #[.val (.int (15 : Int32)), .val (.ref b1), .val (.int (10 : Int32))] [])) _
    refine XS.iinc X76.here hx rfl (hb hby d1_15) rfl (l' := #[.val (.int (15 : Int32)), .val (.ref b1), .val (.int (11 : Int32))]) rfl ?_
    show Steps p.tables e below (T76.setTop (mkF m 18 #[.val (.int (15 : Int32)), .val (.ref b1), .val (.int (11 : Int32))] [])) _
    refine XS.goto X76.here hx rfl (pc0 := 18) (pc' := 6) rfl (hb hby d1_18) (by decide) (by decide) ?_
    show Steps p.tables e below (T76.setTop (mkF m 6 #[.val (.int (15 : Int32)), .val (.ref b1), .val (.int (11 : Int32))] [])) _
    refine XS.iloadN X76.here hx rfl (hb hby d1_6) rfl ?_
    show Steps p.tables e below (T76.setTop (mkF m 7 #[.val (.int (15 : Int32)), .val (.ref b1), .val (.int (11 : Int32))] [(.int (11 : Int32))])) _
    refine XS.iloadN X76.here hx rfl (hb hby d1_7) rfl ?_
    show Steps p.tables e below (T76.setTop (mkF m 8 #[.val (.int (15 : Int32)), .val (.ref b1), .val (.int (11 : Int32))] [(.int (15 : Int32)), (.int (11 : Int32))])) _
    refine XS.icmpNo X76.here hx rfl (hb hby d1_8) rfl (tlt (by decide : (11 : Int32) < (15 : Int32))).2.1 ?_
    show Steps p.tables e below (T76.setTop (mkF m 11 #[.val (.int (15 : Int32)), .val (.ref b1), .val (.int (11 : Int32))] [])) _
    refine XS.aloadN X76.here hx rfl (hb hby d1_11) rfl rfl ?_
    show Steps p.tables e below (T76.setTop (mkF m 12 #[.val (.int (15 : Int32)), .val (.ref b1), .val (.int (11 : Int32))] [(.ref b1)])) _
    refine XS.iloadN X76.here hx rfl (hb hby d1_12) rfl ?_
    show Steps p.tables e below (T76.setTop (mkF m 13 #[.val (.int (15 : Int32)), .val (.ref b1), .val (.int (11 : Int32))] [(.int (11 : Int32)), (.ref b1)])) _
    refine XS.iloadN X76.here hx rfl (hb hby d1_13) rfl ?_
    show Steps p.tables e below (T76.setTop (mkF m 14 #[.val (.int (15 : Int32)), .val (.ref b1), .val (.int (11 : Int32))] [(.int (11 : Int32)), (.int (11 : Int32)), (.ref b1)])) _
    refine st83 _ ?_
    show Steps p.tables e below (T83.setTop (mkF m 15 #[.val (.int (15 : Int32)), .val (.ref b1), .val (.int (11 : Int32))] [])) _
    refine XS.iinc X83.here hx rfl (hb hby d1_15) rfl (l' := #[.val (.int (15 : Int32)), .val (.ref b1), .val (.int (12 : Int32))]) rfl ?_
    show Steps p.tables e below (T83.setTop (mkF m 18 #[.val (.int (15 : Int32)), .val (.ref b1), .val (.int (12 : Int32))] [])) _
    refine XS.goto X83.here hx rfl (pc0 := 18) (pc' := 6) rfl (hb hby d1_18) (by decide) (by decide) ?_
    show Steps p.tables e below (T83.setTop (mkF m 6 #[.val (.int (15 : Int32)), .val (.ref b1), .val (.int (12 : Int32))] [])) _
    refine XS.iloadN X83.here hx rfl (hb hby d1_6) rfl ?_
    show Steps p.tables e below (T83.setTop (mkF m 7 #[.val (.int (15 : Int32)), .val (.ref b1), .val (.int (12 : Int32))] [(.int (12 : Int32))])) _
    refine XS.iloadN X83.here hx rfl (hb hby d1_7) rfl ?_
    show Steps p.tables e below (T83.setTop (mkF m 8 #[.val (.int (15 : Int32)), .val (.ref b1), .val (.int (12 : Int32))] [(.int (15 : Int32)), (.int (12 : Int32))])) _
    refine XS.icmpNo X83.here hx rfl (hb hby d1_8) rfl (tlt (by decide : (12 : Int32) < (15 : Int32))).2.1 ?_
    show Steps p.tables e below (T83.setTop (mkF m 11 #[.val (.int (15 : Int32)), .val (.ref b1), .val (.int (12 : Int32))] [])) _
    refine XS.aloadN X83.here hx rfl (hb hby d1_11) rfl rfl ?_
    show Steps p.tables e below (T83.setTop (mkF m 12 #[.val (.int (15 : Int32)), .val (.ref b1), .val (.int (12 : Int32))] [(.ref b1)])) _
    refine XS.iloadN X83.here hx rfl (hb hby d1_12) rfl ?_
    show Steps p.tables e below (T83.setTop (mkF m 13 #[.val (.int (15 : Int32)), .val (.ref b1), .val (.int (12 : Int32))] [(.int (12 : Int32)), (.ref b1)])) _
    refine XS.iloadN X83.here hx rfl (hb hby d1_13) rfl ?_
    show Steps p.tables e below (T83.setTop (mkF m 14 #[.val (.int (15 : Int32)), .val (.ref b1), .val (.int (12 : Int32))] [(.int (12 : Int32)), (.int (12 : Int32)), (.ref b1)])) _
    refine st90 _ ?_
    show Steps p.tables e below (T90.setTop (mkF m 15 #[.val (.int (15 : Int32)), .val (.ref b1), .val (.int (12 : Int32))] [])) _
    refine XS.iinc X90.here hx rfl (hb hby d1_15) rfl (l' := #[.val (.int (15 : Int32)), .val (.ref b1), .val (.int (13 : Int32))]) rfl ?_
    show Steps p.tables e below (T90.setTop (mkF m 18 #[.val (.int (15 : Int32)), .val (.ref b1), .val (.int (13 : Int32))] [])) _
    refine XS.goto X90.here hx rfl (pc0 := 18) (pc' := 6) rfl (hb hby d1_18) (by decide) (by decide) ?_
    show Steps p.tables e below (T90.setTop (mkF m 6 #[.val (.int (15 : Int32)), .val (.ref b1), .val (.int (13 : Int32))] [])) _
    refine XS.iloadN X90.here hx rfl (hb hby d1_6) rfl ?_
    show Steps p.tables e below (T90.setTop (mkF m 7 #[.val (.int (15 : Int32)), .val (.ref b1), .val (.int (13 : Int32))] [(.int (13 : Int32))])) _
    refine XS.iloadN X90.here hx rfl (hb hby d1_7) rfl ?_
    show Steps p.tables e below (T90.setTop (mkF m 8 #[.val (.int (15 : Int32)), .val (.ref b1), .val (.int (13 : Int32))] [(.int (15 : Int32)), (.int (13 : Int32))])) _
    refine XS.icmpNo X90.here hx rfl (hb hby d1_8) rfl (tlt (by decide : (13 : Int32) < (15 : Int32))).2.1 ?_
    show Steps p.tables e below (T90.setTop (mkF m 11 #[.val (.int (15 : Int32)), .val (.ref b1), .val (.int (13 : Int32))] [])) _
    refine XS.aloadN X90.here hx rfl (hb hby d1_11) rfl rfl ?_
    show Steps p.tables e below (T90.setTop (mkF m 12 #[.val (.int (15 : Int32)), .val (.ref b1), .val (.int (13 : Int32))] [(.ref b1)])) _
    refine XS.iloadN X90.here hx rfl (hb hby d1_12) rfl ?_
    show Steps p.tables e below (T90.setTop (mkF m 13 #[.val (.int (15 : Int32)), .val (.ref b1), .val (.int (13 : Int32))] [(.int (13 : Int32)), (.ref b1)])) _
    refine XS.iloadN X90.here hx rfl (hb hby d1_13) rfl ?_
    show Steps p.tables e below (T90.setTop (mkF m 14 #[.val (.int (15 : Int32)), .val (.ref b1), .val (.int (13 : Int32))] [(.int (13 : Int32)), (.int (13 : Int32)), (.ref b1)])) _
    refine st97 _ ?_
    show Steps p.tables e below (T97.setTop (mkF m 15 #[.val (.int (15 : Int32)), .val (.ref b1), .val (.int (13 : Int32))] [])) _
    refine XS.iinc X97.here hx rfl (hb hby d1_15) rfl (l' := #[.val (.int (15 : Int32)), .val (.ref b1), .val (.int (14 : Int32))]) rfl ?_
    show Steps p.tables e below (T97.setTop (mkF m 18 #[.val (.int (15 : Int32)), .val (.ref b1), .val (.int (14 : Int32))] [])) _
    refine XS.goto X97.here hx rfl (pc0 := 18) (pc' := 6) rfl (hb hby d1_18) (by decide) (by decide) ?_
    show Steps p.tables e below (T97.setTop (mkF m 6 #[.val (.int (15 : Int32)), .val (.ref b1), .val (.int (14 : Int32))] [])) _
    refine XS.iloadN X97.here hx rfl (hb hby d1_6) rfl ?_
    show Steps p.tables e below (T97.setTop (mkF m 7 #[.val (.int (15 : Int32)), .val (.ref b1), .val (.int (14 : Int32))] [(.int (14 : Int32))])) _
    refine XS.iloadN X97.here hx rfl (hb hby d1_7) rfl ?_
    show Steps p.tables e below (T97.setTop (mkF m 8 #[.val (.int (15 : Int32)), .val (.ref b1), .val (.int (14 : Int32))] [(.int (15 : Int32)), (.int (14 : Int32))])) _
    refine XS.icmpNo X97.here hx rfl (hb hby d1_8) rfl (tlt (by decide : (14 : Int32) < (15 : Int32))).2.1 ?_
    show Steps p.tables e below (T97.setTop (mkF m 11 #[.val (.int (15 : Int32)), .val (.ref b1), .val (.int (14 : Int32))] [])) _
    refine XS.aloadN X97.here hx rfl (hb hby d1_11) rfl rfl ?_
    show Steps p.tables e below (T97.setTop (mkF m 12 #[.val (.int (15 : Int32)), .val (.ref b1), .val (.int (14 : Int32))] [(.ref b1)])) _
    refine XS.iloadN X97.here hx rfl (hb hby d1_12) rfl ?_
    show Steps p.tables e below (T97.setTop (mkF m 13 #[.val (.int (15 : Int32)), .val (.ref b1), .val (.int (14 : Int32))] [(.int (14 : Int32)), (.ref b1)])) _
    refine XS.iloadN X97.here hx rfl (hb hby d1_13) rfl ?_
    show Steps p.tables e below (T97.setTop (mkF m 14 #[.val (.int (15 : Int32)), .val (.ref b1), .val (.int (14 : Int32))] [(.int (14 : Int32)), (.int (14 : Int32)), (.ref b1)])) _
    refine st104 _ ?_
    show Steps p.tables e below (T104.setTop (mkF m 15 #[.val (.int (15 : Int32)), .val (.ref b1), .val (.int (14 : Int32))] [])) _
    refine XS.iinc X104.here hx rfl (hb hby d1_15) rfl (l' := #[.val (.int (15 : Int32)), .val (.ref b1), .val (.int (15 : Int32))]) rfl ?_
    show Steps p.tables e below (T104.setTop (mkF m 18 #[.val (.int (15 : Int32)), .val (.ref b1), .val (.int (15 : Int32))] [])) _
    refine XS.goto X104.here hx rfl (pc0 := 18) (pc' := 6) rfl (hb hby d1_18) (by decide) (by decide) ?_
    show Steps p.tables e below (T104.setTop (mkF m 6 #[.val (.int (15 : Int32)), .val (.ref b1), .val (.int (15 : Int32))] [])) _
    refine XS.iloadN X104.here hx rfl (hb hby d1_6) rfl ?_
    show Steps p.tables e below (T104.setTop (mkF m 7 #[.val (.int (15 : Int32)), .val (.ref b1), .val (.int (15 : Int32))] [(.int (15 : Int32))])) _
    refine XS.iloadN X104.here hx rfl (hb hby d1_7) rfl ?_
    show Steps p.tables e below (T104.setTop (mkF m 8 #[.val (.int (15 : Int32)), .val (.ref b1), .val (.int (15 : Int32))] [(.int (15 : Int32)), (.int (15 : Int32))])) _
    refine XS.icmpYes X104.here hx rfl (pc0 := 8) (pc' := 21) rfl (hb hby d1_8) rfl (flt (by decide : ¬ ((15 : Int32) < (15 : Int32)))).2.1 (by decide) (by decide) ?_
    show Steps p.tables e below (T104.setTop (mkF m 21 #[.val (.int (15 : Int32)), .val (.ref b1), .val (.int (15 : Int32))] [])) _
    refine XS.aloadN X104.here hx rfl (hb hby d1_21) rfl rfl ?_
    show Steps p.tables e below (T104.setTop (mkF m 22 #[.val (.int (15 : Int32)), .val (.ref b1), .val (.int (15 : Int32))] [(.ref b1)])) _
    exact retOut X104 hx (t := (.array .int)) (i := .areturn) Bd.returns rfl (Or.inr (Or.inr (Or.inr (Or.inr ⟨rfl, rfl, rfl⟩)))) (hb hby d1_22) hr
  · show Q_pos15 Z  h0 n0 _ T104.heap _
    rw [e104]
    exact ⟨b1, k1, rfl, N108, g_b1, sz_b1, K107, f106, f110⟩
def Q_pos (Z : State) (p1 : Int32) (h0 : Heap) (n0 : Nat) (v : Option Value) (h : Heap) (L : List Loc) : Prop := ∃ (o1 : Addr), ∃ (ko1 : ClassId), v = some (.ref o1) ∧ Fr n0 L ∧ n0 ≤ o1 ∧ h0.size ≤ o1 ∧ Keep h0 h [] ∧ Exa Z h o1 "[I" ∧ Arv Z h o1 ko1 .int p1 own_ids (.int (0 : Int32))
set_option maxRecDepth 65536 in
set_option maxHeartbeats 40000000 in
theorem rm_pos (l : Launch) (Z : State) (a0 : Array Value) (hw : ∀ d ∈ tables_1, d.before a0 Z = true) (ws : List Jvm.Cond) (p1 : Int32) (h0 : Heap) (n0 : Nat) (Z0 : n0 ≤ h0.size) (hm : own_M15 p1) :
    MetFree l (⟨"com/example/trawl/trawl/gen/FisherYates", "positions", "(I)[I"⟩ : MethodName) (head1 (Jvm.Cond.code (⟨"com/example/trawl/trawl/gen/FisherYates", "positions", "(I)[I"⟩ : MethodName) prog_1_method_2_code 3 (some (.array .int)) :: ws) ({ frames := 0, cells := 1, slots := 16, locals := 0 } : Room)) (fun a U => a = #[(.int p1)] ∧ Z.Warmed39 U.vm ∧ U.heap = h0) (fun _ _ _ _ _ => True) (fun _ U o U' => ∃ v L, o = .returned v ∧ Q_pos Z p1 h0 n0 v U'.heap L ∧ FrameEnd U o U' L ({ frames := 0, cells := 1, slots := 16, locals := 0 } : Room).cells ({ frames := 0, cells := 1, slots := 16, locals := 0 } : Room).slots) := by
  rcases hm with rfl | rfl | rfl | rfl | rfl | rfl | rfl | rfl | rfl | rfl | rfl | rfl | rfl | rfl | rfl | rfl
  · exact rm_pos0 l Z a0 hw ws h0 n0 Z0
  · exact rm_pos1 l Z a0 hw ws h0 n0 Z0
  · exact rm_pos2 l Z a0 hw ws h0 n0 Z0
  · exact rm_pos3 l Z a0 hw ws h0 n0 Z0
  · exact rm_pos4 l Z a0 hw ws h0 n0 Z0
  · exact rm_pos5 l Z a0 hw ws h0 n0 Z0
  · exact rm_pos6 l Z a0 hw ws h0 n0 Z0
  · exact rm_pos7 l Z a0 hw ws h0 n0 Z0
  · exact rm_pos8 l Z a0 hw ws h0 n0 Z0
  · exact rm_pos9 l Z a0 hw ws h0 n0 Z0
  · exact rm_pos10 l Z a0 hw ws h0 n0 Z0
  · exact rm_pos11 l Z a0 hw ws h0 n0 Z0
  · exact rm_pos12 l Z a0 hw ws h0 n0 Z0
  · exact rm_pos13 l Z a0 hw ws h0 n0 Z0
  · exact rm_pos14 l Z a0 hw ws h0 n0 Z0
  · exact rm_pos15 l Z a0 hw ws h0 n0 Z0
theorem d2_0 : decode method_2_code 0 = .ok (.iload_n 1, 1) := by decide +kernel
theorem d2_1 : decode method_2_code 1 = .ok (.aload_n 0, 1) := by decide +kernel
theorem d2_2 : decode method_2_code 2 = .ok (.arraylength, 1) := by decide +kernel
theorem d2_3 : decode method_2_code 3 = .ok (.if_icmp .ge 10, 3) := by decide +kernel
theorem d2_13 : decode method_2_code 13 = .ok (.iconst 1, 1) := by decide +kernel
theorem d2_14 : decode method_2_code 14 = .ok (.goto 4, 3) := by decide +kernel
theorem d2_18 : decode method_2_code 18 = .ok (.ireturn, 1) := by decide +kernel
theorem d2_6 : decode method_2_code 6 = .ok (.aload_n 0, 1) := by decide +kernel
theorem d2_7 : decode method_2_code 7 = .ok (.iload_n 1, 1) := by decide +kernel
theorem d2_8 : decode method_2_code 8 = .ok (.iaload, 1) := by decide +kernel
theorem d2_9 : decode method_2_code 9 = .ok (.iload_n 1, 1) := by decide +kernel
theorem d2_10 : decode method_2_code 10 = .ok (.if_icmp .ne 7, 3) := by decide +kernel
theorem pn_com_example_trawl_trawl_gen_FisherYatesPositionsPinLaw : plainName "com/example/trawl/trawl/gen/FisherYatesPositionsPinLaw" = true := by first | (simp [plainName, overriddenIn]; done) | decide +kernel
theorem ef_2_RI (m : MethodId) (x0 : Addr) (x1 : Int32) : entryFrame m #[(.ref x0), (.int x1)] 2 = mkF m 0 #[.val (.ref x0), .val (.int x1)] [] := by first | (simp [entryFrame, mkF, argsToLocals, Value.category]; done) | rfl
def Q_at (Z : State) (a1 : Addr) (p2 : Int32) (k_a1 : ClassId) (n_a1 : Int32) (vs_a1 : List Value) (h0 : Heap) (n0 : Nat) (v : Option Value) (h : Heap) (L : List Loc) : Prop := v = some (.int (1 : Int32)) ∧ Fr n0 L ∧ h = h0
set_option maxRecDepth 65536 in
set_option maxHeartbeats 40000000 in
theorem rm_at_t (l : Launch) (Z : State) (a0 : Array Value) (hw : ∀ d ∈ tables_1, d.before a0 Z = true) (ws : List Jvm.Cond) (a1 : Addr) (p2 : Int32) (k_a1 : ClassId) (n_a1 : Int32) (vs_a1 : List Value) (h0 : Heap) (n0 : Nat) (Z0 : n0 ≤ h0.size) (V_a1 : Arv Z h0 a1 k_a1 .int n_a1 vs_a1 (.int (0 : Int32))) (hc0 : ¬ (p2 < n_a1)) :
    MetFree l (⟨"com/example/trawl/trawl/gen/FisherYatesPositionsPinLaw", "at", "([II)Z"⟩ : MethodName) (head1 (Jvm.Cond.code (⟨"com/example/trawl/trawl/gen/FisherYatesPositionsPinLaw", "at", "([II)Z"⟩ : MethodName) method_2_code 2 (some .boolean) :: ws) ({ frames := 0, cells := 0, slots := 0, locals := 0 } : Room)) (fun a U => a = #[(.ref a1), (.int p2)] ∧ Z.Warmed39 U.vm ∧ U.heap = h0) (fun _ _ _ _ _ => True) (fun _ U o U' => ∃ v L, o = .returned v ∧ Q_at Z a1 p2 k_a1 n_a1 vs_a1 h0 n0 v U'.heap L ∧ FrameEnd U o U' L ({ frames := 0, cells := 0, slots := 0, locals := 0 } : Room).cells ({ frames := 0, cells := 0, slots := 0, locals := 0 } : Room).slots) := by
  refine MetFree.of_bodySF (plainFor_of_name pn_com_example_trawl_trawl_gen_FisherYatesPositionsPinLaw) hisR ?_
  intro p e s m args below meth c s₁ Bd hml0 hP hK
  obtain ⟨rfl, hZ, hh⟩ := hP
  have hx := Bd.exec
  have hby := Bd.bytes
  have hml : c.maxLocals = 2 := hml0
  have hown : s.vm.findClass "com/example/trawl/trawl/gen/FisherYatesPositionsPinLaw" = some m.cls := findClass_of_methodNamed Bd.named
  have hnm := (name_of_methodNamed Bd.named Bd.method).1
  have X0 : Stand p l e ({ frames := 0, cells := 0, slots := 0, locals := 0 } : Room) s m #[(.ref a1), (.int p2)] below meth c s₁ [] 0 0 := Stand.of_body Bd
  have e0 : s₁.heap = h0 := by rw [← hh, Bd.state]; rfl
  have N0 := Fr.nil n0
  have pre0 : ∀ t, Steps p.tables e below (s₁.setTop (mkF m 0 #[.val (.ref a1), .val (.int p2)] [])) t → Steps p.tables e below (s₁.setTop (entryFrame m #[(.ref a1), (.int p2)] 2)) t := fun t k => castTop (ef_2_RI m a1 p2) k
  obtain ⟨clo1, Aro1, -, So1, No1, -, -⟩ := id V_a1
  obtain ⟨fs, hr, hrun, hended, hW, hsame⟩ := X0.leave (v := some (.int (1 : Int32))) (fun h => by rw [Bd.returns] at h; cases h) Bd.notSynchronized
  refine ⟨_, _, pre0 _ ?_, hrun, hended, _, _, rfl, ?_, ⟨_, rfl⟩, hW, hsame.mono (by decide) (by decide)⟩
  · show Steps p.tables e below (s₁.setTop (mkF m 0 #[.val (.ref a1), .val (.int p2)] [])) _
    refine XS.iloadN X0.here hx rfl (hb hby d2_0) rfl ?_
    show Steps p.tables e below (s₁.setTop (mkF m 1 #[.val (.ref a1), .val (.int p2)] [(.int p2)])) _
    refine XS.aloadN X0.here hx rfl (hb hby d2_1) rfl rfl ?_
    show Steps p.tables e below (s₁.setTop (mkF m 2 #[.val (.ref a1), .val (.int p2)] [(.ref a1), (.int p2)])) _
    refine X0.arraylength hx (by rw [e0]; exact Aro1.1) (State.isArrayOf_alike hZ.alike Aro1.2.1) (g := (mkF m 2 #[.val (.ref a1), .val (.int p2)] [(.ref a1), (.int p2)])) rfl rfl (hb hby d2_2) _ ?_
    rw [len_of So1 No1]
    show Steps p.tables e below (s₁.setTop (mkF m 3 #[.val (.ref a1), .val (.int p2)] [(.int n_a1), (.int p2)])) _
    refine XS.icmpYes X0.here hx rfl (pc0 := 3) (pc' := 13) rfl (hb hby d2_3) rfl (flt hc0).2.1 (by decide) (by decide) ?_
    show Steps p.tables e below (s₁.setTop (mkF m 13 #[.val (.ref a1), .val (.int p2)] [])) _
    refine XS.iconst X0.here hx rfl (hb hby d2_13) ?_
    show Steps p.tables e below (s₁.setTop (mkF m 14 #[.val (.ref a1), .val (.int p2)] [(.int (1 : Int32))])) _
    refine XS.goto X0.here hx rfl (pc0 := 14) (pc' := 18) rfl (hb hby d2_14) (by decide) (by decide) ?_
    show Steps p.tables e below (s₁.setTop (mkF m 18 #[.val (.ref a1), .val (.int p2)] [(.int (1 : Int32))])) _
    exact retN X0 hx (t := .boolean) Bd.returns (by simp) (hb hby d2_18) hr
  · show Q_at Z a1 p2 k_a1 n_a1 vs_a1 h0 n0 _ s₁.heap _
    rw [e0]
    exact ⟨rfl, N0, rfl⟩
set_option maxRecDepth 65536 in
set_option maxHeartbeats 40000000 in
theorem rm_at_ff (l : Launch) (Z : State) (a0 : Array Value) (hw : ∀ d ∈ tables_1, d.before a0 Z = true) (ws : List Jvm.Cond) (a1 : Addr) (p2 : Int32) (k_a1 : ClassId) (n_a1 : Int32) (vs_a1 : List Value) (h0 : Heap) (n0 : Nat) (Z0 : n0 ≤ h0.size) (V_a1 : Arv Z h0 a1 k_a1 .int n_a1 vs_a1 (.int (0 : Int32))) (hp0 : ¬ (p2 < (0 : Int32))) (hp1 : (own_at vs_a1 (p2).toNatClampNeg (.int (0 : Int32))) = p2) (hc0 : p2 < n_a1) :
    MetFree l (⟨"com/example/trawl/trawl/gen/FisherYatesPositionsPinLaw", "at", "([II)Z"⟩ : MethodName) (head1 (Jvm.Cond.code (⟨"com/example/trawl/trawl/gen/FisherYatesPositionsPinLaw", "at", "([II)Z"⟩ : MethodName) method_2_code 2 (some .boolean) :: ws) ({ frames := 0, cells := 0, slots := 0, locals := 0 } : Room)) (fun a U => a = #[(.ref a1), (.int p2)] ∧ Z.Warmed39 U.vm ∧ U.heap = h0) (fun _ _ _ _ _ => True) (fun _ U o U' => ∃ v L, o = .returned v ∧ Q_at Z a1 p2 k_a1 n_a1 vs_a1 h0 n0 v U'.heap L ∧ FrameEnd U o U' L ({ frames := 0, cells := 0, slots := 0, locals := 0 } : Room).cells ({ frames := 0, cells := 0, slots := 0, locals := 0 } : Room).slots) := by
  refine MetFree.of_bodySF (plainFor_of_name pn_com_example_trawl_trawl_gen_FisherYatesPositionsPinLaw) hisR ?_
  intro p e s m args below meth c s₁ Bd hml0 hP hK
  obtain ⟨rfl, hZ, hh⟩ := hP
  have hx := Bd.exec
  have hby := Bd.bytes
  have hml : c.maxLocals = 2 := hml0
  have hown : s.vm.findClass "com/example/trawl/trawl/gen/FisherYatesPositionsPinLaw" = some m.cls := findClass_of_methodNamed Bd.named
  have hnm := (name_of_methodNamed Bd.named Bd.method).1
  have X0 : Stand p l e ({ frames := 0, cells := 0, slots := 0, locals := 0 } : Room) s m #[(.ref a1), (.int p2)] below meth c s₁ [] 0 0 := Stand.of_body Bd
  have e0 : s₁.heap = h0 := by rw [← hh, Bd.state]; rfl
  have N0 := Fr.nil n0
  have pre0 : ∀ t, Steps p.tables e below (s₁.setTop (mkF m 0 #[.val (.ref a1), .val (.int p2)] [])) t → Steps p.tables e below (s₁.setTop (entryFrame m #[(.ref a1), (.int p2)] 2)) t := fun t k => castTop (ef_2_RI m a1 p2) k
  obtain ⟨clo1, Aro1, -, So1, No1, -, -⟩ := id V_a1
  obtain ⟨clo2, Aro2, qo2, So2, No2, Ho2, Go2⟩ := id V_a1
  have hino2 : ¬ (p2 < 0 ∨ clo2.slots.size ≤ (p2).toNatClampNeg) := inb_of So2 ⟨hp0, hc0⟩
  obtain ⟨fs, hr, hrun, hended, hW, hsame⟩ := X0.leave (v := some (.int (1 : Int32))) (fun h => by rw [Bd.returns] at h; cases h) Bd.notSynchronized
  refine ⟨_, _, pre0 _ ?_, hrun, hended, _, _, rfl, ?_, ⟨_, rfl⟩, hW, hsame.mono (by decide) (by decide)⟩
  · show Steps p.tables e below (s₁.setTop (mkF m 0 #[.val (.ref a1), .val (.int p2)] [])) _
    refine XS.iloadN X0.here hx rfl (hb hby d2_0) rfl ?_
    show Steps p.tables e below (s₁.setTop (mkF m 1 #[.val (.ref a1), .val (.int p2)] [(.int p2)])) _
    refine XS.aloadN X0.here hx rfl (hb hby d2_1) rfl rfl ?_
    show Steps p.tables e below (s₁.setTop (mkF m 2 #[.val (.ref a1), .val (.int p2)] [(.ref a1), (.int p2)])) _
    refine X0.arraylength hx (by rw [e0]; exact Aro1.1) (State.isArrayOf_alike hZ.alike Aro1.2.1) (g := (mkF m 2 #[.val (.ref a1), .val (.int p2)] [(.ref a1), (.int p2)])) rfl rfl (hb hby d2_2) _ ?_
    rw [len_of So1 No1]
    show Steps p.tables e below (s₁.setTop (mkF m 3 #[.val (.ref a1), .val (.int p2)] [(.int n_a1), (.int p2)])) _
    refine XS.icmpNo X0.here hx rfl (hb hby d2_3) rfl (tlt hc0).2.1 ?_
    show Steps p.tables e below (s₁.setTop (mkF m 6 #[.val (.ref a1), .val (.int p2)] [])) _
    refine XS.aloadN X0.here hx rfl (hb hby d2_6) rfl rfl ?_
    show Steps p.tables e below (s₁.setTop (mkF m 7 #[.val (.ref a1), .val (.int p2)] [(.ref a1)])) _
    refine XS.iloadN X0.here hx rfl (hb hby d2_7) rfl ?_
    show Steps p.tables e below (s₁.setTop (mkF m 8 #[.val (.ref a1), .val (.int p2)] [(.int p2), (.ref a1)])) _
    refine X0.iaload hx (j := p2) (v := (.int (own_at vs_a1 (p2).toNatClampNeg (.int (0 : Int32))))) (by rw [e0]; exact Aro2.1) (State.isArrayOf_alike hZ.alike Aro2.2.1) Aro2.2.2 hino2 (Ho2.at hino2 (own_at_eq (Go2 _ (Nat.lt_of_not_le fun y => hino2 (Or.inr y))) (by simp))) (g := (mkF m 8 #[.val (.ref a1), .val (.int p2)] [(.int p2), (.ref a1)])) rfl rfl (hb hby d2_8) _ ?_
    show Steps p.tables e below (s₁.setTop (mkF m 9 #[.val (.ref a1), .val (.int p2)] [(.int (own_at vs_a1 (p2).toNatClampNeg (.int (0 : Int32))))])) _
    refine XS.iloadN X0.here hx rfl (hb hby d2_9) rfl ?_
    show Steps p.tables e below (s₁.setTop (mkF m 10 #[.val (.ref a1), .val (.int p2)] [(.int p2), (.int (own_at vs_a1 (p2).toNatClampNeg (.int (0 : Int32))))])) _
    refine XS.icmpNo X0.here hx rfl (hb hby d2_10) rfl (teq hp1).2 ?_
    show Steps p.tables e below (s₁.setTop (mkF m 13 #[.val (.ref a1), .val (.int p2)] [])) _
    refine XS.iconst X0.here hx rfl (hb hby d2_13) ?_
    show Steps p.tables e below (s₁.setTop (mkF m 14 #[.val (.ref a1), .val (.int p2)] [(.int (1 : Int32))])) _
    refine XS.goto X0.here hx rfl (pc0 := 14) (pc' := 18) rfl (hb hby d2_14) (by decide) (by decide) ?_
    show Steps p.tables e below (s₁.setTop (mkF m 18 #[.val (.ref a1), .val (.int p2)] [(.int (1 : Int32))])) _
    exact retN X0 hx (t := .boolean) Bd.returns (by simp) (hb hby d2_18) hr
  · show Q_at Z a1 p2 k_a1 n_a1 vs_a1 h0 n0 _ s₁.heap _
    rw [e0]
    exact ⟨rfl, N0, rfl⟩
set_option maxRecDepth 65536 in
set_option maxHeartbeats 40000000 in
theorem rm_at (l : Launch) (Z : State) (a0 : Array Value) (hw : ∀ d ∈ tables_1, d.before a0 Z = true) (ws : List Jvm.Cond) (a1 : Addr) (p2 : Int32) (k_a1 : ClassId) (n_a1 : Int32) (vs_a1 : List Value) (h0 : Heap) (n0 : Nat) (Z0 : n0 ≤ h0.size) (V_a1 : Arv Z h0 a1 k_a1 .int n_a1 vs_a1 (.int (0 : Int32))) (hp0 : ¬ (p2 < (0 : Int32))) (hp1 : (own_at vs_a1 (p2).toNatClampNeg (.int (0 : Int32))) = p2) :
    MetFree l (⟨"com/example/trawl/trawl/gen/FisherYatesPositionsPinLaw", "at", "([II)Z"⟩ : MethodName) (head1 (Jvm.Cond.code (⟨"com/example/trawl/trawl/gen/FisherYatesPositionsPinLaw", "at", "([II)Z"⟩ : MethodName) method_2_code 2 (some .boolean) :: ws) ({ frames := 0, cells := 0, slots := 0, locals := 0 } : Room)) (fun a U => a = #[(.ref a1), (.int p2)] ∧ Z.Warmed39 U.vm ∧ U.heap = h0) (fun _ _ _ _ _ => True) (fun _ U o U' => ∃ v L, o = .returned v ∧ Q_at Z a1 p2 k_a1 n_a1 vs_a1 h0 n0 v U'.heap L ∧ FrameEnd U o U' L ({ frames := 0, cells := 0, slots := 0, locals := 0 } : Room).cells ({ frames := 0, cells := 0, slots := 0, locals := 0 } : Room).slots) := by
  by_cases c0 : p2 < n_a1
  · skip
    exact rm_at_ff l Z a0 hw ws a1 p2 k_a1 n_a1 vs_a1 h0 n0 Z0 V_a1 hp0 hp1 c0
  · skip
    exact rm_at_t l Z a0 hw ws a1 p2 k_a1 n_a1 vs_a1 h0 n0 Z0 V_a1 c0
theorem pd_0 : parseMethodDescriptor "(I)[I" = some ⟨[.int], some (.array .int)⟩ := by decide +kernel
theorem pd_1 : parseMethodDescriptor "([II)Z" = some ⟨[(.array .int), .int], some .boolean⟩ := by decide +kernel
theorem ef_0_I (m : MethodId) (x0 : Int32) : entryFrame m #[(.int x0)] maxLocals = mkF m 0 #[.val (.int x0), .unset, .unset] [] := by first | (simp [entryFrame, mkF, argsToLocals, Value.category, maxLocals]; done) | rfl
def Q_law (Z : State) (p1 : Int32) (h0 : Heap) (n0 : Nat) (v : Option Value) (h : Heap) (L : List Loc) : Prop := v = some (.int (1 : Int32)) ∧ Fr n0 L
def Road_e (p1 : Int32) : Prop := (own_M15 (p1 &&& (15 : Int32)))
set_option maxRecDepth 65536 in
set_option maxHeartbeats 40000000 in
theorem rm_law_e (l : Launch) (Z : State) (a0 : Array Value) (hw : ∀ d ∈ tables_1, d.before a0 Z = true) (ws : List Jvm.Cond) (p1 : Int32) (h0 : Heap) (n0 : Nat) (Z0 : n0 ≤ h0.size) (hroad : Road_e p1) :
    MetFree l x (head1 (Jvm.Cond.code x code maxLocals ret :: ws) room_1) (fun a U => a = #[(.int p1)] ∧ Z.Warmed39 U.vm ∧ U.heap = h0) (fun _ _ _ _ _ => True) (fun _ U o U' => ∃ v L, o = .returned v ∧ Q_law Z p1 h0 n0 v U'.heap L ∧ FrameEnd U o U' L room_1.cells room_1.slots) := by
  have hp0 : own_M15 (p1 &&& (15 : Int32)) := hroad
  refine MetFree.of_bodySF (plainFor_of_name pn_com_example_trawl_trawl_gen_FisherYatesPositionsPinLaw) hisR ?_
  intro p e s m args below meth c s₁ Bd hml0 hP hK
  obtain ⟨rfl, hZ, hh⟩ := hP
  have hx := Bd.exec
  have hby := Bd.bytes
  have hml : c.maxLocals = 3 := hml0
  have hown : s.vm.findClass "com/example/trawl/trawl/gen/FisherYatesPositionsPinLaw" = some m.cls := findClass_of_methodNamed Bd.named
  have hnm := (name_of_methodNamed Bd.named Bd.method).1
  have X0 : Stand p l e room_1 s m #[(.int p1)] below meth c s₁ [] 0 0 := Stand.of_body Bd
  have e0 : s₁.heap = h0 := by rw [← hh, Bd.state]; rfl
  have N0 := Fr.nil n0
  have pre0 : ∀ t, Steps p.tables e below (s₁.setTop (mkF m 0 #[.val (.int p1), .unset, .unset] [])) t → Steps p.tables e below (s₁.setTop (entryFrame m #[(.int p1)] maxLocals)) t := fun t k => castTop (ef_0_I m p1) k
  obtain ⟨_, _, ⟨T1, L1, k1, n1⟩, -, X1, ⟨Lc1, hQ1, l1, y1, z1⟩, st1⟩ := Jvm.LawKit.callS X0 hx (y := (⟨"com/example/trawl/trawl/gen/FisherYates", "positions", "(I)[I"⟩ : MethodName)) hown (mvT hZ (hw _ (List.mem_of_getElem? (i := 0) rfl))) (mvT hZ (hw _ (List.mem_of_getElem? (i := 1) rfl))) (mvT hZ (hw _ (List.mem_of_getElem? (i := 2) rfl))) (mvT hZ (hw _ (List.mem_of_getElem? (i := 3) rfl))) (by decide) (backOf (W := 0) (rm_pos l Z a0 hw [] (p1 &&& (15 : Int32)) h0 n0 Z0 hp0) hZ (hw _ (List.mem_of_getElem? (i := 3) rfl)) (hw _ (List.mem_of_getElem? (i := 2) rfl)) (by decide) (by decide)) (g := (mkF m 6 #[.val (.int p1), .val (.int (p1 &&& (15 : Int32))), .unset] [(.int (p1 &&& (15 : Int32)))])) rfl (by rw [hml]; rfl) (argsL := [(.int (p1 &&& (15 : Int32)))]) (rest := []) (lenOf pd_0 rfl) rfl (by show 2 * 0 + _ ≤ _; exact Nat.le_of_eq rfl) (hb hby at_6) (fun _ _ => ⟨rfl, e0, (by decide : 0 + 1 ≤ _), (by decide : 0 + 16 ≤ _)⟩)
  dsimp only [Pt.U, Pt.locs, Pt.cells, Pt.slots] at X1 l1 y1 z1 st1 hQ1
  subst l1 y1 z1
  obtain ⟨b1_1, k1_2, rfl, Nq1, g_b1_1, szq_b1_1, Kc1, fq1_0, fq1_1⟩ := hQ1
  have f3 : Arv Z T1.heap b1_1 k1_2 .int (p1 &&& (15 : Int32)) own_ids (.int (0 : Int32)) := fq1_1
  have Zs4 : n0 ≤ T1.heap.size := Nat.le_trans Z0 Kc1.1
  have N2 := Fr.app N0 Nq1
  obtain ⟨clo5, Aro5, -, So5, No5, -, -⟩ := id f3
  obtain ⟨_, _, ⟨T6, L6, k6, n6⟩, -, X6, ⟨Lc6, hQ6, l6, y6, z6⟩, st6⟩ := Jvm.LawKit.callS X1 hx (y := (⟨"com/example/trawl/trawl/gen/FisherYatesPositionsPinLaw", "at", "([II)Z"⟩ : MethodName)) hown (mvT hZ (hw _ (List.mem_of_getElem? (i := 5) rfl))) (mvT hZ (hw _ (List.mem_of_getElem? (i := 6) rfl))) (mvT hZ (hw _ (List.mem_of_getElem? (i := 7) rfl))) (mvT hZ (hw _ (List.mem_of_getElem? (i := 8) rfl))) (by decide) (backOf (W := 0) (rm_at l Z a0 hw [] b1_1 (0 : Int32) k1_2 (p1 &&& (15 : Int32)) own_ids T1.heap n0 Zs4 f3 (by decide) (by decide)) hZ (hw _ (List.mem_of_getElem? (i := 8) rfl)) (hw _ (List.mem_of_getElem? (i := 7) rfl)) (by decide) (by decide)) (g := (mkF m 24 #[.val (.int p1), .val (.int (p1 &&& (15 : Int32))), .val (.ref b1_1)] [(.int (0 : Int32)), (.ref b1_1)])) rfl (by rw [hml]; rfl) (argsL := [(.ref b1_1), (.int (0 : Int32))]) (rest := []) (lenOf pd_1 rfl) rfl (by show 2 * 0 + _ ≤ _; exact Nat.le_of_eq rfl) (hb hby at_24) (fun _ _ => ⟨rfl, rfl, (by decide : 1 + 0 ≤ _), (by decide : 16 + 0 ≤ _)⟩)
  dsimp only [Pt.U, Pt.locs, Pt.cells, Pt.slots] at X6 l6 y6 z6 st6 hQ6
  subst l6 y6 z6
  obtain ⟨rfl, Nq6, e6⟩ := hQ6
  have N7 := Fr.app N2 Nq6
  obtain ⟨_, _, ⟨T8, L8, k8, n8⟩, -, X8, ⟨Lc8, hQ8, l8, y8, z8⟩, st8⟩ := Jvm.LawKit.callS X6 hx (y := (⟨"com/example/trawl/trawl/gen/FisherYatesPositionsPinLaw", "at", "([II)Z"⟩ : MethodName)) hown (mvT hZ (hw _ (List.mem_of_getElem? (i := 5) rfl))) (mvT hZ (hw _ (List.mem_of_getElem? (i := 6) rfl))) (mvT hZ (hw _ (List.mem_of_getElem? (i := 7) rfl))) (mvT hZ (hw _ (List.mem_of_getElem? (i := 8) rfl))) (by decide) (backOf (W := 0) (rm_at l Z a0 hw [] b1_1 (1 : Int32) k1_2 (p1 &&& (15 : Int32)) own_ids T1.heap n0 Zs4 f3 (by decide) (by decide)) hZ (hw _ (List.mem_of_getElem? (i := 8) rfl)) (hw _ (List.mem_of_getElem? (i := 7) rfl)) (by decide) (by decide)) (g := (mkF m 32 #[.val (.int p1), .val (.int (p1 &&& (15 : Int32))), .val (.ref b1_1)] [(.int (1 : Int32)), (.ref b1_1)])) rfl (by rw [hml]; rfl) (argsL := [(.ref b1_1), (.int (1 : Int32))]) (rest := []) (lenOf pd_1 rfl) rfl (by show 2 * 0 + _ ≤ _; exact Nat.le_of_eq rfl) (hb hby at_32) (fun _ _ => ⟨rfl, e6, (by decide : 1 + 0 ≤ _), (by decide : 16 + 0 ≤ _)⟩)
  dsimp only [Pt.U, Pt.locs, Pt.cells, Pt.slots] at X8 l8 y8 z8 st8 hQ8
  subst l8 y8 z8
  obtain ⟨rfl, Nq8, e8⟩ := hQ8
  have N9 := Fr.app N7 Nq8
  obtain ⟨_, _, ⟨T10, L10, k10, n10⟩, -, X10, ⟨Lc10, hQ10, l10, y10, z10⟩, st10⟩ := Jvm.LawKit.callS X8 hx (y := (⟨"com/example/trawl/trawl/gen/FisherYatesPositionsPinLaw", "at", "([II)Z"⟩ : MethodName)) hown (mvT hZ (hw _ (List.mem_of_getElem? (i := 5) rfl))) (mvT hZ (hw _ (List.mem_of_getElem? (i := 6) rfl))) (mvT hZ (hw _ (List.mem_of_getElem? (i := 7) rfl))) (mvT hZ (hw _ (List.mem_of_getElem? (i := 8) rfl))) (by decide) (backOf (W := 0) (rm_at l Z a0 hw [] b1_1 (2 : Int32) k1_2 (p1 &&& (15 : Int32)) own_ids T1.heap n0 Zs4 f3 (by decide) (by decide)) hZ (hw _ (List.mem_of_getElem? (i := 8) rfl)) (hw _ (List.mem_of_getElem? (i := 7) rfl)) (by decide) (by decide)) (g := (mkF m 40 #[.val (.int p1), .val (.int (p1 &&& (15 : Int32))), .val (.ref b1_1)] [(.int (2 : Int32)), (.ref b1_1)])) rfl (by rw [hml]; rfl) (argsL := [(.ref b1_1), (.int (2 : Int32))]) (rest := []) (lenOf pd_1 rfl) rfl (by show 2 * 0 + _ ≤ _; exact Nat.le_of_eq rfl) (hb hby at_40) (fun _ _ => ⟨rfl, e8, (by decide : 1 + 0 ≤ _), (by decide : 16 + 0 ≤ _)⟩)
  dsimp only [Pt.U, Pt.locs, Pt.cells, Pt.slots] at X10 l10 y10 z10 st10 hQ10
  subst l10 y10 z10
  obtain ⟨rfl, Nq10, e10⟩ := hQ10
  have N11 := Fr.app N9 Nq10
  obtain ⟨_, _, ⟨T12, L12, k12, n12⟩, -, X12, ⟨Lc12, hQ12, l12, y12, z12⟩, st12⟩ := Jvm.LawKit.callS X10 hx (y := (⟨"com/example/trawl/trawl/gen/FisherYatesPositionsPinLaw", "at", "([II)Z"⟩ : MethodName)) hown (mvT hZ (hw _ (List.mem_of_getElem? (i := 5) rfl))) (mvT hZ (hw _ (List.mem_of_getElem? (i := 6) rfl))) (mvT hZ (hw _ (List.mem_of_getElem? (i := 7) rfl))) (mvT hZ (hw _ (List.mem_of_getElem? (i := 8) rfl))) (by decide) (backOf (W := 0) (rm_at l Z a0 hw [] b1_1 (3 : Int32) k1_2 (p1 &&& (15 : Int32)) own_ids T1.heap n0 Zs4 f3 (by decide) (by decide)) hZ (hw _ (List.mem_of_getElem? (i := 8) rfl)) (hw _ (List.mem_of_getElem? (i := 7) rfl)) (by decide) (by decide)) (g := (mkF m 48 #[.val (.int p1), .val (.int (p1 &&& (15 : Int32))), .val (.ref b1_1)] [(.int (3 : Int32)), (.ref b1_1)])) rfl (by rw [hml]; rfl) (argsL := [(.ref b1_1), (.int (3 : Int32))]) (rest := []) (lenOf pd_1 rfl) rfl (by show 2 * 0 + _ ≤ _; exact Nat.le_of_eq rfl) (hb hby at_48) (fun _ _ => ⟨rfl, e10, (by decide : 1 + 0 ≤ _), (by decide : 16 + 0 ≤ _)⟩)
  dsimp only [Pt.U, Pt.locs, Pt.cells, Pt.slots] at X12 l12 y12 z12 st12 hQ12
  subst l12 y12 z12
  obtain ⟨rfl, Nq12, e12⟩ := hQ12
  have N13 := Fr.app N11 Nq12
  obtain ⟨_, _, ⟨T14, L14, k14, n14⟩, -, X14, ⟨Lc14, hQ14, l14, y14, z14⟩, st14⟩ := Jvm.LawKit.callS X12 hx (y := (⟨"com/example/trawl/trawl/gen/FisherYatesPositionsPinLaw", "at", "([II)Z"⟩ : MethodName)) hown (mvT hZ (hw _ (List.mem_of_getElem? (i := 5) rfl))) (mvT hZ (hw _ (List.mem_of_getElem? (i := 6) rfl))) (mvT hZ (hw _ (List.mem_of_getElem? (i := 7) rfl))) (mvT hZ (hw _ (List.mem_of_getElem? (i := 8) rfl))) (by decide) (backOf (W := 0) (rm_at l Z a0 hw [] b1_1 (4 : Int32) k1_2 (p1 &&& (15 : Int32)) own_ids T1.heap n0 Zs4 f3 (by decide) (by decide)) hZ (hw _ (List.mem_of_getElem? (i := 8) rfl)) (hw _ (List.mem_of_getElem? (i := 7) rfl)) (by decide) (by decide)) (g := (mkF m 56 #[.val (.int p1), .val (.int (p1 &&& (15 : Int32))), .val (.ref b1_1)] [(.int (4 : Int32)), (.ref b1_1)])) rfl (by rw [hml]; rfl) (argsL := [(.ref b1_1), (.int (4 : Int32))]) (rest := []) (lenOf pd_1 rfl) rfl (by show 2 * 0 + _ ≤ _; exact Nat.le_of_eq rfl) (hb hby at_56) (fun _ _ => ⟨rfl, e12, (by decide : 1 + 0 ≤ _), (by decide : 16 + 0 ≤ _)⟩)
  dsimp only [Pt.U, Pt.locs, Pt.cells, Pt.slots] at X14 l14 y14 z14 st14 hQ14
  subst l14 y14 z14
  obtain ⟨rfl, Nq14, e14⟩ := hQ14
  have N15 := Fr.app N13 Nq14
  obtain ⟨_, _, ⟨T16, L16, k16, n16⟩, -, X16, ⟨Lc16, hQ16, l16, y16, z16⟩, st16⟩ := Jvm.LawKit.callS X14 hx (y := (⟨"com/example/trawl/trawl/gen/FisherYatesPositionsPinLaw", "at", "([II)Z"⟩ : MethodName)) hown (mvT hZ (hw _ (List.mem_of_getElem? (i := 5) rfl))) (mvT hZ (hw _ (List.mem_of_getElem? (i := 6) rfl))) (mvT hZ (hw _ (List.mem_of_getElem? (i := 7) rfl))) (mvT hZ (hw _ (List.mem_of_getElem? (i := 8) rfl))) (by decide) (backOf (W := 0) (rm_at l Z a0 hw [] b1_1 (5 : Int32) k1_2 (p1 &&& (15 : Int32)) own_ids T1.heap n0 Zs4 f3 (by decide) (by decide)) hZ (hw _ (List.mem_of_getElem? (i := 8) rfl)) (hw _ (List.mem_of_getElem? (i := 7) rfl)) (by decide) (by decide)) (g := (mkF m 64 #[.val (.int p1), .val (.int (p1 &&& (15 : Int32))), .val (.ref b1_1)] [(.int (5 : Int32)), (.ref b1_1)])) rfl (by rw [hml]; rfl) (argsL := [(.ref b1_1), (.int (5 : Int32))]) (rest := []) (lenOf pd_1 rfl) rfl (by show 2 * 0 + _ ≤ _; exact Nat.le_of_eq rfl) (hb hby at_64) (fun _ _ => ⟨rfl, e14, (by decide : 1 + 0 ≤ _), (by decide : 16 + 0 ≤ _)⟩)
  dsimp only [Pt.U, Pt.locs, Pt.cells, Pt.slots] at X16 l16 y16 z16 st16 hQ16
  subst l16 y16 z16
  obtain ⟨rfl, Nq16, e16⟩ := hQ16
  have N17 := Fr.app N15 Nq16
  obtain ⟨_, _, ⟨T18, L18, k18, n18⟩, -, X18, ⟨Lc18, hQ18, l18, y18, z18⟩, st18⟩ := Jvm.LawKit.callS X16 hx (y := (⟨"com/example/trawl/trawl/gen/FisherYatesPositionsPinLaw", "at", "([II)Z"⟩ : MethodName)) hown (mvT hZ (hw _ (List.mem_of_getElem? (i := 5) rfl))) (mvT hZ (hw _ (List.mem_of_getElem? (i := 6) rfl))) (mvT hZ (hw _ (List.mem_of_getElem? (i := 7) rfl))) (mvT hZ (hw _ (List.mem_of_getElem? (i := 8) rfl))) (by decide) (backOf (W := 0) (rm_at l Z a0 hw [] b1_1 (6 : Int32) k1_2 (p1 &&& (15 : Int32)) own_ids T1.heap n0 Zs4 f3 (by decide) (by decide)) hZ (hw _ (List.mem_of_getElem? (i := 8) rfl)) (hw _ (List.mem_of_getElem? (i := 7) rfl)) (by decide) (by decide)) (g := (mkF m 73 #[.val (.int p1), .val (.int (p1 &&& (15 : Int32))), .val (.ref b1_1)] [(.int (6 : Int32)), (.ref b1_1)])) rfl (by rw [hml]; rfl) (argsL := [(.ref b1_1), (.int (6 : Int32))]) (rest := []) (lenOf pd_1 rfl) rfl (by show 2 * 0 + _ ≤ _; exact Nat.le_of_eq rfl) (hb hby at_73) (fun _ _ => ⟨rfl, e16, (by decide : 1 + 0 ≤ _), (by decide : 16 + 0 ≤ _)⟩)
  dsimp only [Pt.U, Pt.locs, Pt.cells, Pt.slots] at X18 l18 y18 z18 st18 hQ18
  subst l18 y18 z18
  obtain ⟨rfl, Nq18, e18⟩ := hQ18
  have N19 := Fr.app N17 Nq18
  obtain ⟨_, _, ⟨T20, L20, k20, n20⟩, -, X20, ⟨Lc20, hQ20, l20, y20, z20⟩, st20⟩ := Jvm.LawKit.callS X18 hx (y := (⟨"com/example/trawl/trawl/gen/FisherYatesPositionsPinLaw", "at", "([II)Z"⟩ : MethodName)) hown (mvT hZ (hw _ (List.mem_of_getElem? (i := 5) rfl))) (mvT hZ (hw _ (List.mem_of_getElem? (i := 6) rfl))) (mvT hZ (hw _ (List.mem_of_getElem? (i := 7) rfl))) (mvT hZ (hw _ (List.mem_of_getElem? (i := 8) rfl))) (by decide) (backOf (W := 0) (rm_at l Z a0 hw [] b1_1 (7 : Int32) k1_2 (p1 &&& (15 : Int32)) own_ids T1.heap n0 Zs4 f3 (by decide) (by decide)) hZ (hw _ (List.mem_of_getElem? (i := 8) rfl)) (hw _ (List.mem_of_getElem? (i := 7) rfl)) (by decide) (by decide)) (g := (mkF m 82 #[.val (.int p1), .val (.int (p1 &&& (15 : Int32))), .val (.ref b1_1)] [(.int (7 : Int32)), (.ref b1_1)])) rfl (by rw [hml]; rfl) (argsL := [(.ref b1_1), (.int (7 : Int32))]) (rest := []) (lenOf pd_1 rfl) rfl (by show 2 * 0 + _ ≤ _; exact Nat.le_of_eq rfl) (hb hby at_82) (fun _ _ => ⟨rfl, e18, (by decide : 1 + 0 ≤ _), (by decide : 16 + 0 ≤ _)⟩)
  dsimp only [Pt.U, Pt.locs, Pt.cells, Pt.slots] at X20 l20 y20 z20 st20 hQ20
  subst l20 y20 z20
  obtain ⟨rfl, Nq20, e20⟩ := hQ20
  have N21 := Fr.app N19 Nq20
  obtain ⟨_, _, ⟨T22, L22, k22, n22⟩, -, X22, ⟨Lc22, hQ22, l22, y22, z22⟩, st22⟩ := Jvm.LawKit.callS X20 hx (y := (⟨"com/example/trawl/trawl/gen/FisherYatesPositionsPinLaw", "at", "([II)Z"⟩ : MethodName)) hown (mvT hZ (hw _ (List.mem_of_getElem? (i := 5) rfl))) (mvT hZ (hw _ (List.mem_of_getElem? (i := 6) rfl))) (mvT hZ (hw _ (List.mem_of_getElem? (i := 7) rfl))) (mvT hZ (hw _ (List.mem_of_getElem? (i := 8) rfl))) (by decide) (backOf (W := 0) (rm_at l Z a0 hw [] b1_1 (8 : Int32) k1_2 (p1 &&& (15 : Int32)) own_ids T1.heap n0 Zs4 f3 (by decide) (by decide)) hZ (hw _ (List.mem_of_getElem? (i := 8) rfl)) (hw _ (List.mem_of_getElem? (i := 7) rfl)) (by decide) (by decide)) (g := (mkF m 91 #[.val (.int p1), .val (.int (p1 &&& (15 : Int32))), .val (.ref b1_1)] [(.int (8 : Int32)), (.ref b1_1)])) rfl (by rw [hml]; rfl) (argsL := [(.ref b1_1), (.int (8 : Int32))]) (rest := []) (lenOf pd_1 rfl) rfl (by show 2 * 0 + _ ≤ _; exact Nat.le_of_eq rfl) (hb hby at_91) (fun _ _ => ⟨rfl, e20, (by decide : 1 + 0 ≤ _), (by decide : 16 + 0 ≤ _)⟩)
  dsimp only [Pt.U, Pt.locs, Pt.cells, Pt.slots] at X22 l22 y22 z22 st22 hQ22
  subst l22 y22 z22
  obtain ⟨rfl, Nq22, e22⟩ := hQ22
  have N23 := Fr.app N21 Nq22
  obtain ⟨_, _, ⟨T24, L24, k24, n24⟩, -, X24, ⟨Lc24, hQ24, l24, y24, z24⟩, st24⟩ := Jvm.LawKit.callS X22 hx (y := (⟨"com/example/trawl/trawl/gen/FisherYatesPositionsPinLaw", "at", "([II)Z"⟩ : MethodName)) hown (mvT hZ (hw _ (List.mem_of_getElem? (i := 5) rfl))) (mvT hZ (hw _ (List.mem_of_getElem? (i := 6) rfl))) (mvT hZ (hw _ (List.mem_of_getElem? (i := 7) rfl))) (mvT hZ (hw _ (List.mem_of_getElem? (i := 8) rfl))) (by decide) (backOf (W := 0) (rm_at l Z a0 hw [] b1_1 (9 : Int32) k1_2 (p1 &&& (15 : Int32)) own_ids T1.heap n0 Zs4 f3 (by decide) (by decide)) hZ (hw _ (List.mem_of_getElem? (i := 8) rfl)) (hw _ (List.mem_of_getElem? (i := 7) rfl)) (by decide) (by decide)) (g := (mkF m 100 #[.val (.int p1), .val (.int (p1 &&& (15 : Int32))), .val (.ref b1_1)] [(.int (9 : Int32)), (.ref b1_1)])) rfl (by rw [hml]; rfl) (argsL := [(.ref b1_1), (.int (9 : Int32))]) (rest := []) (lenOf pd_1 rfl) rfl (by show 2 * 0 + _ ≤ _; exact Nat.le_of_eq rfl) (hb hby at_100) (fun _ _ => ⟨rfl, e22, (by decide : 1 + 0 ≤ _), (by decide : 16 + 0 ≤ _)⟩)
  dsimp only [Pt.U, Pt.locs, Pt.cells, Pt.slots] at X24 l24 y24 z24 st24 hQ24
  subst l24 y24 z24
  obtain ⟨rfl, Nq24, e24⟩ := hQ24
  have N25 := Fr.app N23 Nq24
  obtain ⟨_, _, ⟨T26, L26, k26, n26⟩, -, X26, ⟨Lc26, hQ26, l26, y26, z26⟩, st26⟩ := Jvm.LawKit.callS X24 hx (y := (⟨"com/example/trawl/trawl/gen/FisherYatesPositionsPinLaw", "at", "([II)Z"⟩ : MethodName)) hown (mvT hZ (hw _ (List.mem_of_getElem? (i := 5) rfl))) (mvT hZ (hw _ (List.mem_of_getElem? (i := 6) rfl))) (mvT hZ (hw _ (List.mem_of_getElem? (i := 7) rfl))) (mvT hZ (hw _ (List.mem_of_getElem? (i := 8) rfl))) (by decide) (backOf (W := 0) (rm_at l Z a0 hw [] b1_1 (10 : Int32) k1_2 (p1 &&& (15 : Int32)) own_ids T1.heap n0 Zs4 f3 (by decide) (by decide)) hZ (hw _ (List.mem_of_getElem? (i := 8) rfl)) (hw _ (List.mem_of_getElem? (i := 7) rfl)) (by decide) (by decide)) (g := (mkF m 109 #[.val (.int p1), .val (.int (p1 &&& (15 : Int32))), .val (.ref b1_1)] [(.int (10 : Int32)), (.ref b1_1)])) rfl (by rw [hml]; rfl) (argsL := [(.ref b1_1), (.int (10 : Int32))]) (rest := []) (lenOf pd_1 rfl) rfl (by show 2 * 0 + _ ≤ _; exact Nat.le_of_eq rfl) (hb hby at_109) (fun _ _ => ⟨rfl, e24, (by decide : 1 + 0 ≤ _), (by decide : 16 + 0 ≤ _)⟩)
  dsimp only [Pt.U, Pt.locs, Pt.cells, Pt.slots] at X26 l26 y26 z26 st26 hQ26
  subst l26 y26 z26
  obtain ⟨rfl, Nq26, e26⟩ := hQ26
  have N27 := Fr.app N25 Nq26
  obtain ⟨_, _, ⟨T28, L28, k28, n28⟩, -, X28, ⟨Lc28, hQ28, l28, y28, z28⟩, st28⟩ := Jvm.LawKit.callS X26 hx (y := (⟨"com/example/trawl/trawl/gen/FisherYatesPositionsPinLaw", "at", "([II)Z"⟩ : MethodName)) hown (mvT hZ (hw _ (List.mem_of_getElem? (i := 5) rfl))) (mvT hZ (hw _ (List.mem_of_getElem? (i := 6) rfl))) (mvT hZ (hw _ (List.mem_of_getElem? (i := 7) rfl))) (mvT hZ (hw _ (List.mem_of_getElem? (i := 8) rfl))) (by decide) (backOf (W := 0) (rm_at l Z a0 hw [] b1_1 (11 : Int32) k1_2 (p1 &&& (15 : Int32)) own_ids T1.heap n0 Zs4 f3 (by decide) (by decide)) hZ (hw _ (List.mem_of_getElem? (i := 8) rfl)) (hw _ (List.mem_of_getElem? (i := 7) rfl)) (by decide) (by decide)) (g := (mkF m 118 #[.val (.int p1), .val (.int (p1 &&& (15 : Int32))), .val (.ref b1_1)] [(.int (11 : Int32)), (.ref b1_1)])) rfl (by rw [hml]; rfl) (argsL := [(.ref b1_1), (.int (11 : Int32))]) (rest := []) (lenOf pd_1 rfl) rfl (by show 2 * 0 + _ ≤ _; exact Nat.le_of_eq rfl) (hb hby at_118) (fun _ _ => ⟨rfl, e26, (by decide : 1 + 0 ≤ _), (by decide : 16 + 0 ≤ _)⟩)
  dsimp only [Pt.U, Pt.locs, Pt.cells, Pt.slots] at X28 l28 y28 z28 st28 hQ28
  subst l28 y28 z28
  obtain ⟨rfl, Nq28, e28⟩ := hQ28
  have N29 := Fr.app N27 Nq28
  obtain ⟨_, _, ⟨T30, L30, k30, n30⟩, -, X30, ⟨Lc30, hQ30, l30, y30, z30⟩, st30⟩ := Jvm.LawKit.callS X28 hx (y := (⟨"com/example/trawl/trawl/gen/FisherYatesPositionsPinLaw", "at", "([II)Z"⟩ : MethodName)) hown (mvT hZ (hw _ (List.mem_of_getElem? (i := 5) rfl))) (mvT hZ (hw _ (List.mem_of_getElem? (i := 6) rfl))) (mvT hZ (hw _ (List.mem_of_getElem? (i := 7) rfl))) (mvT hZ (hw _ (List.mem_of_getElem? (i := 8) rfl))) (by decide) (backOf (W := 0) (rm_at l Z a0 hw [] b1_1 (12 : Int32) k1_2 (p1 &&& (15 : Int32)) own_ids T1.heap n0 Zs4 f3 (by decide) (by decide)) hZ (hw _ (List.mem_of_getElem? (i := 8) rfl)) (hw _ (List.mem_of_getElem? (i := 7) rfl)) (by decide) (by decide)) (g := (mkF m 127 #[.val (.int p1), .val (.int (p1 &&& (15 : Int32))), .val (.ref b1_1)] [(.int (12 : Int32)), (.ref b1_1)])) rfl (by rw [hml]; rfl) (argsL := [(.ref b1_1), (.int (12 : Int32))]) (rest := []) (lenOf pd_1 rfl) rfl (by show 2 * 0 + _ ≤ _; exact Nat.le_of_eq rfl) (hb hby at_127) (fun _ _ => ⟨rfl, e28, (by decide : 1 + 0 ≤ _), (by decide : 16 + 0 ≤ _)⟩)
  dsimp only [Pt.U, Pt.locs, Pt.cells, Pt.slots] at X30 l30 y30 z30 st30 hQ30
  subst l30 y30 z30
  obtain ⟨rfl, Nq30, e30⟩ := hQ30
  have N31 := Fr.app N29 Nq30
  obtain ⟨_, _, ⟨T32, L32, k32, n32⟩, -, X32, ⟨Lc32, hQ32, l32, y32, z32⟩, st32⟩ := Jvm.LawKit.callS X30 hx (y := (⟨"com/example/trawl/trawl/gen/FisherYatesPositionsPinLaw", "at", "([II)Z"⟩ : MethodName)) hown (mvT hZ (hw _ (List.mem_of_getElem? (i := 5) rfl))) (mvT hZ (hw _ (List.mem_of_getElem? (i := 6) rfl))) (mvT hZ (hw _ (List.mem_of_getElem? (i := 7) rfl))) (mvT hZ (hw _ (List.mem_of_getElem? (i := 8) rfl))) (by decide) (backOf (W := 0) (rm_at l Z a0 hw [] b1_1 (13 : Int32) k1_2 (p1 &&& (15 : Int32)) own_ids T1.heap n0 Zs4 f3 (by decide) (by decide)) hZ (hw _ (List.mem_of_getElem? (i := 8) rfl)) (hw _ (List.mem_of_getElem? (i := 7) rfl)) (by decide) (by decide)) (g := (mkF m 136 #[.val (.int p1), .val (.int (p1 &&& (15 : Int32))), .val (.ref b1_1)] [(.int (13 : Int32)), (.ref b1_1)])) rfl (by rw [hml]; rfl) (argsL := [(.ref b1_1), (.int (13 : Int32))]) (rest := []) (lenOf pd_1 rfl) rfl (by show 2 * 0 + _ ≤ _; exact Nat.le_of_eq rfl) (hb hby at_136) (fun _ _ => ⟨rfl, e30, (by decide : 1 + 0 ≤ _), (by decide : 16 + 0 ≤ _)⟩)
  dsimp only [Pt.U, Pt.locs, Pt.cells, Pt.slots] at X32 l32 y32 z32 st32 hQ32
  subst l32 y32 z32
  obtain ⟨rfl, Nq32, e32⟩ := hQ32
  have N33 := Fr.app N31 Nq32
  obtain ⟨_, _, ⟨T34, L34, k34, n34⟩, -, X34, ⟨Lc34, hQ34, l34, y34, z34⟩, st34⟩ := Jvm.LawKit.callS X32 hx (y := (⟨"com/example/trawl/trawl/gen/FisherYatesPositionsPinLaw", "at", "([II)Z"⟩ : MethodName)) hown (mvT hZ (hw _ (List.mem_of_getElem? (i := 5) rfl))) (mvT hZ (hw _ (List.mem_of_getElem? (i := 6) rfl))) (mvT hZ (hw _ (List.mem_of_getElem? (i := 7) rfl))) (mvT hZ (hw _ (List.mem_of_getElem? (i := 8) rfl))) (by decide) (backOf (W := 0) (rm_at l Z a0 hw [] b1_1 (14 : Int32) k1_2 (p1 &&& (15 : Int32)) own_ids T1.heap n0 Zs4 f3 (by decide) (by decide)) hZ (hw _ (List.mem_of_getElem? (i := 8) rfl)) (hw _ (List.mem_of_getElem? (i := 7) rfl)) (by decide) (by decide)) (g := (mkF m 145 #[.val (.int p1), .val (.int (p1 &&& (15 : Int32))), .val (.ref b1_1)] [(.int (14 : Int32)), (.ref b1_1)])) rfl (by rw [hml]; rfl) (argsL := [(.ref b1_1), (.int (14 : Int32))]) (rest := []) (lenOf pd_1 rfl) rfl (by show 2 * 0 + _ ≤ _; exact Nat.le_of_eq rfl) (hb hby at_145) (fun _ _ => ⟨rfl, e32, (by decide : 1 + 0 ≤ _), (by decide : 16 + 0 ≤ _)⟩)
  dsimp only [Pt.U, Pt.locs, Pt.cells, Pt.slots] at X34 l34 y34 z34 st34 hQ34
  subst l34 y34 z34
  obtain ⟨rfl, Nq34, e34⟩ := hQ34
  have N35 := Fr.app N33 Nq34
  obtain ⟨_, _, ⟨T36, L36, k36, n36⟩, -, X36, ⟨Lc36, hQ36, l36, y36, z36⟩, st36⟩ := Jvm.LawKit.callS X34 hx (y := (⟨"com/example/trawl/trawl/gen/FisherYatesPositionsPinLaw", "at", "([II)Z"⟩ : MethodName)) hown (mvT hZ (hw _ (List.mem_of_getElem? (i := 5) rfl))) (mvT hZ (hw _ (List.mem_of_getElem? (i := 6) rfl))) (mvT hZ (hw _ (List.mem_of_getElem? (i := 7) rfl))) (mvT hZ (hw _ (List.mem_of_getElem? (i := 8) rfl))) (by decide) (backOf (W := 0) (rm_at l Z a0 hw [] b1_1 (15 : Int32) k1_2 (p1 &&& (15 : Int32)) own_ids T1.heap n0 Zs4 f3 (by decide) (by decide)) hZ (hw _ (List.mem_of_getElem? (i := 8) rfl)) (hw _ (List.mem_of_getElem? (i := 7) rfl)) (by decide) (by decide)) (g := (mkF m 154 #[.val (.int p1), .val (.int (p1 &&& (15 : Int32))), .val (.ref b1_1)] [(.int (15 : Int32)), (.ref b1_1)])) rfl (by rw [hml]; rfl) (argsL := [(.ref b1_1), (.int (15 : Int32))]) (rest := []) (lenOf pd_1 rfl) rfl (by show 2 * 0 + _ ≤ _; exact Nat.le_of_eq rfl) (hb hby at_154) (fun _ _ => ⟨rfl, e34, (by decide : 1 + 0 ≤ _), (by decide : 16 + 0 ≤ _)⟩)
  dsimp only [Pt.U, Pt.locs, Pt.cells, Pt.slots] at X36 l36 y36 z36 st36 hQ36
  subst l36 y36 z36
  obtain ⟨rfl, Nq36, e36⟩ := hQ36
  have N37 := Fr.app N35 Nq36
  obtain ⟨fs, hr, hrun, hended, hW, hsame⟩ := X36.leave (v := some (.int (1 : Int32))) (fun h => by rw [Bd.returns] at h; cases h) Bd.notSynchronized
  refine ⟨_, _, pre0 _ ?_, hrun, hended, _, _, rfl, ?_, ⟨_, rfl⟩, hW, hsame.mono (by decide) (by decide)⟩
  · show Steps p.tables e below (s₁.setTop (mkF m 0 #[.val (.int p1), .unset, .unset] [])) _
    refine XS.iloadN X0.here hx rfl (hb hby at_0) rfl ?_
    show Steps p.tables e below (s₁.setTop (mkF m 1 #[.val (.int p1), .unset, .unset] [(.int p1)])) _
    refine XS.bipush X0.here hx rfl (hb hby at_1) ?_
    show Steps p.tables e below (s₁.setTop (mkF m 3 #[.val (.int p1), .unset, .unset] [(.int (15 : Int32)), (.int p1)])) _
    refine XS.iand X0.here hx rfl (hb hby at_3) rfl ?_
    show Steps p.tables e below (s₁.setTop (mkF m 4 #[.val (.int p1), .unset, .unset] [(.int (p1 &&& (15 : Int32)))])) _
    refine XS.istoreN X0.here hx rfl (hb hby at_4) rfl (l' := #[.val (.int p1), .val (.int (p1 &&& (15 : Int32))), .unset]) rfl ?_
    show Steps p.tables e below (s₁.setTop (mkF m 5 #[.val (.int p1), .val (.int (p1 &&& (15 : Int32))), .unset] [])) _
    refine XS.iloadN X0.here hx rfl (hb hby at_5) rfl ?_
    show Steps p.tables e below (s₁.setTop (mkF m 6 #[.val (.int p1), .val (.int (p1 &&& (15 : Int32))), .unset] [(.int (p1 &&& (15 : Int32)))])) _
    refine st1 _ ?_
    show Steps p.tables e below (T1.setTop (mkF m 9 #[.val (.int p1), .val (.int (p1 &&& (15 : Int32))), .unset] [(.ref b1_1)])) _
    refine XS.astoreN X1.here hx rfl (hb hby at_9) rfl rfl (l' := #[.val (.int p1), .val (.int (p1 &&& (15 : Int32))), .val (.ref b1_1)]) rfl ?_
    show Steps p.tables e below (T1.setTop (mkF m 10 #[.val (.int p1), .val (.int (p1 &&& (15 : Int32))), .val (.ref b1_1)] [])) _
    refine XS.aloadN X1.here hx rfl (hb hby at_10) rfl rfl ?_
    show Steps p.tables e below (T1.setTop (mkF m 11 #[.val (.int p1), .val (.int (p1 &&& (15 : Int32))), .val (.ref b1_1)] [(.ref b1_1)])) _
    refine XS.ifnullNo X1.here hx rfl (hb hby at_11) rfl ?_
    show Steps p.tables e below (T1.setTop (mkF m 14 #[.val (.int p1), .val (.int (p1 &&& (15 : Int32))), .val (.ref b1_1)] [])) _
    refine XS.aloadN X1.here hx rfl (hb hby at_14) rfl rfl ?_
    show Steps p.tables e below (T1.setTop (mkF m 15 #[.val (.int p1), .val (.int (p1 &&& (15 : Int32))), .val (.ref b1_1)] [(.ref b1_1)])) _
    refine X1.arraylength hx Aro5.1 (State.isArrayOf_alike hZ.alike Aro5.2.1) (g := (mkF m 15 #[.val (.int p1), .val (.int (p1 &&& (15 : Int32))), .val (.ref b1_1)] [(.ref b1_1)])) rfl rfl (hb hby at_15) _ ?_
    rw [len_of So5 No5]
    show Steps p.tables e below (T1.setTop (mkF m 16 #[.val (.int p1), .val (.int (p1 &&& (15 : Int32))), .val (.ref b1_1)] [(.int (p1 &&& (15 : Int32)))])) _
    refine XS.iloadN X1.here hx rfl (hb hby at_16) rfl ?_
    show Steps p.tables e below (T1.setTop (mkF m 17 #[.val (.int p1), .val (.int (p1 &&& (15 : Int32))), .val (.ref b1_1)] [(.int (p1 &&& (15 : Int32))), (.int (p1 &&& (15 : Int32)))])) _
    refine XS.icmpYes X1.here hx rfl (pc0 := 17) (pc' := 22) rfl (hb hby at_17) rfl (teq (rfl : (p1 &&& (15 : Int32)) = (p1 &&& (15 : Int32)))).1 (by decide) (by decide) ?_
    show Steps p.tables e below (T1.setTop (mkF m 22 #[.val (.int p1), .val (.int (p1 &&& (15 : Int32))), .val (.ref b1_1)] [])) _
    refine XS.aloadN X1.here hx rfl (hb hby at_22) rfl rfl ?_
    show Steps p.tables e below (T1.setTop (mkF m 23 #[.val (.int p1), .val (.int (p1 &&& (15 : Int32))), .val (.ref b1_1)] [(.ref b1_1)])) _
    refine XS.iconst X1.here hx rfl (hb hby at_23) ?_
    show Steps p.tables e below (T1.setTop (mkF m 24 #[.val (.int p1), .val (.int (p1 &&& (15 : Int32))), .val (.ref b1_1)] [(.int (0 : Int32)), (.ref b1_1)])) _
    refine st6 _ ?_
    show Steps p.tables e below (T6.setTop (mkF m 27 #[.val (.int p1), .val (.int (p1 &&& (15 : Int32))), .val (.ref b1_1)] [(.int (1 : Int32))])) _
    refine XS.ifNo X6.here hx rfl (hb hby at_27) rfl ((if0 _ _).trans (feq (by decide : ¬ ((1 : Int32) = (0 : Int32)))).1) ?_
    show Steps p.tables e below (T6.setTop (mkF m 30 #[.val (.int p1), .val (.int (p1 &&& (15 : Int32))), .val (.ref b1_1)] [])) _
    refine XS.aloadN X6.here hx rfl (hb hby at_30) rfl rfl ?_
    show Steps p.tables e below (T6.setTop (mkF m 31 #[.val (.int p1), .val (.int (p1 &&& (15 : Int32))), .val (.ref b1_1)] [(.ref b1_1)])) _
    refine XS.iconst X6.here hx rfl (hb hby at_31) ?_
    show Steps p.tables e below (T6.setTop (mkF m 32 #[.val (.int p1), .val (.int (p1 &&& (15 : Int32))), .val (.ref b1_1)] [(.int (1 : Int32)), (.ref b1_1)])) _
    refine st8 _ ?_
    show Steps p.tables e below (T8.setTop (mkF m 35 #[.val (.int p1), .val (.int (p1 &&& (15 : Int32))), .val (.ref b1_1)] [(.int (1 : Int32))])) _
    refine XS.ifNo X8.here hx rfl (hb hby at_35) rfl ((if0 _ _).trans (feq (by decide : ¬ ((1 : Int32) = (0 : Int32)))).1) ?_
    show Steps p.tables e below (T8.setTop (mkF m 38 #[.val (.int p1), .val (.int (p1 &&& (15 : Int32))), .val (.ref b1_1)] [])) _
    refine XS.aloadN X8.here hx rfl (hb hby at_38) rfl rfl ?_
    show Steps p.tables e below (T8.setTop (mkF m 39 #[.val (.int p1), .val (.int (p1 &&& (15 : Int32))), .val (.ref b1_1)] [(.ref b1_1)])) _
    refine XS.iconst X8.here hx rfl (hb hby at_39) ?_
    show Steps p.tables e below (T8.setTop (mkF m 40 #[.val (.int p1), .val (.int (p1 &&& (15 : Int32))), .val (.ref b1_1)] [(.int (2 : Int32)), (.ref b1_1)])) _
    refine st10 _ ?_
    show Steps p.tables e below (T10.setTop (mkF m 43 #[.val (.int p1), .val (.int (p1 &&& (15 : Int32))), .val (.ref b1_1)] [(.int (1 : Int32))])) _
    refine XS.ifNo X10.here hx rfl (hb hby at_43) rfl ((if0 _ _).trans (feq (by decide : ¬ ((1 : Int32) = (0 : Int32)))).1) ?_
    show Steps p.tables e below (T10.setTop (mkF m 46 #[.val (.int p1), .val (.int (p1 &&& (15 : Int32))), .val (.ref b1_1)] [])) _
    refine XS.aloadN X10.here hx rfl (hb hby at_46) rfl rfl ?_
    show Steps p.tables e below (T10.setTop (mkF m 47 #[.val (.int p1), .val (.int (p1 &&& (15 : Int32))), .val (.ref b1_1)] [(.ref b1_1)])) _
    refine XS.iconst X10.here hx rfl (hb hby at_47) ?_
    show Steps p.tables e below (T10.setTop (mkF m 48 #[.val (.int p1), .val (.int (p1 &&& (15 : Int32))), .val (.ref b1_1)] [(.int (3 : Int32)), (.ref b1_1)])) _
    refine st12 _ ?_
    show Steps p.tables e below (T12.setTop (mkF m 51 #[.val (.int p1), .val (.int (p1 &&& (15 : Int32))), .val (.ref b1_1)] [(.int (1 : Int32))])) _
    refine XS.ifNo X12.here hx rfl (hb hby at_51) rfl ((if0 _ _).trans (feq (by decide : ¬ ((1 : Int32) = (0 : Int32)))).1) ?_
    show Steps p.tables e below (T12.setTop (mkF m 54 #[.val (.int p1), .val (.int (p1 &&& (15 : Int32))), .val (.ref b1_1)] [])) _
    refine XS.aloadN X12.here hx rfl (hb hby at_54) rfl rfl ?_
    show Steps p.tables e below (T12.setTop (mkF m 55 #[.val (.int p1), .val (.int (p1 &&& (15 : Int32))), .val (.ref b1_1)] [(.ref b1_1)])) _
    refine XS.iconst X12.here hx rfl (hb hby at_55) ?_
    show Steps p.tables e below (T12.setTop (mkF m 56 #[.val (.int p1), .val (.int (p1 &&& (15 : Int32))), .val (.ref b1_1)] [(.int (4 : Int32)), (.ref b1_1)])) _
    refine st14 _ ?_
    show Steps p.tables e below (T14.setTop (mkF m 59 #[.val (.int p1), .val (.int (p1 &&& (15 : Int32))), .val (.ref b1_1)] [(.int (1 : Int32))])) _
    refine XS.ifNo X14.here hx rfl (hb hby at_59) rfl ((if0 _ _).trans (feq (by decide : ¬ ((1 : Int32) = (0 : Int32)))).1) ?_
    show Steps p.tables e below (T14.setTop (mkF m 62 #[.val (.int p1), .val (.int (p1 &&& (15 : Int32))), .val (.ref b1_1)] [])) _
    refine XS.aloadN X14.here hx rfl (hb hby at_62) rfl rfl ?_
    show Steps p.tables e below (T14.setTop (mkF m 63 #[.val (.int p1), .val (.int (p1 &&& (15 : Int32))), .val (.ref b1_1)] [(.ref b1_1)])) _
    refine XS.iconst X14.here hx rfl (hb hby at_63) ?_
    show Steps p.tables e below (T14.setTop (mkF m 64 #[.val (.int p1), .val (.int (p1 &&& (15 : Int32))), .val (.ref b1_1)] [(.int (5 : Int32)), (.ref b1_1)])) _
    refine st16 _ ?_
    show Steps p.tables e below (T16.setTop (mkF m 67 #[.val (.int p1), .val (.int (p1 &&& (15 : Int32))), .val (.ref b1_1)] [(.int (1 : Int32))])) _
    refine XS.ifNo X16.here hx rfl (hb hby at_67) rfl ((if0 _ _).trans (feq (by decide : ¬ ((1 : Int32) = (0 : Int32)))).1) ?_
    show Steps p.tables e below (T16.setTop (mkF m 70 #[.val (.int p1), .val (.int (p1 &&& (15 : Int32))), .val (.ref b1_1)] [])) _
    refine XS.aloadN X16.here hx rfl (hb hby at_70) rfl rfl ?_
    show Steps p.tables e below (T16.setTop (mkF m 71 #[.val (.int p1), .val (.int (p1 &&& (15 : Int32))), .val (.ref b1_1)] [(.ref b1_1)])) _
    refine XS.bipush X16.here hx rfl (hb hby at_71) ?_
    show Steps p.tables e below (T16.setTop (mkF m 73 #[.val (.int p1), .val (.int (p1 &&& (15 : Int32))), .val (.ref b1_1)] [(.int (6 : Int32)), (.ref b1_1)])) _
    refine st18 _ ?_
    show Steps p.tables e below (T18.setTop (mkF m 76 #[.val (.int p1), .val (.int (p1 &&& (15 : Int32))), .val (.ref b1_1)] [(.int (1 : Int32))])) _
    refine XS.ifNo X18.here hx rfl (hb hby at_76) rfl ((if0 _ _).trans (feq (by decide : ¬ ((1 : Int32) = (0 : Int32)))).1) ?_
    show Steps p.tables e below (T18.setTop (mkF m 79 #[.val (.int p1), .val (.int (p1 &&& (15 : Int32))), .val (.ref b1_1)] [])) _
    refine XS.aloadN X18.here hx rfl (hb hby at_79) rfl rfl ?_
    show Steps p.tables e below (T18.setTop (mkF m 80 #[.val (.int p1), .val (.int (p1 &&& (15 : Int32))), .val (.ref b1_1)] [(.ref b1_1)])) _
    refine XS.bipush X18.here hx rfl (hb hby at_80) ?_
    show Steps p.tables e below (T18.setTop (mkF m 82 #[.val (.int p1), .val (.int (p1 &&& (15 : Int32))), .val (.ref b1_1)] [(.int (7 : Int32)), (.ref b1_1)])) _
    refine st20 _ ?_
    show Steps p.tables e below (T20.setTop (mkF m 85 #[.val (.int p1), .val (.int (p1 &&& (15 : Int32))), .val (.ref b1_1)] [(.int (1 : Int32))])) _
    refine XS.ifNo X20.here hx rfl (hb hby at_85) rfl ((if0 _ _).trans (feq (by decide : ¬ ((1 : Int32) = (0 : Int32)))).1) ?_
    show Steps p.tables e below (T20.setTop (mkF m 88 #[.val (.int p1), .val (.int (p1 &&& (15 : Int32))), .val (.ref b1_1)] [])) _
    refine XS.aloadN X20.here hx rfl (hb hby at_88) rfl rfl ?_
    show Steps p.tables e below (T20.setTop (mkF m 89 #[.val (.int p1), .val (.int (p1 &&& (15 : Int32))), .val (.ref b1_1)] [(.ref b1_1)])) _
    refine XS.bipush X20.here hx rfl (hb hby at_89) ?_
    show Steps p.tables e below (T20.setTop (mkF m 91 #[.val (.int p1), .val (.int (p1 &&& (15 : Int32))), .val (.ref b1_1)] [(.int (8 : Int32)), (.ref b1_1)])) _
    refine st22 _ ?_
    show Steps p.tables e below (T22.setTop (mkF m 94 #[.val (.int p1), .val (.int (p1 &&& (15 : Int32))), .val (.ref b1_1)] [(.int (1 : Int32))])) _
    refine XS.ifNo X22.here hx rfl (hb hby at_94) rfl ((if0 _ _).trans (feq (by decide : ¬ ((1 : Int32) = (0 : Int32)))).1) ?_
    show Steps p.tables e below (T22.setTop (mkF m 97 #[.val (.int p1), .val (.int (p1 &&& (15 : Int32))), .val (.ref b1_1)] [])) _
    refine XS.aloadN X22.here hx rfl (hb hby at_97) rfl rfl ?_
    show Steps p.tables e below (T22.setTop (mkF m 98 #[.val (.int p1), .val (.int (p1 &&& (15 : Int32))), .val (.ref b1_1)] [(.ref b1_1)])) _
    refine XS.bipush X22.here hx rfl (hb hby at_98) ?_
    show Steps p.tables e below (T22.setTop (mkF m 100 #[.val (.int p1), .val (.int (p1 &&& (15 : Int32))), .val (.ref b1_1)] [(.int (9 : Int32)), (.ref b1_1)])) _
    refine st24 _ ?_
    show Steps p.tables e below (T24.setTop (mkF m 103 #[.val (.int p1), .val (.int (p1 &&& (15 : Int32))), .val (.ref b1_1)] [(.int (1 : Int32))])) _
    refine XS.ifNo X24.here hx rfl (hb hby at_103) rfl ((if0 _ _).trans (feq (by decide : ¬ ((1 : Int32) = (0 : Int32)))).1) ?_
    show Steps p.tables e below (T24.setTop (mkF m 106 #[.val (.int p1), .val (.int (p1 &&& (15 : Int32))), .val (.ref b1_1)] [])) _
    refine XS.aloadN X24.here hx rfl (hb hby at_106) rfl rfl ?_
    show Steps p.tables e below (T24.setTop (mkF m 107 #[.val (.int p1), .val (.int (p1 &&& (15 : Int32))), .val (.ref b1_1)] [(.ref b1_1)])) _
    refine XS.bipush X24.here hx rfl (hb hby at_107) ?_
    show Steps p.tables e below (T24.setTop (mkF m 109 #[.val (.int p1), .val (.int (p1 &&& (15 : Int32))), .val (.ref b1_1)] [(.int (10 : Int32)), (.ref b1_1)])) _
    refine st26 _ ?_
    show Steps p.tables e below (T26.setTop (mkF m 112 #[.val (.int p1), .val (.int (p1 &&& (15 : Int32))), .val (.ref b1_1)] [(.int (1 : Int32))])) _
    refine XS.ifNo X26.here hx rfl (hb hby at_112) rfl ((if0 _ _).trans (feq (by decide : ¬ ((1 : Int32) = (0 : Int32)))).1) ?_
    show Steps p.tables e below (T26.setTop (mkF m 115 #[.val (.int p1), .val (.int (p1 &&& (15 : Int32))), .val (.ref b1_1)] [])) _
    refine XS.aloadN X26.here hx rfl (hb hby at_115) rfl rfl ?_
    show Steps p.tables e below (T26.setTop (mkF m 116 #[.val (.int p1), .val (.int (p1 &&& (15 : Int32))), .val (.ref b1_1)] [(.ref b1_1)])) _
    refine XS.bipush X26.here hx rfl (hb hby at_116) ?_
    show Steps p.tables e below (T26.setTop (mkF m 118 #[.val (.int p1), .val (.int (p1 &&& (15 : Int32))), .val (.ref b1_1)] [(.int (11 : Int32)), (.ref b1_1)])) _
    refine st28 _ ?_
    show Steps p.tables e below (T28.setTop (mkF m 121 #[.val (.int p1), .val (.int (p1 &&& (15 : Int32))), .val (.ref b1_1)] [(.int (1 : Int32))])) _
    refine XS.ifNo X28.here hx rfl (hb hby at_121) rfl ((if0 _ _).trans (feq (by decide : ¬ ((1 : Int32) = (0 : Int32)))).1) ?_
    show Steps p.tables e below (T28.setTop (mkF m 124 #[.val (.int p1), .val (.int (p1 &&& (15 : Int32))), .val (.ref b1_1)] [])) _
    refine XS.aloadN X28.here hx rfl (hb hby at_124) rfl rfl ?_
    show Steps p.tables e below (T28.setTop (mkF m 125 #[.val (.int p1), .val (.int (p1 &&& (15 : Int32))), .val (.ref b1_1)] [(.ref b1_1)])) _
    refine XS.bipush X28.here hx rfl (hb hby at_125) ?_
    show Steps p.tables e below (T28.setTop (mkF m 127 #[.val (.int p1), .val (.int (p1 &&& (15 : Int32))), .val (.ref b1_1)] [(.int (12 : Int32)), (.ref b1_1)])) _
    refine st30 _ ?_
    show Steps p.tables e below (T30.setTop (mkF m 130 #[.val (.int p1), .val (.int (p1 &&& (15 : Int32))), .val (.ref b1_1)] [(.int (1 : Int32))])) _
    refine XS.ifNo X30.here hx rfl (hb hby at_130) rfl ((if0 _ _).trans (feq (by decide : ¬ ((1 : Int32) = (0 : Int32)))).1) ?_
    show Steps p.tables e below (T30.setTop (mkF m 133 #[.val (.int p1), .val (.int (p1 &&& (15 : Int32))), .val (.ref b1_1)] [])) _
    refine XS.aloadN X30.here hx rfl (hb hby at_133) rfl rfl ?_
    show Steps p.tables e below (T30.setTop (mkF m 134 #[.val (.int p1), .val (.int (p1 &&& (15 : Int32))), .val (.ref b1_1)] [(.ref b1_1)])) _
    refine XS.bipush X30.here hx rfl (hb hby at_134) ?_
    show Steps p.tables e below (T30.setTop (mkF m 136 #[.val (.int p1), .val (.int (p1 &&& (15 : Int32))), .val (.ref b1_1)] [(.int (13 : Int32)), (.ref b1_1)])) _
    refine st32 _ ?_
    show Steps p.tables e below (T32.setTop (mkF m 139 #[.val (.int p1), .val (.int (p1 &&& (15 : Int32))), .val (.ref b1_1)] [(.int (1 : Int32))])) _
    refine XS.ifNo X32.here hx rfl (hb hby at_139) rfl ((if0 _ _).trans (feq (by decide : ¬ ((1 : Int32) = (0 : Int32)))).1) ?_
    show Steps p.tables e below (T32.setTop (mkF m 142 #[.val (.int p1), .val (.int (p1 &&& (15 : Int32))), .val (.ref b1_1)] [])) _
    refine XS.aloadN X32.here hx rfl (hb hby at_142) rfl rfl ?_
    show Steps p.tables e below (T32.setTop (mkF m 143 #[.val (.int p1), .val (.int (p1 &&& (15 : Int32))), .val (.ref b1_1)] [(.ref b1_1)])) _
    refine XS.bipush X32.here hx rfl (hb hby at_143) ?_
    show Steps p.tables e below (T32.setTop (mkF m 145 #[.val (.int p1), .val (.int (p1 &&& (15 : Int32))), .val (.ref b1_1)] [(.int (14 : Int32)), (.ref b1_1)])) _
    refine st34 _ ?_
    show Steps p.tables e below (T34.setTop (mkF m 148 #[.val (.int p1), .val (.int (p1 &&& (15 : Int32))), .val (.ref b1_1)] [(.int (1 : Int32))])) _
    refine XS.ifNo X34.here hx rfl (hb hby at_148) rfl ((if0 _ _).trans (feq (by decide : ¬ ((1 : Int32) = (0 : Int32)))).1) ?_
    show Steps p.tables e below (T34.setTop (mkF m 151 #[.val (.int p1), .val (.int (p1 &&& (15 : Int32))), .val (.ref b1_1)] [])) _
    refine XS.aloadN X34.here hx rfl (hb hby at_151) rfl rfl ?_
    show Steps p.tables e below (T34.setTop (mkF m 152 #[.val (.int p1), .val (.int (p1 &&& (15 : Int32))), .val (.ref b1_1)] [(.ref b1_1)])) _
    refine XS.bipush X34.here hx rfl (hb hby at_152) ?_
    show Steps p.tables e below (T34.setTop (mkF m 154 #[.val (.int p1), .val (.int (p1 &&& (15 : Int32))), .val (.ref b1_1)] [(.int (15 : Int32)), (.ref b1_1)])) _
    refine st36 _ ?_
    show Steps p.tables e below (T36.setTop (mkF m 157 #[.val (.int p1), .val (.int (p1 &&& (15 : Int32))), .val (.ref b1_1)] [(.int (1 : Int32))])) _
    refine XS.ifNo X36.here hx rfl (hb hby at_157) rfl ((if0 _ _).trans (feq (by decide : ¬ ((1 : Int32) = (0 : Int32)))).1) ?_
    show Steps p.tables e below (T36.setTop (mkF m 160 #[.val (.int p1), .val (.int (p1 &&& (15 : Int32))), .val (.ref b1_1)] [])) _
    refine XS.iconst X36.here hx rfl (hb hby at_160) ?_
    show Steps p.tables e below (T36.setTop (mkF m 161 #[.val (.int p1), .val (.int (p1 &&& (15 : Int32))), .val (.ref b1_1)] [(.int (1 : Int32))])) _
    refine XS.goto X36.here hx rfl (pc0 := 161) (pc' := 165) rfl (hb hby at_161) (by decide) (by decide) ?_
    show Steps p.tables e below (T36.setTop (mkF m 165 #[.val (.int p1), .val (.int (p1 &&& (15 : Int32))), .val (.ref b1_1)] [(.int (1 : Int32))])) _
    exact retN X36 hx (t := .boolean) Bd.returns (by simp) (hb hby at_165) hr
  · show Q_law Z p1 h0 n0 _ T36.heap _
    rw [e36]
    exact ⟨rfl, N37⟩
theorem own_m15 (x : Int32) : own_M15 (x &&& (15 : Int32)) := by
  have e := c_mask x 15 4 (by decide) (by decide)
  have g : ∀ k : Int32, (x &&& 15).toInt = k.toInt → x &&& 15 = k := fun k h => own_eq32 h
  have z0 : (0 : Int32).toInt = 0 := by decide
  have z1 : (1 : Int32).toInt = 1 := by decide
  have z2 : (2 : Int32).toInt = 2 := by decide
  have z3 : (3 : Int32).toInt = 3 := by decide
  have z4 : (4 : Int32).toInt = 4 := by decide
  have z5 : (5 : Int32).toInt = 5 := by decide
  have z6 : (6 : Int32).toInt = 6 := by decide
  have z7 : (7 : Int32).toInt = 7 := by decide
  have z8 : (8 : Int32).toInt = 8 := by decide
  have z9 : (9 : Int32).toInt = 9 := by decide
  have z10 : (10 : Int32).toInt = 10 := by decide
  have z11 : (11 : Int32).toInt = 11 := by decide
  have z12 : (12 : Int32).toInt = 12 := by decide
  have z13 : (13 : Int32).toInt = 13 := by decide
  have z14 : (14 : Int32).toInt = 14 := by decide
  have z15 : (15 : Int32).toInt = 15 := by decide
  by_cases c0 : (x &&& 15).toInt = 0
  · exact Or.inl (g 0 (by omega))
  by_cases c1 : (x &&& 15).toInt = 1
  · exact Or.inr (Or.inl (g 1 (by omega)))
  by_cases c2 : (x &&& 15).toInt = 2
  · exact Or.inr (Or.inr (Or.inl (g 2 (by omega))))
  by_cases c3 : (x &&& 15).toInt = 3
  · exact Or.inr (Or.inr (Or.inr (Or.inl (g 3 (by omega)))))
  by_cases c4 : (x &&& 15).toInt = 4
  · exact Or.inr (Or.inr (Or.inr (Or.inr (Or.inl (g 4 (by omega))))))
  by_cases c5 : (x &&& 15).toInt = 5
  · exact Or.inr (Or.inr (Or.inr (Or.inr (Or.inr (Or.inl (g 5 (by omega)))))))
  by_cases c6 : (x &&& 15).toInt = 6
  · exact Or.inr (Or.inr (Or.inr (Or.inr (Or.inr (Or.inr (Or.inl (g 6 (by omega))))))))
  by_cases c7 : (x &&& 15).toInt = 7
  · exact Or.inr (Or.inr (Or.inr (Or.inr (Or.inr (Or.inr (Or.inr (Or.inl (g 7 (by omega)))))))))
  by_cases c8 : (x &&& 15).toInt = 8
  · exact Or.inr (Or.inr (Or.inr (Or.inr (Or.inr (Or.inr (Or.inr (Or.inr (Or.inl (g 8 (by omega))))))))))
  by_cases c9 : (x &&& 15).toInt = 9
  · exact Or.inr (Or.inr (Or.inr (Or.inr (Or.inr (Or.inr (Or.inr (Or.inr (Or.inr (Or.inl (g 9 (by omega)))))))))))
  by_cases c10 : (x &&& 15).toInt = 10
  · exact Or.inr (Or.inr (Or.inr (Or.inr (Or.inr (Or.inr (Or.inr (Or.inr (Or.inr (Or.inr (Or.inl (g 10 (by omega))))))))))))
  by_cases c11 : (x &&& 15).toInt = 11
  · exact Or.inr (Or.inr (Or.inr (Or.inr (Or.inr (Or.inr (Or.inr (Or.inr (Or.inr (Or.inr (Or.inr (Or.inl (g 11 (by omega)))))))))))))
  by_cases c12 : (x &&& 15).toInt = 12
  · exact Or.inr (Or.inr (Or.inr (Or.inr (Or.inr (Or.inr (Or.inr (Or.inr (Or.inr (Or.inr (Or.inr (Or.inr (Or.inl (g 12 (by omega))))))))))))))
  by_cases c13 : (x &&& 15).toInt = 13
  · exact Or.inr (Or.inr (Or.inr (Or.inr (Or.inr (Or.inr (Or.inr (Or.inr (Or.inr (Or.inr (Or.inr (Or.inr (Or.inr (Or.inl (g 13 (by omega)))))))))))))))
  by_cases c14 : (x &&& 15).toInt = 14
  · exact Or.inr (Or.inr (Or.inr (Or.inr (Or.inr (Or.inr (Or.inr (Or.inr (Or.inr (Or.inr (Or.inr (Or.inr (Or.inr (Or.inr (Or.inl (g 14 (by omega))))))))))))))))
  exact Or.inr (Or.inr (Or.inr (Or.inr (Or.inr (Or.inr (Or.inr (Or.inr (Or.inr (Or.inr (Or.inr (Or.inr (Or.inr (Or.inr (Or.inr ((g 15 (by omega)))))))))))))))))
theorem own_plain (p1 : Int32) : Road_e p1 := own_m15 p1
set_option maxRecDepth 65536 in
set_option maxHeartbeats 40000000 in
theorem rm_law (l : Launch) (Z : State) (a0 : Array Value) (hw : ∀ d ∈ tables_1, d.before a0 Z = true) (ws : List Jvm.Cond) (p1 : Int32) (h0 : Heap) (n0 : Nat) (Z0 : n0 ≤ h0.size) :
    MetFree l x (head1 (Jvm.Cond.code x code maxLocals ret :: ws) room_1) (fun a U => a = #[(.int p1)] ∧ Z.Warmed39 U.vm ∧ U.heap = h0) (fun _ _ _ _ _ => True) (fun _ U o U' => ∃ v L, o = .returned v ∧ Q_law Z p1 h0 n0 v U'.heap L ∧ FrameEnd U o U' L room_1.cells room_1.slots) := by
  have h := own_plain p1
  exact rm_law_e l Z a0 hw ws p1 h0 n0 Z0 h
set_option maxRecDepth 65536 in
set_option maxHeartbeats 40000000 in
theorem comes_1 {Post : Tables → Env → Array Value → State → Outcome → State → Prop} (hpost : ∀ tb e args s v u, (limb_1_1.after args s (.returned v) u = true ∧ limb_1_2.after args s (.returned v) u = true ∧ True) → FrameEnd s (.returned v) u (Jvm.fieldLocs frame_1_writes args s ++ Jvm.arrayLocs frame_1_arrays args s ++ Jvm.staticLocs frame_1_statics s) 16 128 → Post tb e args s (.returned v) u) :
    ArmFor flags0 classFile x code maxLocals ret World_1 tables_1 room_1 Calls_1 rest_1 Pre_1 Post := by
  intro l hfl _ _ p e ha hc hk s m args below hf hA hF happ hP
  obtain ⟨hcalls, hrest, hpre⟩ := hP
  obtain ⟨-, -, -, hnamed, -, -, -, hat⟩ := (Spec.applies_iff hf).mp happ
  obtain ⟨hg, hn⟩ := and_e (Cond.before_iff.mp (show (Jvm.Cond.and given_1 narrow_1).before args s = true from hpre))
  obtain ⟨g1, g2⟩ := and_e hg
  obtain ⟨w0, rfl⟩ : ∃ w0 : Value, args = #[w0] := by
    have hs : args.size = 1 := by simpa [Cond.value, given_1] using g1
    obtain ⟨L⟩ := args
    match L, hs with
    | [w0], _ => exact ⟨w0, rfl⟩
  have hw := fun d (hd : d ∈ tables_1) => atoms_spec (ws := Jvm.Cond.code x code maxLocals ret :: tables_1) hat d (List.mem_cons_of_mem _ hd)
  have hfit : Fit s := fun {y c} hc i hi => by
    obtain ⟨ha, rfl⟩ := Array.getElem?_eq_some_iff.mp hc
    have q := List.all_eq_true.mp ((Array.all_eq_true_iff_forall_mem.mp hF) _ (Array.getElem_mem ha)) i (List.mem_range.mpr hi)
    simpa [Array.getElem?_eq_getElem hi] using q
  obtain ⟨i0, ei0⟩ := is_v g2
  obtain rfl : w0 = (.int i0) := Option.some.inj ei0
  obtain ⟨n, o, h1, h2, h3, _, L, rfl, ⟨rfl, N⟩, hq⟩ := rm_law l s _ hw tables_1 i0 s.heap s.heap.size (Nat.le_refl _) p e ha hc hk s m _ below hf ((Spec.applies_iff_loose hf).mp happ).1 ⟨rfl, State.Warmed39.refl s, rfl⟩ trivial
  refine ⟨n, _, h1, h2, h3, hpost _ _ _ _ _ _ ⟨Cond.after_iff.mpr rfl, Cond.after_iff.mpr (eq_i res_at (Term.int_eval (1)) rfl), trivial⟩ ⟨hq.1, hq.2.1, (hq.2.2.sift fun y hy => Or.inr (N y hy)).mono (by decide) (by decide)⟩⟩
theorem main_1_1 : Claimed_1_1 := comes_1 fun _ _ _ _ _ _ h hF => ⟨h.1, hF⟩
theorem main_1_2 : Claimed_1_2 := comes_1 fun _ _ _ _ _ _ h hF => ⟨h.2.1, hF⟩
end Jvm.Pilot.@@N@@
namespace Jvm.Pilot.@@N@@
open Jvm Jvm.ClassFile Sem Op Lib Jvm.Free Jvm.Stand Jvm.Pilot.@@N@@.Jvm.D
/-! MADE BY PROGRAM (witnessworld.py) out of the Statement's table words and the real class files: 9 classes; the members and pool entries that the words name. The judged class is class 1, her method 2. -/
namespace start1
open Jvm.ClassFile
def u (s : String) : CpInfo := .utf8 (stringToUtf16 s)
/-- a pool by its gaps: so many unusable entries, then the entry; so many at the end -/
def gap : Nat → List CpInfo → List CpInfo
  | 0, r => r
  | n + 1, r => .unusable :: gap n r
def poolList (es : List (Nat × CpInfo)) (last : Nat) : List CpInfo := es.foldr (fun e r => gap e.1 (e.2 :: r)) (gap last [])
def pool (es : List (Nat × CpInfo)) (last : Nat) : Array CpInfo := ⟨poolList es last⟩
def fileOf (pool : Array CpInfo) (this : Nat) (attrs : Array Attribute := #[]) (ms : Array MethodInfo := #[]) (fl : Nat := 33) (sup : Nat := 0) (ifs : Array Nat := #[]) (fds : Array FieldInfo := #[]) : ClassFile where
  minorVersion := 0
  majorVersion := 65
  constantPool := pool
  accessFlags := fl
  thisClass := this
  superClass := sup
  interfaces := ifs
  fields := fds
  methods := ms
  attributes := attrs
def plain (name : String) (sup : Option ClassId) : Class where
  name := name
  kind := .ordinary
  loader := none
  accessFlags := 33
  super := sup
  interfaces := #[]
  cf := none
  fields := #[]
  methods := #[]
  instanceTypes := #[]
  staticTypes := #[]
  resolved := #[]
  callSites := []
  init := .initialized
  statics := none
  mirror := none

def pool0 : Array CpInfo := pool [(5, u "<init>"), (0, u "()V"), (1, .class_ 10), (1, u "java/lang/Object")] 113

def k0m0 : Method := { name := "<init>", desc := "()V", sig := { parameters := [], returnType := none }, accessFlags := 1, code := none }
/-- java/lang/Object -/
def k0 : Class := { plain "java/lang/Object" none with
  accessFlags := 33
  interfaces := #[]
  cf := some (fileOf pool0 8 #[] #[{ accessFlags := 1, nameIndex := 5, descriptorIndex := 6, attributes := #[] }] 33 0 #[] #[])
  fields := #[]
  methods := #[k0m0]
  instanceTypes := #[]
  staticTypes := #[]
  resolved := Array.replicate 124 none
  statics := none }

def pool1 : Array CpInfo := pool [(2, .class_ 4), (1, u "java/lang/Object"), (0, u "<init>"), (0, u "()V"), (0, .methodref 8 9), (0, .class_ 10), (0, .nameAndType 11 12), (0, u "com/example/trawl/trawl/gen/FisherYates"), (0, u "positions"), (0, u "(I)[I"), (0, .methodref 14 15), (0, .class_ 16), (0, .nameAndType 17 18), (0, u "com/example/trawl/trawl/gen/FisherYatesPositionsPinLaw"), (0, u "at"), (0, u "([II)Z"), (3, u "law"), (0, u "(I)Z")] 4

def k1m0 : Method := { name := "<init>", desc := "()V", sig := { parameters := [], returnType := none }, accessFlags := 2, code := none }
def k1c1 : Code := { maxStack := 2, maxLocals := 2, code := method_2_code, exceptionTable := #[], attributes := #[] }
def k1m1 : Method := { name := "at", desc := "([II)Z", sig := { parameters := [(.array .int), .int], returnType := some .boolean }, accessFlags := 10, code := some k1c1 }
def k1c2 : Code := { maxStack := 2, maxLocals := 3, code := code, exceptionTable := #[], attributes := #[] }
def k1m2 : Method := { name := "law", desc := "(I)Z", sig := { parameters := [.int], returnType := some .boolean }, accessFlags := 9, code := some k1c2 }
/-- com/example/trawl/trawl/gen/FisherYatesPositionsPinLaw -/
def k1 : Class := { plain "com/example/trawl/trawl/gen/FisherYatesPositionsPinLaw" (some 0) with
  accessFlags := 49
  interfaces := #[]
  cf := some (fileOf pool1 14 #[] #[{ accessFlags := 2, nameIndex := 5, descriptorIndex := 6, attributes := #[] }, { accessFlags := 10, nameIndex := 17, descriptorIndex := 18, attributes := #[] }, { accessFlags := 9, nameIndex := 22, descriptorIndex := 23, attributes := #[] }] 49 2 #[] #[])
  fields := #[]
  methods := #[k1m0, k1m1, k1m2]
  instanceTypes := #[]
  staticTypes := #[]
  resolved := Array.replicate 28 none
  statics := none }

def pool2 : Array CpInfo := pool [(2, .class_ 4), (1, u "java/lang/Object"), (0, u "<init>"), (0, u "()V"), (7, .class_ 16), (1, u "com/example/trawl/trawl/gen/FisherYates"), (4, u "positions"), (0, u "(I)[I")] 11

def k2m0 : Method := { name := "<init>", desc := "()V", sig := { parameters := [], returnType := none }, accessFlags := 2, code := none }
def k2c1 : Code := { maxStack := 3, maxLocals := 3, code := prog_1_method_2_code, exceptionTable := #[], attributes := #[] }
def k2m1 : Method := { name := "positions", desc := "(I)[I", sig := { parameters := [.int], returnType := some (.array .int) }, accessFlags := 8, code := some k2c1 }
/-- com/example/trawl/trawl/gen/FisherYates -/
def k2 : Class := { plain "com/example/trawl/trawl/gen/FisherYates" (some 0) with
  accessFlags := 32
  interfaces := #[]
  cf := some (fileOf pool2 14 #[] #[{ accessFlags := 2, nameIndex := 5, descriptorIndex := 6, attributes := #[] }, { accessFlags := 8, nameIndex := 21, descriptorIndex := 22, attributes := #[] }] 32 2 #[] #[])
  fields := #[]
  methods := #[k2m0, k2m1]
  instanceTypes := #[]
  staticTypes := #[]
  resolved := Array.replicate 34 none
  statics := none }

def pool3 : Array CpInfo := pool [(1, u "java/lang/Cloneable"), (0, .class_ 1), (0, u "java/lang/Object"), (0, .class_ 3)] 3

/-- java/lang/Cloneable -/
def k3 : Class := { plain "java/lang/Cloneable" (some 0) with
  accessFlags := 1537
  interfaces := #[]
  cf := some (fileOf pool3 2 #[] #[] 1537 4 #[] #[])
  fields := #[]
  methods := #[]
  instanceTypes := #[]
  staticTypes := #[]
  resolved := Array.replicate 8 none
  statics := none }

def pool4 : Array CpInfo := pool [(1, u "java/io/Serializable"), (0, .class_ 1), (0, u "java/lang/Object"), (0, .class_ 3)] 3

/-- java/io/Serializable -/
def k4 : Class := { plain "java/io/Serializable" (some 0) with
  accessFlags := 1537
  interfaces := #[]
  cf := some (fileOf pool4 2 #[] #[] 1537 4 #[] #[])
  fields := #[]
  methods := #[]
  instanceTypes := #[]
  staticTypes := #[]
  resolved := Array.replicate 8 none
  statics := none }

/-- the primitive byte -/
def k5 : Class := { plain "byte" none with kind := .primitive 'B', accessFlags := 0x411 }
/-- [B -/
def k6 : Class := { plain "[B" (some 0) with kind := .array 5 .byte, interfaces := #[3, 4], accessFlags := 1041 }

/-- the primitive int -/
def k7 : Class := { plain "int" none with kind := .primitive 'I', accessFlags := 0x411 }
/-- [I -/
def k8 : Class := { plain "[I" (some 0) with kind := .array 7 .int, interfaces := #[3, 4], accessFlags := 1041 }

def heap : Heap := #[]
def classes : Array Class := #[k0, k1, k2, k3, k4, k5, k6, k7, k8]
def interned : List (Array UInt16 × Addr) := []
def slotsUsed : Nat := 0
def theMethod : MethodId := ⟨1, 2⟩
def args0 : Array Value := #[.int 5]
def aboutOver (below : List Frame) : State where
  vm := { classes := classes, interned := interned.toArray }
  heap := heap
  slotsUsed := slotsUsed
  threads := #[{ frames := .invoking theMethod args0 :: below }]
def below0 : List Frame := [.native { method := ⟨0, 0⟩, args := #[] }]
def about1 : State := aboutOver below0
def p0 : Program := .bare "" "" ""
def e0 : Env := launch0.env 0 0 0
theorem w_frames : about1.frames = Frame.invoking theMethod args0 :: below0 := rfl
set_option maxRecDepth 65536 in
theorem w_args : argsFit about1.vm theMethod args0 = true := by decide +kernel
set_option maxRecDepth 65536 in
theorem w_heap : heapFits about1 = true := by decide +kernel
set_option maxRecDepth 65536 in
theorem w_runnable : about1.curStatus? = some .runnable := by decide +kernel
set_option maxRecDepth 65536 in
theorem w_alone : about1.alone = true := by decide +kernel
set_option maxRecDepth 65536 in
theorem w_named : about1.methodNamed? x = some theMethod := by decide +kernel
set_option maxRecDepth 65536 in
theorem w_hears : about1.hears theMethod below0 = true := by decide +kernel
set_option maxRecDepth 65536 in
theorem w_ripe : about1.ripe theMethod args0 below0 = true := by decide +kernel
theorem w_running : about1.status = .running := rfl
set_option maxRecDepth 65536 in
theorem w_room : about1.hasRoom e0.platform room_1 = true :=
  launch0.hasRoom_least _ room_1 (by decide +kernel) (by decide +kernel) (by decide +kernel) (by decide +kernel) (by decide +kernel) (by decide +kernel)
theorem allAtoms_all (ts : List Jvm.Cond) (a : Array Jvm.Value) (st : Jvm.State) : (allAtoms ts).before a st = ts.all (fun c => c.before a st) := by
  induction ts with
  | nil => rfl
  | cons c t ih =>
    show (Jvm.Cond.and c (allAtoms t)).before a st = _
    rw [Jvm.Cond.before_and, ih, List.all_cons]
def words1 : List Jvm.Cond := Jvm.Cond.code x code maxLocals ret :: tables_1
/-- a 'code' word, met by the world's own term for the bytes: nothing is compared byte by byte -/
theorem code_word {y : MethodName} {bytes : ByteArray} {mx : Nat} {rt : Option FieldType} {a : Array Value} {s : State} {m : MethodId} {meth : Method} {c : Code} (h1 : s.methodNamed? y = some m) (h2 : s.vm.method? m = some meth) (h3 : meth.code = some c) (h4 : c.code = bytes)
    (h5 : (c.maxLocals == mx && c.exceptionTable.isEmpty && decide (c.maxStack ≤ mostOperands) && decide (meth.sig.returnType = rt) && !meth.locks && decide (parseMethodDescriptor y.desc = some meth.sig)) = true) : (Jvm.Cond.code y bytes mx rt).before a s = true := by
  simp only [Bool.and_eq_true, beq_iff_eq, Bool.not_eq_true', decide_eq_true_eq] at h5
  obtain ⟨⟨⟨⟨⟨g1, g2⟩, g3⟩, g4⟩, g5⟩, g6⟩ := h5
  simp [Cond.before, Cond.holds, Cond.value, h1, h2, h3, h4, g1, g2, g3, g4, g5, g6]
def isCode : Jvm.Cond → Bool
  | .code _ _ _ _ => true
  | _ => false
theorem all_split {L : List Jvm.Cond} {P : Jvm.Cond → Bool} (h1 : L.all (fun c => isCode c || P c) = true) (h2 : ∀ c ∈ L.filter isCode, P c = true) : L.all P = true := by
  refine List.all_eq_true.mpr fun c hc => ?_
  have h := List.all_eq_true.mp h1 c hc
  rcases Bool.eq_false_or_eq_true (isCode c) with hi | hi
  · exact h2 c (List.mem_filter.mpr ⟨hc, hi⟩)
  · simpa [hi] using h
set_option maxRecDepth 65536 in
theorem w_c0 : (Jvm.Cond.code x code maxLocals ret).before args0 about1 = true := code_word (m := ⟨1, 2⟩) (meth := k1m2) (c := k1c2) (by decide +kernel) rfl rfl rfl (by decide +kernel)
set_option maxRecDepth 65536 in
theorem w_c1 : (Jvm.Cond.code ({ cls := "com/example/trawl/trawl/gen/FisherYates", name := "positions", desc := "(I)[I" } : Jvm.MethodName) prog_1_method_2_code (3 : Nat) (Option.some (Jvm.ClassFile.FieldType.array Jvm.ClassFile.FieldType.int))).before args0 about1 = true := code_word (m := ⟨2, 1⟩) (meth := k2m1) (c := k2c1) (by decide +kernel) rfl rfl rfl (by decide +kernel)
set_option maxRecDepth 65536 in
theorem w_c2 : (Jvm.Cond.code ({ cls := "com/example/trawl/trawl/gen/FisherYatesPositionsPinLaw", name := "at", desc := "([II)Z" } : Jvm.MethodName) method_2_code (2 : Nat) (Option.some Jvm.ClassFile.FieldType.boolean)).before args0 about1 = true := code_word (m := ⟨1, 1⟩) (meth := k1m1) (c := k1c1) (by decide +kernel) rfl rfl rfl (by decide +kernel)
def codes1 : List Jvm.Cond := [Jvm.Cond.code x code maxLocals ret, Jvm.Cond.code ({ cls := "com/example/trawl/trawl/gen/FisherYates", name := "positions", desc := "(I)[I" } : Jvm.MethodName) prog_1_method_2_code (3 : Nat) (Option.some (Jvm.ClassFile.FieldType.array Jvm.ClassFile.FieldType.int)), Jvm.Cond.code ({ cls := "com/example/trawl/trawl/gen/FisherYatesPositionsPinLaw", name := "at", desc := "([II)Z" } : Jvm.MethodName) method_2_code (2 : Nat) (Option.some Jvm.ClassFile.FieldType.boolean)]
set_option maxRecDepth 65536 in
theorem codes_eq : words1.filter isCode = codes1 := rfl
theorem w_codes : ∀ c ∈ words1.filter isCode, c.before args0 about1 = true := by
  rw [codes_eq]
  intro c hc
  simp only [codes1, List.mem_cons, List.not_mem_nil, or_false] at hc
  rcases hc with rfl | rfl | rfl
  · exact w_c0
  · exact w_c1
  · exact w_c2
set_option maxRecDepth 65536 in
theorem w_t1 : words1.all (fun c => isCode c || c.before args0 about1) = true := by decide +kernel
theorem w_tables : (allAtoms (Jvm.Cond.code x code maxLocals ret :: tables_1)).before args0 about1 = true := by
  rw [allAtoms_all]
  show words1.all (fun c => c.before args0 about1) = true
  refine all_split ?_ w_codes
  rw [w_t1]
set_option maxRecDepth 65536 in
theorem w_case : (Jvm.Cond.and given_1 narrow_1).before args0 about1 = true := by decide +kernel
theorem w_applies : (headSpec (Jvm.Cond.code x code maxLocals ret :: tables_1) room_1).applies x e0.platform about1 = true :=
  (Spec.applies_iff w_frames).mpr ⟨w_running, w_runnable, w_alone, w_named, w_hears, w_ripe, w_room, w_tables⟩
theorem atStart : AtStart classFile x code maxLocals ret World_1 tables_1 room_1 Calls_1 rest_1 Pre_1 launch0 p0 e0 about1 theMethod args0 below0 :=
  ⟨lists_1, trivial, launch0.admits_env _ _ _, launch0.least_env, fairChoices_fair.cas, fairChoices_fair.clock, w_frames, w_args, w_heap, w_applies, trivial, trivial, w_case⟩
end start1
theorem witness_1 : WitnessClaimed_1 := ⟨start1.p0, start1.e0, start1.about1, start1.theMethod, start1.args0, start1.below0, start1.atStart⟩
end Jvm.Pilot.@@N@@
