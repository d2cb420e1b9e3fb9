import JvmDerived
import JvmDerived.Pilot.@@N@@Statement
import JvmDerived.Pilot.@@N@@Code
set_option linter.unusedVariables false
set_option linter.unusedSimpArgs false
namespace Jvm.RoadKit
open Sem ClassFile Op Lib Jvm.Stand Jvm.Free Jvm.LawKit
section New
variable {p : Program} {l : Launch} {e : Env} {R : Room} {s : State} {m : MethodId} {args : Array Value} {below : List Frame} {meth : Method} {c : Code} {T : State} {locs : List Loc} {cells slots : Nat}
theorem retI (X : Stand p l e R s m args below meth c T locs cells slots) (hx : p.tables.exec = Jvm.exec) {pc : Nat} {Ls : Array Slot} {z : Int32} {rest : List Value} (hret : meth.sig.returnType = some .int) (hd : decode c.code pc = .ok (.ireturn, 1)) {fs : List Frame}
    (hl : ∀ (f : JFrame) (acts : List Action), f.method = m → f.locked = none → f.entered = [] → (doReturn e (T.setTop f) acts (some (.int z))).1 = T.setFrames fs) : Steps p.tables e below (T.setTop (mkF m pc Ls (.int z :: rest))) (T.setFrames fs) := by
  have hm' : T.vm.method? m = some meth := X.method'
  have hn : narrow .int (.int z) = .int z := rfl
  show Steps p.tables e below (T.setTop { method := m, pc := pc, locals := Ls, stack := _ :: rest, locked := none }) _
  jvm_step X.here [X.here.top, hx, hd, hm', hret, hn]
  first | (intro acts; rw [hl _ acts rfl rfl rfl]) | rw [hl _ _ rfl rfl rfl]
  exact Steps.refl _
end New
end Jvm.RoadKit
namespace Jvm.Pilot.@@N@@
open Jvm Jvm.ClassFile Sem Op Lib Jvm.Free Jvm.Stand Jvm.LawKit Jvm.RoadKit Bundle Jvm.Pilot.@@N@@.Jvm.D
theorem own_lmod (x y : Int64) (hx : 0 ≤ x.toInt) : (x % y).toInt = x.toInt % y.toInt := by
  rw [Int64.toInt_mod]; exact Int.tmod_eq_emod_of_nonneg hx
theorem own_imod (x y : Int32) (hx : 0 ≤ x.toInt) : (x % y).toInt = x.toInt % y.toInt := by
  rw [Int32.toInt_mod]; exact Int.tmod_eq_emod_of_nonneg hx
theorem own_lmod_rng (x y : Int64) (hx : 0 ≤ x.toInt) (hy : 0 < y.toInt) : 0 ≤ (x % y).toInt ∧ (x % y).toInt < y.toInt := by
  rw [own_lmod x y hx]; exact ⟨Int.emod_nonneg _ (by omega), Int.emod_lt_of_pos _ hy⟩
theorem own_imod_rng (x y : Int32) (hx : 0 ≤ x.toInt) (hy : 0 < y.toInt) : 0 ≤ (x % y).toInt ∧ (x % y).toInt < y.toInt := by
  rw [own_imod x y hx]; exact ⟨Int.emod_nonneg _ (by omega), Int.emod_lt_of_pos _ hy⟩
theorem own_mI (x : Int32) : 0 ≤ (x &&& (2147483647 : Int32)).toInt ∧ (x &&& (2147483647 : Int32)).toInt ≤ 2147483647 := by
  have h := c_and x 2147483647 (by decide)
  have e : (2147483647 : Int32).toInt = 2147483647 := by decide
  omega
theorem own_mL (x : Int64) : 0 ≤ (x &&& (9223372036854775807 : Int64)).toInt ∧ (x &&& (9223372036854775807 : Int64)).toInt ≤ 9223372036854775807 := by
  have h := (c_andSL x 9223372036854775807).2.2 (by decide)
  have := rng64 (x &&& (9223372036854775807 : Int64))
  omega
theorem own_nz32 {x : Int32} (h : 0 < x.toInt) : ¬ (x = (0 : Int32)) := fun e => by subst e; revert h; decide
theorem own_nz64 {x : Int64} (h : 0 < x.toInt) : ¬ (x = (0 : Int64)) := fun e => by subst e; revert h; decide
theorem own_lt32 {x y : Int32} : x < y ↔ x.toInt < y.toInt := Int32.lt_iff_toInt_lt
theorem own_lt64 {x y : Int64} : x < y ↔ x.toInt < y.toInt := Int64.lt_iff_toInt_lt
theorem own_eq32 {x y : Int32} (h : x.toInt = y.toInt) : x = y := Int32.toInt_inj.mp h
theorem own_eq64 {x y : Int64} (h : x.toInt = y.toInt) : x = y := Int64.toInt_inj.mp h
theorem own_sel {Z s : State} {a0 args : Array Value} {y : MethodName} {n : Nat} (hZ : Z.Warmed39 s.vm) (hp : (Jvm.Cond.privateMethod y).before a0 Z = true) (hi : (Jvm.Cond.instanceMethod y).before a0 Z = true) (hn : (Jvm.Cond.instantiable y.cls n).before a0 Z = true)
    (hy : y.cls ≠ "java/lang/invoke/MethodHandle" ∧ y.cls ≠ "java/lang/invoke/VarHandle") : (Jvm.Cond.selects y.cls y y).before args s = true := by
  obtain ⟨c, k, hc, hk, -, hniab, -, -⟩ := Cond.instantiable_spec (mvT hZ hn (args := args))
  exact selects_self_of_private hc hk (Bool.or_eq_false_iff.mp hniab).1 (Cond.privateMethod_at (mvP hZ hp (args := #[]))) (mvT hZ hi) hy
def own_at (vs : List Value) (i : Nat) (d : Value) : Int32 := match vs.getD i d with | .int x => x | _ => 0
theorem own_at_eq {vs : List Value} {i : Nat} {d : Value} {ty : FieldType} (h : fits ty (vs.getD i d) = true) (ht : ty = .int ∨ ty = .boolean ∨ ty = .byte ∨ ty = .char ∨ ty = .short) : vs.getD i d = .int (own_at vs i d) := by
  obtain ⟨x, hx⟩ := fit_I h ht
  simp only [own_at, hx]
def own_cp (vd vs : List Value) (dv : Value) (dp sp nn : Nat) : List Value := vd.take dp ++ ((List.range nn).map fun i => vs.getD (sp + i) dv) ++ vd.drop (dp + nn)
theorem own_conv {Z : State} {h : Heap} {a : Addr} {k : ClassId} {ty : FieldType} {n : Int32} {vs vs' : List Value} {d : Value} (F : Arv Z h a k ty n vs d) (q : ∀ i, i < n.toNatClampNeg → vs'.getD i d = vs.getD i d) : Arv Z h a k ty n vs' d := by
  obtain ⟨c, A, q1, S, q3, H, G⟩ := F
  exact ⟨c, A, q1, S, q3, fun i hi => by rw [q i (S ▸ hi)]; exact H i hi, fun i hi => by rw [q i (S ▸ hi)]; exact G i hi⟩
theorem own_mono {l : Launch} {y : MethodName} {S : Spec} {P : Array Value → State → Prop} {K : Program → Env → List Frame → State → Array Value → Prop} {Q Q' : Array Value → State → Outcome → State → Prop} (h : MetFree l y S P K Q) (hi : ∀ a U o U', Q a U o U' → Q' a U o U') : MetFree l y S P K Q' :=
  fun p e ha hc hk s m args below hf happ hP hK => by
    obtain ⟨n, o, h1, h2, h3, hq⟩ := h p e ha hc hk s m args below hf happ hP hK
    exact ⟨n, o, h1, h2, h3, hi _ _ _ _ hq⟩
theorem d1_0 : decode prog_42_method_2_code 0 = .ok (.aload_n 0, 1) := by decide +kernel
theorem d1_1 : decode prog_42_method_2_code 1 = .ok (.invokespecial 7, 3) := by decide +kernel
theorem d1_4 : decode prog_42_method_2_code 4 = .ok (.aload_n 0, 1) := by decide +kernel
theorem d1_5 : decode prog_42_method_2_code 5 = .ok (.aload_n 1, 1) := by decide +kernel
theorem d1_6 : decode prog_42_method_2_code 6 = .ok (.putfield 12, 3) := by decide +kernel
theorem d1_9 : decode prog_42_method_2_code 9 = .ok (.aload_n 0, 1) := by decide +kernel
theorem d1_10 : decode prog_42_method_2_code 10 = .ok (.iload_n 2, 1) := by decide +kernel
theorem d1_11 : decode prog_42_method_2_code 11 = .ok (.putfield 16, 3) := by decide +kernel
theorem d1_14 : decode prog_42_method_2_code 14 = .ok (.aload_n 0, 1) := by decide +kernel
theorem d1_15 : decode prog_42_method_2_code 15 = .ok (.iload_n 3, 1) := by decide +kernel
theorem d1_16 : decode prog_42_method_2_code 16 = .ok (.putfield 20, 3) := by decide +kernel
theorem d1_19 : decode prog_42_method_2_code 19 = .ok (.return_, 1) := by decide +kernel
theorem pn_com_example_fieldstone_fieldstone_core_ByteReader : plainName "com/example/fieldstone/fieldstone/core/ByteReader" = true := by first | (simp [plainName, overriddenIn]; done) | decide +kernel
theorem ef_1_RRII (m : MethodId) (x0 : Addr) (x1 : Addr) (x2 : Int32) (x3 : Int32) : entryFrame m #[(.ref x0), (.ref x1), (.int x2), (.int x3)] 4 = mkF m 0 #[.val (.ref x0), .val (.ref x1), .val (.int x2), .val (.int x3)] [] := by first | (simp [entryFrame, mkF, argsToLocals, Value.category]; done) | rfl
def Q_init (Z : State) (a1 : Addr) (a2 : Addr) (p3 : Int32) (p4 : Int32) (h0 : Heap) (n0 : Nat) (v : Option Value) (h : Heap) (L : List Loc) : Prop := v = none ∧ Fr n0 L ∧ Keep h0 h [a1] ∧ Exa Z h a1 "com/example/fieldstone/fieldstone/core/ByteReader" ∧ Fld Z h a1 "com/example/fieldstone/fieldstone/core/ByteReader" "bytes" "[B" (.ref a2) ∧ Fld Z h a1 "com/example/fieldstone/fieldstone/core/ByteReader" "position" "I" (.int p3) ∧ Fld Z h a1 "com/example/fieldstone/fieldstone/core/ByteReader" "end" "I" (.int p4)
set_option maxRecDepth 65536 in
set_option maxHeartbeats 40000000 in
theorem rm_init (l : Launch) (Z : State) (a0 : Array Value) (hw : ∀ d ∈ tables_1, d.before a0 Z = true) (ws : List Jvm.Cond) (a1 : Addr) (a2 : Addr) (p3 : Int32) (p4 : Int32) (h0 : Heap) (n0 : Nat) (Z0 : n0 ≤ h0.size) (E_a1 : Exa Z h0 a1 "com/example/fieldstone/fieldstone/core/ByteReader") (F_bytes_a1 : Fld Z h0 a1 "com/example/fieldstone/fieldstone/core/ByteReader" "bytes" "[B" .null) (g_a1 : n0 ≤ a1) (F_position_a1 : Fld Z h0 a1 "com/example/fieldstone/fieldstone/core/ByteReader" "position" "I" (.int (0 : Int32))) (F_end_a1 : Fld Z h0 a1 "com/example/fieldstone/fieldstone/core/ByteReader" "end" "I" (.int (0 : Int32))) :
    MetFree l (⟨"com/example/fieldstone/fieldstone/core/ByteReader", "<init>", "([BII)V"⟩ : MethodName) (head1 (Jvm.Cond.code (⟨"com/example/fieldstone/fieldstone/core/ByteReader", "<init>", "([BII)V"⟩ : MethodName) prog_42_method_2_code 4 none :: ws) ({ frames := 1, cells := 0, slots := 0, locals := 12 } : Room)) (fun a U => a = #[(.ref a1), (.ref a2), (.int p3), (.int p4)] ∧ Z.Warmed39 U.vm ∧ U.heap = h0) (fun _ _ _ _ _ => True) (fun _ U o U' => ∃ v L, o = .returned v ∧ Q_init Z a1 a2 p3 p4 h0 n0 v U'.heap L ∧ FrameEnd U o U' L ({ frames := 1, cells := 0, slots := 0, locals := 12 } : Room).cells ({ frames := 1, cells := 0, slots := 0, locals := 12 } : Room).slots) := by
  refine MetFree.of_bodySF (plainFor_of_name pn_com_example_fieldstone_fieldstone_core_ByteReader) hisR ?_
  intro p e s m args below meth c s₁ Bd hml0 hP hK
  obtain ⟨rfl, hZ, hh⟩ := hP
  have hx := Bd.exec
  have hby := Bd.bytes
  have hml : c.maxLocals = 4 := hml0
  have hown : s.vm.findClass "com/example/fieldstone/fieldstone/core/ByteReader" = some m.cls := findClass_of_methodNamed Bd.named
  have hnm := (name_of_methodNamed Bd.named Bd.method).1
  have X0 : Stand p l e ({ frames := 1, cells := 0, slots := 0, locals := 12 } : Room) s m #[(.ref a1), (.ref a2), (.int p3), (.int p4)] below meth c s₁ [] 0 0 := Stand.of_body Bd
  have e0 : s₁.heap = h0 := by rw [← hh, Bd.state]; rfl
  have N0 := Fr.nil n0
  have pre0 : ∀ t, Steps p.tables e below (s₁.setTop (mkF m 0 #[.val (.ref a1), .val (.ref a2), .val (.int p3), .val (.int p4)] [])) t → Steps p.tables e below (s₁.setTop (entryFrame m #[(.ref a1), (.ref a2), (.int p3), (.int p4)] 4)) t := fun t k => castTop (ef_1_RRII m a1 a2 p3 p4) k
  obtain ⟨T1, X1, e1, st1⟩ := initO X0 hx hZ hown (hw _ (List.mem_of_getElem? (i := 8) rfl)) (hw _ (List.mem_of_getElem? (i := 9) rfl)) (hw _ (List.mem_of_getElem? (i := 10) rfl)) e0 (g := (mkF m 1 #[.val (.ref a1), .val (.ref a2), .val (.int p3), .val (.int p4)] [(.ref a1)])) rfl (by rw [hml]; rfl) rfl (hb hby d1_1) (by decide) (W := 0) (by show 2 * 0 + _ ≤ _; exact Nat.le_of_eq rfl) (by decide)
  obtain ⟨T2, h2, X2, e2, W2, st2⟩ := putF X1 hx hZ hown (host := "") (Or.inl (hw _ (List.mem_of_getElem? (i := 11) rfl))) Via.refl e1 F_bytes_a1 E_a1 (Or.inr ⟨(hw _ (List.mem_of_getElem? (i := 12) rfl)), rfl, hnm⟩) (hw _ (List.mem_of_getElem? (i := 3) rfl)) (ty := (.array .byte)) (by decide) rfl rfl (g := (mkF m 6 #[.val (.ref a1), .val (.ref a2), .val (.int p3), .val (.int p4)] [(.ref a2), (.ref a1)])) rfl rfl (hb hby d1_6)
  have f3 : Exa Z h2 a1 "com/example/fieldstone/fieldstone/core/ByteReader" := E_a1.wr W2
  have f4 : Fld Z h2 a1 "com/example/fieldstone/fieldstone/core/ByteReader" "bytes" "[B" (.ref a2) := F_bytes_a1.same W2
  have f5 : Fld Z h2 a1 "com/example/fieldstone/fieldstone/core/ByteReader" "position" "I" (.int (0 : Int32)) := F_position_a1.other W2 (Or.inr (slot_ne (Or.inl (hw _ (List.mem_of_getElem? (i := 14) rfl))) (Or.inr (hw _ (List.mem_of_getElem? (i := 12) rfl))) (by decide) (t := .int) (t' := (.array .byte)) (by decide) (by decide)))
  have f6 : Fld Z h2 a1 "com/example/fieldstone/fieldstone/core/ByteReader" "end" "I" (.int (0 : Int32)) := F_end_a1.other W2 (Or.inr (slot_ne (Or.inr (hw _ (List.mem_of_getElem? (i := 16) rfl))) (Or.inr (hw _ (List.mem_of_getElem? (i := 12) rfl))) (by decide) (t := .int) (t' := (.array .byte)) (by decide) (by decide)))
  have K7 : Keep h0 h2 [a1] := (Keep.refl h0 [a1]).wr W2 (Or.inl (List.mem_of_getElem? (i := 0) rfl))
  have N8 := Fr.snoc X2 N0 g_a1
  have Zs9 : n0 ≤ h2.size := Nat.le_trans Z0 (Keep.of_wr W2).1
  obtain ⟨T10, h10, X10, e10, W10, st10⟩ := putF X2 hx hZ hown (host := "") (Or.inl (hw _ (List.mem_of_getElem? (i := 13) rfl))) Via.refl e2 f5 f3 (Or.inl (hw _ (List.mem_of_getElem? (i := 14) rfl))) (hw _ (List.mem_of_getElem? (i := 3) rfl)) (ty := .int) (by decide) rfl rfl (g := (mkF m 11 #[.val (.ref a1), .val (.ref a2), .val (.int p3), .val (.int p4)] [(.int p3), (.ref a1)])) rfl rfl (hb hby d1_11)
  have f11 : Exa Z h10 a1 "com/example/fieldstone/fieldstone/core/ByteReader" := f3.wr W10
  have f12 : Fld Z h10 a1 "com/example/fieldstone/fieldstone/core/ByteReader" "bytes" "[B" (.ref a2) := f4.other W10 (Or.inr (slot_ne (Or.inr (hw _ (List.mem_of_getElem? (i := 12) rfl))) (Or.inl (hw _ (List.mem_of_getElem? (i := 14) rfl))) (by decide) (t := (.array .byte)) (t' := .int) (by decide) (by decide)))
  have f13 : Fld Z h10 a1 "com/example/fieldstone/fieldstone/core/ByteReader" "position" "I" (.int p3) := f5.same W10
  have f14 : Fld Z h10 a1 "com/example/fieldstone/fieldstone/core/ByteReader" "end" "I" (.int (0 : Int32)) := f6.other W10 (Or.inr (slot_ne (Or.inr (hw _ (List.mem_of_getElem? (i := 16) rfl))) (Or.inl (hw _ (List.mem_of_getElem? (i := 14) rfl))) (by decide) (t := .int) (t' := .int) (by decide) (by decide)))
  have K15 : Keep h0 h10 [a1] := K7.wr W10 (Or.inl (List.mem_of_getElem? (i := 0) rfl))
  have N16 := Fr.snoc X10 N8 g_a1
  have Zs17 : n0 ≤ h10.size := Nat.le_trans Zs9 (Keep.of_wr W10).1
  obtain ⟨T18, h18, X18, e18, W18, st18⟩ := putF X10 hx hZ hown (host := "") (Or.inl (hw _ (List.mem_of_getElem? (i := 15) rfl))) Via.refl e10 f14 f11 (Or.inr ⟨(hw _ (List.mem_of_getElem? (i := 16) rfl)), rfl, hnm⟩) (hw _ (List.mem_of_getElem? (i := 3) rfl)) (ty := .int) (by decide) rfl rfl (g := (mkF m 16 #[.val (.ref a1), .val (.ref a2), .val (.int p3), .val (.int p4)] [(.int p4), (.ref a1)])) rfl rfl (hb hby d1_16)
  have f19 : Exa Z h18 a1 "com/example/fieldstone/fieldstone/core/ByteReader" := f11.wr W18
  have f20 : Fld Z h18 a1 "com/example/fieldstone/fieldstone/core/ByteReader" "bytes" "[B" (.ref a2) := f12.other W18 (Or.inr (slot_ne (Or.inr (hw _ (List.mem_of_getElem? (i := 12) rfl))) (Or.inr (hw _ (List.mem_of_getElem? (i := 16) rfl))) (by decide) (t := (.array .byte)) (t' := .int) (by decide) (by decide)))
  have f21 : Fld Z h18 a1 "com/example/fieldstone/fieldstone/core/ByteReader" "position" "I" (.int p3) := f13.other W18 (Or.inr (slot_ne (Or.inl (hw _ (List.mem_of_getElem? (i := 14) rfl))) (Or.inr (hw _ (List.mem_of_getElem? (i := 16) rfl))) (by decide) (t := .int) (t' := .int) (by decide) (by decide)))
  have f22 : Fld Z h18 a1 "com/example/fieldstone/fieldstone/core/ByteReader" "end" "I" (.int p4) := f14.same W18
  have K23 : Keep h0 h18 [a1] := K15.wr W18 (Or.inl (List.mem_of_getElem? (i := 0) rfl))
  have N24 := Fr.snoc X18 N16 g_a1
  have Zs25 : n0 ≤ h18.size := Nat.le_trans Zs17 (Keep.of_wr W18).1
  obtain ⟨fs, hr, hrun, hended, hW, hsame⟩ := X18.leave (v := none) (fun _ => rfl)
  refine ⟨_, _, pre0 _ ?_, hrun, hended, _, _, rfl, ?_, ⟨_, rfl⟩, hW, hsame.mono (by decide) (by decide)⟩
  · show Steps p.tables e below (s₁.setTop (mkF m 0 #[.val (.ref a1), .val (.ref a2), .val (.int p3), .val (.int p4)] [])) _
    refine XS.aloadN X0.here hx rfl (hb hby d1_0) rfl rfl ?_
    show Steps p.tables e below (s₁.setTop (mkF m 1 #[.val (.ref a1), .val (.ref a2), .val (.int p3), .val (.int p4)] [(.ref a1)])) _
    refine st1 _ ?_
    show Steps p.tables e below (T1.setTop (mkF m 4 #[.val (.ref a1), .val (.ref a2), .val (.int p3), .val (.int p4)] [])) _
    refine XS.aloadN X1.here hx rfl (hb hby d1_4) rfl rfl ?_
    show Steps p.tables e below (T1.setTop (mkF m 5 #[.val (.ref a1), .val (.ref a2), .val (.int p3), .val (.int p4)] [(.ref a1)])) _
    refine XS.aloadN X1.here hx rfl (hb hby d1_5) rfl rfl ?_
    show Steps p.tables e below (T1.setTop (mkF m 6 #[.val (.ref a1), .val (.ref a2), .val (.int p3), .val (.int p4)] [(.ref a2), (.ref a1)])) _
    refine st2 _ ?_
    show Steps p.tables e below (T2.setTop (mkF m 9 #[.val (.ref a1), .val (.ref a2), .val (.int p3), .val (.int p4)] [])) _
    refine XS.aloadN X2.here hx rfl (hb hby d1_9) rfl rfl ?_
    show Steps p.tables e below (T2.setTop (mkF m 10 #[.val (.ref a1), .val (.ref a2), .val (.int p3), .val (.int p4)] [(.ref a1)])) _
    refine XS.iloadN X2.here hx rfl (hb hby d1_10) rfl ?_
    show Steps p.tables e below (T2.setTop (mkF m 11 #[.val (.ref a1), .val (.ref a2), .val (.int p3), .val (.int p4)] [(.int p3), (.ref a1)])) _
    refine st10 _ ?_
    show Steps p.tables e below (T10.setTop (mkF m 14 #[.val (.ref a1), .val (.ref a2), .val (.int p3), .val (.int p4)] [])) _
    refine XS.aloadN X10.here hx rfl (hb hby d1_14) rfl rfl ?_
    show Steps p.tables e below (T10.setTop (mkF m 15 #[.val (.ref a1), .val (.ref a2), .val (.int p3), .val (.int p4)] [(.ref a1)])) _
    refine XS.iloadN X10.here hx rfl (hb hby d1_15) rfl ?_
    show Steps p.tables e below (T10.setTop (mkF m 16 #[.val (.ref a1), .val (.ref a2), .val (.int p3), .val (.int p4)] [(.int p4), (.ref a1)])) _
    refine st18 _ ?_
    show Steps p.tables e below (T18.setTop (mkF m 19 #[.val (.ref a1), .val (.ref a2), .val (.int p3), .val (.int p4)] [])) _
    exact X18.returnOut hx Bd.returns (hb hby d1_19) hr
  · show Q_init Z a1 a2 p3 p4 h0 n0 _ T18.heap _
    rw [e18]
    exact ⟨rfl, N24, K23, f19, f20, f21, f22⟩
theorem d3_0 : decode prog_42_method_3_code 0 = .ok (.aload_n 0, 1) := by decide +kernel
theorem d3_1 : decode prog_42_method_3_code 1 = .ok (.getfield 16, 3) := by decide +kernel
theorem d3_4 : decode prog_42_method_3_code 4 = .ok (.aload_n 0, 1) := by decide +kernel
theorem d3_5 : decode prog_42_method_3_code 5 = .ok (.getfield 20, 3) := by decide +kernel
theorem d3_8 : decode prog_42_method_3_code 8 = .ok (.if_icmp .ge 7, 3) := by decide +kernel
theorem d3_15 : decode prog_42_method_3_code 15 = .ok (.iconst 0, 1) := by decide +kernel
theorem d3_16 : decode prog_42_method_3_code 16 = .ok (.ireturn, 1) := by decide +kernel
theorem d3_11 : decode prog_42_method_3_code 11 = .ok (.iconst 1, 1) := by decide +kernel
theorem d3_12 : decode prog_42_method_3_code 12 = .ok (.goto 4, 3) := by decide +kernel
theorem ef_3_R (m : MethodId) (x0 : Addr) : entryFrame m #[(.ref x0)] 1 = mkF m 0 #[.val (.ref x0)] [] := by first | (simp [entryFrame, mkF, argsToLocals, Value.category]; done) | rfl
def f_has (w_position_a1 : Int32) (w_end_a1 : Int32) : Int32 := (if w_position_a1 < w_end_a1 then (1 : Int32) else (0 : Int32))
def Q_has (Z : State) (a1 : Addr) (w_position_a1 : Int32) (w_end_a1 : Int32) (h0 : Heap) (n0 : Nat) (v : Option Value) (h : Heap) (L : List Loc) : Prop := v = some (.int (f_has w_position_a1 w_end_a1)) ∧ Fr n0 L ∧ h = h0
set_option maxRecDepth 65536 in
set_option maxHeartbeats 40000000 in
theorem rm_has_t (l : Launch) (Z : State) (a0 : Array Value) (hw : ∀ d ∈ tables_1, d.before a0 Z = true) (ws : List Jvm.Cond) (a1 : Addr) (w_position_a1 : Int32) (w_end_a1 : Int32) (h0 : Heap) (n0 : Nat) (Z0 : n0 ≤ h0.size) (F_position_a1 : Fld Z h0 a1 "com/example/fieldstone/fieldstone/core/ByteReader" "position" "I" (.int w_position_a1)) (F_end_a1 : Fld Z h0 a1 "com/example/fieldstone/fieldstone/core/ByteReader" "end" "I" (.int w_end_a1)) (hc0 : ¬ (w_position_a1 < w_end_a1)) (hret : (f_has w_position_a1 w_end_a1) = (0 : Int32)) :
    MetFree l (⟨"com/example/fieldstone/fieldstone/core/ByteReader", "hasRemaining", "()Z"⟩ : MethodName) (head1 (Jvm.Cond.code (⟨"com/example/fieldstone/fieldstone/core/ByteReader", "hasRemaining", "()Z"⟩ : MethodName) prog_42_method_3_code 1 (some .boolean) :: ws) ({ frames := 0, cells := 0, slots := 0, locals := 0 } : Room)) (fun a U => a = #[(.ref a1)] ∧ Z.Warmed39 U.vm ∧ U.heap = h0) (fun _ _ _ _ _ => True) (fun _ U o U' => ∃ v L, o = .returned v ∧ Q_has Z a1 w_position_a1 w_end_a1 h0 n0 v U'.heap L ∧ FrameEnd U o U' L ({ frames := 0, cells := 0, slots := 0, locals := 0 } : Room).cells ({ frames := 0, cells := 0, slots := 0, locals := 0 } : Room).slots) := by
  refine MetFree.of_bodySF (plainFor_of_name pn_com_example_fieldstone_fieldstone_core_ByteReader) hisR ?_
  intro p e s m args below meth c s₁ Bd hml0 hP hK
  obtain ⟨rfl, hZ, hh⟩ := hP
  have hx := Bd.exec
  have hby := Bd.bytes
  have hml : c.maxLocals = 1 := hml0
  have hown : s.vm.findClass "com/example/fieldstone/fieldstone/core/ByteReader" = some m.cls := findClass_of_methodNamed Bd.named
  have hnm := (name_of_methodNamed Bd.named Bd.method).1
  have X0 : Stand p l e ({ frames := 0, cells := 0, slots := 0, locals := 0 } : Room) s m #[(.ref a1)] below meth c s₁ [] 0 0 := Stand.of_body Bd
  have e0 : s₁.heap = h0 := by rw [← hh, Bd.state]; rfl
  have N0 := Fr.nil n0
  have pre0 : ∀ t, Steps p.tables e below (s₁.setTop (mkF m 0 #[.val (.ref a1)] [])) t → Steps p.tables e below (s₁.setTop (entryFrame m #[(.ref a1)] 1)) t := fun t k => castTop (ef_3_R m a1) k
  obtain ⟨T1, X1, e1, st1⟩ := getF X0 hx hZ hown (host := "") (Or.inl (hw _ (List.mem_of_getElem? (i := 13) rfl))) Via.refl e0 F_position_a1 (g := (mkF m 1 #[.val (.ref a1)] [(.ref a1)])) rfl rfl (hb hby d3_1)
  obtain ⟨T2, X2, e2, st2⟩ := getF X1 hx hZ hown (host := "") (Or.inl (hw _ (List.mem_of_getElem? (i := 15) rfl))) Via.refl e1 F_end_a1 (g := (mkF m 5 #[.val (.ref a1)] [(.ref a1), (.int w_position_a1)])) rfl rfl (hb hby d3_5)
  obtain ⟨fs, hr, hrun, hended, hW, hsame⟩ := X2.leave (v := some (.int (0 : Int32))) (fun h => by rw [Bd.returns] at h; cases h)
  refine ⟨_, _, pre0 _ ?_, hrun, hended, _, _, rfl, ?_, ⟨_, rfl⟩, hW, hsame.mono (by decide) (by decide)⟩
  · show Steps p.tables e below (s₁.setTop (mkF m 0 #[.val (.ref a1)] [])) _
    refine XS.aloadN X0.here hx rfl (hb hby d3_0) rfl rfl ?_
    show Steps p.tables e below (s₁.setTop (mkF m 1 #[.val (.ref a1)] [(.ref a1)])) _
    refine st1 _ ?_
    show Steps p.tables e below (T1.setTop (mkF m 4 #[.val (.ref a1)] [(.int w_position_a1)])) _
    refine XS.aloadN X1.here hx rfl (hb hby d3_4) rfl rfl ?_
    show Steps p.tables e below (T1.setTop (mkF m 5 #[.val (.ref a1)] [(.ref a1), (.int w_position_a1)])) _
    refine st2 _ ?_
    show Steps p.tables e below (T2.setTop (mkF m 8 #[.val (.ref a1)] [(.int w_end_a1), (.int w_position_a1)])) _
    refine XS.icmpYes X2.here hx rfl (pc0 := 8) (pc' := 15) rfl (hb hby d3_8) rfl (flt hc0).2.1 (by decide) (by decide) ?_
    show Steps p.tables e below (T2.setTop (mkF m 15 #[.val (.ref a1)] [])) _
    refine XS.iconst X2.here hx rfl (hb hby d3_15) ?_
    show Steps p.tables e below (T2.setTop (mkF m 16 #[.val (.ref a1)] [(.int (0 : Int32))])) _
    exact retN X2 hx (t := .boolean) Bd.returns (by simp) (hb hby d3_16) hr
  · show Q_has Z a1 w_position_a1 w_end_a1 h0 n0 _ T2.heap _
    rw [e2]
    exact ⟨by rw [hret], N0, rfl⟩
set_option maxRecDepth 65536 in
set_option maxHeartbeats 40000000 in
theorem rm_has_f (l : Launch) (Z : State) (a0 : Array Value) (hw : ∀ d ∈ tables_1, d.before a0 Z = true) (ws : List Jvm.Cond) (a1 : Addr) (w_position_a1 : Int32) (w_end_a1 : Int32) (h0 : Heap) (n0 : Nat) (Z0 : n0 ≤ h0.size) (F_position_a1 : Fld Z h0 a1 "com/example/fieldstone/fieldstone/core/ByteReader" "position" "I" (.int w_position_a1)) (F_end_a1 : Fld Z h0 a1 "com/example/fieldstone/fieldstone/core/ByteReader" "end" "I" (.int w_end_a1)) (hc0 : w_position_a1 < w_end_a1) (hret : (f_has w_position_a1 w_end_a1) = (1 : Int32)) :
    MetFree l (⟨"com/example/fieldstone/fieldstone/core/ByteReader", "hasRemaining", "()Z"⟩ : MethodName) (head1 (Jvm.Cond.code (⟨"com/example/fieldstone/fieldstone/core/ByteReader", "hasRemaining", "()Z"⟩ : MethodName) prog_42_method_3_code 1 (some .boolean) :: ws) ({ frames := 0, cells := 0, slots := 0, locals := 0 } : Room)) (fun a U => a = #[(.ref a1)] ∧ Z.Warmed39 U.vm ∧ U.heap = h0) (fun _ _ _ _ _ => True) (fun _ U o U' => ∃ v L, o = .returned v ∧ Q_has Z a1 w_position_a1 w_end_a1 h0 n0 v U'.heap L ∧ FrameEnd U o U' L ({ frames := 0, cells := 0, slots := 0, locals := 0 } : Room).cells ({ frames := 0, cells := 0, slots := 0, locals := 0 } : Room).slots) := by
  refine MetFree.of_bodySF (plainFor_of_name pn_com_example_fieldstone_fieldstone_core_ByteReader) hisR ?_
  intro p e s m args below meth c s₁ Bd hml0 hP hK
  obtain ⟨rfl, hZ, hh⟩ := hP
  have hx := Bd.exec
  have hby := Bd.bytes
  have hml : c.maxLocals = 1 := hml0
  have hown : s.vm.findClass "com/example/fieldstone/fieldstone/core/ByteReader" = some m.cls := findClass_of_methodNamed Bd.named
  have hnm := (name_of_methodNamed Bd.named Bd.method).1
  have X0 : Stand p l e ({ frames := 0, cells := 0, slots := 0, locals := 0 } : Room) s m #[(.ref a1)] below meth c s₁ [] 0 0 := Stand.of_body Bd
  have e0 : s₁.heap = h0 := by rw [← hh, Bd.state]; rfl
  have N0 := Fr.nil n0
  have pre0 : ∀ t, Steps p.tables e below (s₁.setTop (mkF m 0 #[.val (.ref a1)] [])) t → Steps p.tables e below (s₁.setTop (entryFrame m #[(.ref a1)] 1)) t := fun t k => castTop (ef_3_R m a1) k
  obtain ⟨T1, X1, e1, st1⟩ := getF X0 hx hZ hown (host := "") (Or.inl (hw _ (List.mem_of_getElem? (i := 13) rfl))) Via.refl e0 F_position_a1 (g := (mkF m 1 #[.val (.ref a1)] [(.ref a1)])) rfl rfl (hb hby d3_1)
  obtain ⟨T2, X2, e2, st2⟩ := getF X1 hx hZ hown (host := "") (Or.inl (hw _ (List.mem_of_getElem? (i := 15) rfl))) Via.refl e1 F_end_a1 (g := (mkF m 5 #[.val (.ref a1)] [(.ref a1), (.int w_position_a1)])) rfl rfl (hb hby d3_5)
  obtain ⟨fs, hr, hrun, hended, hW, hsame⟩ := X2.leave (v := some (.int (1 : Int32))) (fun h => by rw [Bd.returns] at h; cases h)
  refine ⟨_, _, pre0 _ ?_, hrun, hended, _, _, rfl, ?_, ⟨_, rfl⟩, hW, hsame.mono (by decide) (by decide)⟩
  · show Steps p.tables e below (s₁.setTop (mkF m 0 #[.val (.ref a1)] [])) _
    refine XS.aloadN X0.here hx rfl (hb hby d3_0) rfl rfl ?_
    show Steps p.tables e below (s₁.setTop (mkF m 1 #[.val (.ref a1)] [(.ref a1)])) _
    refine st1 _ ?_
    show Steps p.tables e below (T1.setTop (mkF m 4 #[.val (.ref a1)] [(.int w_position_a1)])) _
    refine XS.aloadN X1.here hx rfl (hb hby d3_4) rfl rfl ?_
    show Steps p.tables e below (T1.setTop (mkF m 5 #[.val (.ref a1)] [(.ref a1), (.int w_position_a1)])) _
    refine st2 _ ?_
    show Steps p.tables e below (T2.setTop (mkF m 8 #[.val (.ref a1)] [(.int w_end_a1), (.int w_position_a1)])) _
    refine XS.icmpNo X2.here hx rfl (hb hby d3_8) rfl (tlt hc0).2.1 ?_
    show Steps p.tables e below (T2.setTop (mkF m 11 #[.val (.ref a1)] [])) _
    refine XS.iconst X2.here hx rfl (hb hby d3_11) ?_
    show Steps p.tables e below (T2.setTop (mkF m 12 #[.val (.ref a1)] [(.int (1 : Int32))])) _
    refine XS.goto X2.here hx rfl (pc0 := 12) (pc' := 16) rfl (hb hby d3_12) (by decide) (by decide) ?_
    show Steps p.tables e below (T2.setTop (mkF m 16 #[.val (.ref a1)] [(.int (1 : Int32))])) _
    exact retN X2 hx (t := .boolean) Bd.returns (by simp) (hb hby d3_16) hr
  · show Q_has Z a1 w_position_a1 w_end_a1 h0 n0 _ T2.heap _
    rw [e2]
    exact ⟨by rw [hret], N0, rfl⟩
set_option maxRecDepth 65536 in
set_option maxHeartbeats 40000000 in
theorem rm_has (l : Launch) (Z : State) (a0 : Array Value) (hw : ∀ d ∈ tables_1, d.before a0 Z = true) (ws : List Jvm.Cond) (a1 : Addr) (w_position_a1 : Int32) (w_end_a1 : Int32) (h0 : Heap) (n0 : Nat) (Z0 : n0 ≤ h0.size) (F_position_a1 : Fld Z h0 a1 "com/example/fieldstone/fieldstone/core/ByteReader" "position" "I" (.int w_position_a1)) (F_end_a1 : Fld Z h0 a1 "com/example/fieldstone/fieldstone/core/ByteReader" "end" "I" (.int w_end_a1)) :
    MetFree l (⟨"com/example/fieldstone/fieldstone/core/ByteReader", "hasRemaining", "()Z"⟩ : MethodName) (head1 (Jvm.Cond.code (⟨"com/example/fieldstone/fieldstone/core/ByteReader", "hasRemaining", "()Z"⟩ : MethodName) prog_42_method_3_code 1 (some .boolean) :: ws) ({ frames := 0, cells := 0, slots := 0, locals := 0 } : Room)) (fun a U => a = #[(.ref a1)] ∧ Z.Warmed39 U.vm ∧ U.heap = h0) (fun _ _ _ _ _ => True) (fun _ U o U' => ∃ v L, o = .returned v ∧ Q_has Z a1 w_position_a1 w_end_a1 h0 n0 v U'.heap L ∧ FrameEnd U o U' L ({ frames := 0, cells := 0, slots := 0, locals := 0 } : Room).cells ({ frames := 0, cells := 0, slots := 0, locals := 0 } : Room).slots) := by
  by_cases c0 : w_position_a1 < w_end_a1
  · skip
    exact rm_has_f l Z a0 hw ws a1 w_position_a1 w_end_a1 h0 n0 Z0 F_position_a1 F_end_a1 c0 (by unfold f_has; rw [if_pos c0])
  · skip
    exact rm_has_t l Z a0 hw ws a1 w_position_a1 w_end_a1 h0 n0 Z0 F_position_a1 F_end_a1 c0 (by unfold f_has; rw [if_neg c0])
theorem d5_0 : decode prog_42_method_16_code 0 = .ok (.iload_n 1, 1) := by decide +kernel
theorem d5_1 : decode prog_42_method_16_code 1 = .ok (.ifCond .lt 16, 3) := by decide +kernel
theorem d5_4 : decode prog_42_method_16_code 4 = .ok (.iload_n 1, 1) := by decide +kernel
theorem d5_5 : decode prog_42_method_16_code 5 = .ok (.aload_n 0, 1) := by decide +kernel
theorem d5_6 : decode prog_42_method_16_code 6 = .ok (.getfield 20, 3) := by decide +kernel
theorem d5_9 : decode prog_42_method_16_code 9 = .ok (.aload_n 0, 1) := by decide +kernel
theorem d5_10 : decode prog_42_method_16_code 10 = .ok (.getfield 16, 3) := by decide +kernel
theorem d5_13 : decode prog_42_method_16_code 13 = .ok (.isub, 1) := by decide +kernel
theorem d5_14 : decode prog_42_method_16_code 14 = .ok (.if_icmp .le 21, 3) := by decide +kernel
theorem d5_35 : decode prog_42_method_16_code 35 = .ok (.return_, 1) := by decide +kernel
theorem ef_5_RI (m : MethodId) (x0 : Addr) (x1 : Int32) : entryFrame m #[(.ref x0), (.int x1)] 2 = mkF m 0 #[.val (.ref x0), .val (.int x1)] [] := by first | (simp [entryFrame, mkF, argsToLocals, Value.category]; done) | rfl
def Q_check (Z : State) (a1 : Addr) (p2 : Int32) (w_end_a1 : Int32) (w_position_a1 : Int32) (h0 : Heap) (n0 : Nat) (v : Option Value) (h : Heap) (L : List Loc) : Prop := v = none ∧ Fr n0 L ∧ h = h0
set_option maxRecDepth 65536 in
set_option maxHeartbeats 40000000 in
theorem rm_check (l : Launch) (Z : State) (a0 : Array Value) (hw : ∀ d ∈ tables_1, d.before a0 Z = true) (ws : List Jvm.Cond) (a1 : Addr) (p2 : Int32) (w_end_a1 : Int32) (w_position_a1 : Int32) (h0 : Heap) (n0 : Nat) (Z0 : n0 ≤ h0.size) (F_end_a1 : Fld Z h0 a1 "com/example/fieldstone/fieldstone/core/ByteReader" "end" "I" (.int w_end_a1)) (F_position_a1 : Fld Z h0 a1 "com/example/fieldstone/fieldstone/core/ByteReader" "position" "I" (.int w_position_a1)) (hc0 : ¬ (p2 < (0 : Int32))) (hc1 : ¬ ((w_end_a1 - w_position_a1) < p2)) :
    MetFree l (⟨"com/example/fieldstone/fieldstone/core/ByteReader", "checkRemaining", "(I)V"⟩ : MethodName) (head1 (Jvm.Cond.code (⟨"com/example/fieldstone/fieldstone/core/ByteReader", "checkRemaining", "(I)V"⟩ : MethodName) prog_42_method_16_code 2 none :: ws) ({ frames := 0, cells := 0, slots := 0, locals := 0 } : Room)) (fun a U => a = #[(.ref a1), (.int p2)] ∧ Z.Warmed39 U.vm ∧ U.heap = h0) (fun _ _ _ _ _ => True) (fun _ U o U' => ∃ v L, o = .returned v ∧ Q_check Z a1 p2 w_end_a1 w_position_a1 h0 n0 v U'.heap L ∧ FrameEnd U o U' L ({ frames := 0, cells := 0, slots := 0, locals := 0 } : Room).cells ({ frames := 0, cells := 0, slots := 0, locals := 0 } : Room).slots) := by
  refine MetFree.of_bodySF (plainFor_of_name pn_com_example_fieldstone_fieldstone_core_ByteReader) hisR ?_
  intro p e s m args below meth c s₁ Bd hml0 hP hK
  obtain ⟨rfl, hZ, hh⟩ := hP
  have hx := Bd.exec
  have hby := Bd.bytes
  have hml : c.maxLocals = 2 := hml0
  have hown : s.vm.findClass "com/example/fieldstone/fieldstone/core/ByteReader" = some m.cls := findClass_of_methodNamed Bd.named
  have hnm := (name_of_methodNamed Bd.named Bd.method).1
  have X0 : Stand p l e ({ frames := 0, cells := 0, slots := 0, locals := 0 } : Room) s m #[(.ref a1), (.int p2)] below meth c s₁ [] 0 0 := Stand.of_body Bd
  have e0 : s₁.heap = h0 := by rw [← hh, Bd.state]; rfl
  have N0 := Fr.nil n0
  have pre0 : ∀ t, Steps p.tables e below (s₁.setTop (mkF m 0 #[.val (.ref a1), .val (.int p2)] [])) t → Steps p.tables e below (s₁.setTop (entryFrame m #[(.ref a1), (.int p2)] 2)) t := fun t k => castTop (ef_5_RI m a1 p2) k
  obtain ⟨T1, X1, e1, st1⟩ := getF X0 hx hZ hown (host := "") (Or.inl (hw _ (List.mem_of_getElem? (i := 15) rfl))) Via.refl e0 F_end_a1 (g := (mkF m 6 #[.val (.ref a1), .val (.int p2)] [(.ref a1), (.int p2)])) rfl rfl (hb hby d5_6)
  obtain ⟨T2, X2, e2, st2⟩ := getF X1 hx hZ hown (host := "") (Or.inl (hw _ (List.mem_of_getElem? (i := 13) rfl))) Via.refl e1 F_position_a1 (g := (mkF m 10 #[.val (.ref a1), .val (.int p2)] [(.ref a1), (.int w_end_a1), (.int p2)])) rfl rfl (hb hby d5_10)
  obtain ⟨fs, hr, hrun, hended, hW, hsame⟩ := X2.leave (v := none) (fun _ => rfl)
  refine ⟨_, _, pre0 _ ?_, hrun, hended, _, _, rfl, ?_, ⟨_, rfl⟩, hW, hsame.mono (by decide) (by decide)⟩
  · show Steps p.tables e below (s₁.setTop (mkF m 0 #[.val (.ref a1), .val (.int p2)] [])) _
    refine XS.iloadN X0.here hx rfl (hb hby d5_0) rfl ?_
    show Steps p.tables e below (s₁.setTop (mkF m 1 #[.val (.ref a1), .val (.int p2)] [(.int p2)])) _
    refine XS.ifNo X0.here hx rfl (hb hby d5_1) rfl ((if0 _ _).trans (flt hc0).1) ?_
    show Steps p.tables e below (s₁.setTop (mkF m 4 #[.val (.ref a1), .val (.int p2)] [])) _
    refine XS.iloadN X0.here hx rfl (hb hby d5_4) rfl ?_
    show Steps p.tables e below (s₁.setTop (mkF m 5 #[.val (.ref a1), .val (.int p2)] [(.int p2)])) _
    refine XS.aloadN X0.here hx rfl (hb hby d5_5) rfl rfl ?_
    show Steps p.tables e below (s₁.setTop (mkF m 6 #[.val (.ref a1), .val (.int p2)] [(.ref a1), (.int p2)])) _
    refine st1 _ ?_
    show Steps p.tables e below (T1.setTop (mkF m 9 #[.val (.ref a1), .val (.int p2)] [(.int w_end_a1), (.int p2)])) _
    refine XS.aloadN X1.here hx rfl (hb hby d5_9) rfl rfl ?_
    show Steps p.tables e below (T1.setTop (mkF m 10 #[.val (.ref a1), .val (.int p2)] [(.ref a1), (.int w_end_a1), (.int p2)])) _
    refine st2 _ ?_
    show Steps p.tables e below (T2.setTop (mkF m 13 #[.val (.ref a1), .val (.int p2)] [(.int w_position_a1), (.int w_end_a1), (.int p2)])) _
    refine XS.isub X2.here hx rfl (hb hby d5_13) rfl ?_
    show Steps p.tables e below (T2.setTop (mkF m 14 #[.val (.ref a1), .val (.int p2)] [(.int (w_end_a1 - w_position_a1)), (.int p2)])) _
    refine XS.icmpYes X2.here hx rfl (pc0 := 14) (pc' := 35) rfl (hb hby d5_14) rfl (flt hc1).2.2.2 (by decide) (by decide) ?_
    show Steps p.tables e below (T2.setTop (mkF m 35 #[.val (.ref a1), .val (.int p2)] [])) _
    exact X2.returnOut hx Bd.returns (hb hby d5_35) hr
  · show Q_check Z a1 p2 w_end_a1 w_position_a1 h0 n0 _ T2.heap _
    rw [e2]
    exact ⟨rfl, N0, rfl⟩
theorem pd_0 : parseMethodDescriptor "(I)V" = some ⟨[.int], none⟩ := by decide +kernel
theorem d4_0 : decode prog_42_method_13_code 0 = .ok (.aload_n 0, 1) := by decide +kernel
theorem d4_1 : decode prog_42_method_13_code 1 = .ok (.iload_n 1, 1) := by decide +kernel
theorem d4_2 : decode prog_42_method_13_code 2 = .ok (.invokevirtual 74, 3) := by decide +kernel
theorem d4_5 : decode prog_42_method_13_code 5 = .ok (.aload_n 0, 1) := by decide +kernel
theorem d4_6 : decode prog_42_method_13_code 6 = .ok (.dup, 1) := by decide +kernel
theorem d4_7 : decode prog_42_method_13_code 7 = .ok (.getfield 16, 3) := by decide +kernel
theorem d4_10 : decode prog_42_method_13_code 10 = .ok (.iload_n 1, 1) := by decide +kernel
theorem d4_11 : decode prog_42_method_13_code 11 = .ok (.iadd, 1) := by decide +kernel
theorem d4_12 : decode prog_42_method_13_code 12 = .ok (.putfield 16, 3) := by decide +kernel
theorem d4_15 : decode prog_42_method_13_code 15 = .ok (.return_, 1) := by decide +kernel
theorem ef_4_RI (m : MethodId) (x0 : Addr) (x1 : Int32) : entryFrame m #[(.ref x0), (.int x1)] 2 = mkF m 0 #[.val (.ref x0), .val (.int x1)] [] := by first | (simp [entryFrame, mkF, argsToLocals, Value.category]; done) | rfl
def Q_skip (Z : State) (a1 : Addr) (p2 : Int32) (w_end_a1 : Int32) (w_position_a1 : Int32) (w_bytes_a1 : Addr) (h0 : Heap) (n0 : Nat) (v : Option Value) (h : Heap) (L : List Loc) : Prop := v = none ∧ Fr n0 L ∧ Keep h0 h [a1] ∧ Fld Z h a1 "com/example/fieldstone/fieldstone/core/ByteReader" "end" "I" (.int w_end_a1) ∧ Fld Z h a1 "com/example/fieldstone/fieldstone/core/ByteReader" "position" "I" (.int (w_position_a1 + p2)) ∧ Exa Z h a1 "com/example/fieldstone/fieldstone/core/ByteReader" ∧ Fld Z h a1 "com/example/fieldstone/fieldstone/core/ByteReader" "bytes" "[B" (.ref w_bytes_a1)
set_option maxRecDepth 65536 in
set_option maxHeartbeats 40000000 in
theorem rm_skip (l : Launch) (Z : State) (a0 : Array Value) (hw : ∀ d ∈ tables_1, d.before a0 Z = true) (ws : List Jvm.Cond) (a1 : Addr) (p2 : Int32) (w_end_a1 : Int32) (w_position_a1 : Int32) (w_bytes_a1 : Addr) (h0 : Heap) (n0 : Nat) (Z0 : n0 ≤ h0.size) (F_end_a1 : Fld Z h0 a1 "com/example/fieldstone/fieldstone/core/ByteReader" "end" "I" (.int w_end_a1)) (F_position_a1 : Fld Z h0 a1 "com/example/fieldstone/fieldstone/core/ByteReader" "position" "I" (.int w_position_a1)) (E_a1 : Exa Z h0 a1 "com/example/fieldstone/fieldstone/core/ByteReader") (g_a1 : n0 ≤ a1) (F_bytes_a1 : Fld Z h0 a1 "com/example/fieldstone/fieldstone/core/ByteReader" "bytes" "[B" (.ref w_bytes_a1)) (hp0 : ¬ (p2 < (0 : Int32))) (hp1 : ¬ ((w_end_a1 - w_position_a1) < p2)) :
    MetFree l (⟨"com/example/fieldstone/fieldstone/core/ByteReader", "skip", "(I)V"⟩ : MethodName) (head1 (Jvm.Cond.code (⟨"com/example/fieldstone/fieldstone/core/ByteReader", "skip", "(I)V"⟩ : MethodName) prog_42_method_13_code 2 none :: ws) ({ frames := 1, cells := 0, slots := 0, locals := 13 } : Room)) (fun a U => a = #[(.ref a1), (.int p2)] ∧ Z.Warmed39 U.vm ∧ U.heap = h0) (fun _ _ _ _ _ => True) (fun _ U o U' => ∃ v L, o = .returned v ∧ Q_skip Z a1 p2 w_end_a1 w_position_a1 w_bytes_a1 h0 n0 v U'.heap L ∧ FrameEnd U o U' L ({ frames := 1, cells := 0, slots := 0, locals := 13 } : Room).cells ({ frames := 1, cells := 0, slots := 0, locals := 13 } : Room).slots) := by
  refine MetFree.of_bodySF (plainFor_of_name pn_com_example_fieldstone_fieldstone_core_ByteReader) hisR ?_
  intro p e s m args below meth c s₁ Bd hml0 hP hK
  obtain ⟨rfl, hZ, hh⟩ := hP
  have hx := Bd.exec
  have hby := Bd.bytes
  have hml : c.maxLocals = 2 := hml0
  have hown : s.vm.findClass "com/example/fieldstone/fieldstone/core/ByteReader" = some m.cls := findClass_of_methodNamed Bd.named
  have hnm := (name_of_methodNamed Bd.named Bd.method).1
  have X0 : Stand p l e ({ frames := 1, cells := 0, slots := 0, locals := 13 } : Room) s m #[(.ref a1), (.int p2)] below meth c s₁ [] 0 0 := Stand.of_body Bd
  have e0 : s₁.heap = h0 := by rw [← hh, Bd.state]; rfl
  have N0 := Fr.nil n0
  have pre0 : ∀ t, Steps p.tables e below (s₁.setTop (mkF m 0 #[.val (.ref a1), .val (.int p2)] [])) t → Steps p.tables e below (s₁.setTop (entryFrame m #[(.ref a1), (.int p2)] 2)) t := fun t k => castTop (ef_4_RI m a1 p2) k
  obtain ⟨cq1, q1, q1'⟩ := E_a1.cell
  obtain ⟨_, _, ⟨T1, L1, k1, n1⟩, -, X1, ⟨Lc1, hQ1, l1, y1, z1⟩, st1⟩ := X0.privateBack hx (y := (⟨"com/example/fieldstone/fieldstone/core/ByteReader", "checkRemaining", "(I)V"⟩ : MethodName)) hown (mvT hZ (hw _ (List.mem_of_getElem? (i := 27) rfl))) (mvT hZ (hw _ (List.mem_of_getElem? (i := 28) rfl))) (own_sel hZ (hw _ (List.mem_of_getElem? (i := 29) rfl)) (hw _ (List.mem_of_getElem? (i := 28) rfl)) (hw _ (List.mem_of_getElem? (i := 3) rfl)) (by decide)) (Cond.privateMethod_at (mvP hZ (hw _ (List.mem_of_getElem? (i := 29) rfl)) (args := #[]))) (mvT hZ (hw _ (List.mem_of_getElem? (i := 30) rfl))) (by decide) (backOf (W := 0) (rm_check l Z a0 hw [] a1 p2 w_end_a1 w_position_a1 h0 n0 Z0 F_end_a1 F_position_a1 hp0 hp1) hZ (hw _ (List.mem_of_getElem? (i := 30) rfl)) (hw _ (List.mem_of_getElem? (i := 4) rfl)) (by decide) (by decide)) (g := (mkF m 2 #[.val (.ref a1), .val (.int p2)] [(.int p2), (.ref a1)])) rfl (by rw [hml]; rfl) (Steps.refl _) (a := a1) (by rw [e0]; exact q1) q1' (argsL := [(.int p2)]) (rest := []) (lenOf pd_0 rfl) rfl (by show 2 * 0 + _ ≤ _; exact Nat.le_of_eq rfl) (hb hby d4_2) (fun _ _ => ⟨rfl, e0, (by decide : 0 + 0 ≤ _), (by decide : 0 + 0 ≤ _)⟩)
  dsimp only [Pt.U, Pt.locs, Pt.cells, Pt.slots] at X1 l1 y1 z1 st1 hQ1
  subst l1 y1 z1
  obtain ⟨rfl, Nq1, e1⟩ := hQ1
  have N2 := Fr.app N0 Nq1
  obtain ⟨T3, X3, e3, st3⟩ := getF X1 hx hZ hown (host := "") (Or.inl (hw _ (List.mem_of_getElem? (i := 13) rfl))) Via.refl e1 F_position_a1 (g := (mkF m 7 #[.val (.ref a1), .val (.int p2)] [(.ref a1), (.ref a1)])) rfl rfl (hb hby d4_7)
  obtain ⟨T4, h4, X4, e4, W4, st4⟩ := putF X3 hx hZ hown (host := "") (Or.inl (hw _ (List.mem_of_getElem? (i := 13) rfl))) Via.refl e3 F_position_a1 E_a1 (Or.inl (hw _ (List.mem_of_getElem? (i := 14) rfl))) (hw _ (List.mem_of_getElem? (i := 3) rfl)) (ty := .int) (by decide) rfl rfl (g := (mkF m 12 #[.val (.ref a1), .val (.int p2)] [(.int (w_position_a1 + p2)), (.ref a1)])) rfl rfl (hb hby d4_12)
  have f5 : Fld Z h4 a1 "com/example/fieldstone/fieldstone/core/ByteReader" "end" "I" (.int w_end_a1) := F_end_a1.other W4 (Or.inr (slot_ne (Or.inr (hw _ (List.mem_of_getElem? (i := 16) rfl))) (Or.inl (hw _ (List.mem_of_getElem? (i := 14) rfl))) (by decide) (t := .int) (t' := .int) (by decide) (by decide)))
  have f6 : Fld Z h4 a1 "com/example/fieldstone/fieldstone/core/ByteReader" "position" "I" (.int (w_position_a1 + p2)) := F_position_a1.same W4
  have f7 : Exa Z h4 a1 "com/example/fieldstone/fieldstone/core/ByteReader" := E_a1.wr W4
  have f8 : Fld Z h4 a1 "com/example/fieldstone/fieldstone/core/ByteReader" "bytes" "[B" (.ref w_bytes_a1) := F_bytes_a1.other W4 (Or.inr (slot_ne (Or.inr (hw _ (List.mem_of_getElem? (i := 12) rfl))) (Or.inl (hw _ (List.mem_of_getElem? (i := 14) rfl))) (by decide) (t := (.array .byte)) (t' := .int) (by decide) (by decide)))
  have K9 : Keep h0 h4 [a1] := (Keep.refl h0 [a1]).wr W4 (Or.inl (List.mem_of_getElem? (i := 0) rfl))
  have N10 := Fr.snoc X4 N2 g_a1
  have Zs11 : n0 ≤ h4.size := Nat.le_trans Z0 (Keep.of_wr W4).1
  obtain ⟨fs, hr, hrun, hended, hW, hsame⟩ := X4.leave (v := none) (fun _ => rfl)
  refine ⟨_, _, pre0 _ ?_, hrun, hended, _, _, rfl, ?_, ⟨_, rfl⟩, hW, hsame.mono (by decide) (by decide)⟩
  · show Steps p.tables e below (s₁.setTop (mkF m 0 #[.val (.ref a1), .val (.int p2)] [])) _
    refine XS.aloadN X0.here hx rfl (hb hby d4_0) rfl rfl ?_
    show Steps p.tables e below (s₁.setTop (mkF m 1 #[.val (.ref a1), .val (.int p2)] [(.ref a1)])) _
    refine XS.iloadN X0.here hx rfl (hb hby d4_1) rfl ?_
    show Steps p.tables e below (s₁.setTop (mkF m 2 #[.val (.ref a1), .val (.int p2)] [(.int p2), (.ref a1)])) _
    refine st1.trans ?_
    show Steps p.tables e below (T1.setTop (mkF m 5 #[.val (.ref a1), .val (.int p2)] [])) _
    refine XS.aloadN X1.here hx rfl (hb hby d4_5) rfl rfl ?_
    show Steps p.tables e below (T1.setTop (mkF m 6 #[.val (.ref a1), .val (.int p2)] [(.ref a1)])) _
    refine XS.dup X1.here hx rfl (hb hby d4_6) rfl rfl ?_
    show Steps p.tables e below (T1.setTop (mkF m 7 #[.val (.ref a1), .val (.int p2)] [(.ref a1), (.ref a1)])) _
    refine st3 _ ?_
    show Steps p.tables e below (T3.setTop (mkF m 10 #[.val (.ref a1), .val (.int p2)] [(.int w_position_a1), (.ref a1)])) _
    refine XS.iloadN X3.here hx rfl (hb hby d4_10) rfl ?_
    show Steps p.tables e below (T3.setTop (mkF m 11 #[.val (.ref a1), .val (.int p2)] [(.int p2), (.int w_position_a1), (.ref a1)])) _
    refine XS.iadd X3.here hx rfl (hb hby d4_11) rfl ?_
    show Steps p.tables e below (T3.setTop (mkF m 12 #[.val (.ref a1), .val (.int p2)] [(.int (w_position_a1 + p2)), (.ref a1)])) _
    refine st4 _ ?_
    show Steps p.tables e below (T4.setTop (mkF m 15 #[.val (.ref a1), .val (.int p2)] [])) _
    exact X4.returnOut hx Bd.returns (hb hby d4_15) hr
  · show Q_skip Z a1 p2 w_end_a1 w_position_a1 w_bytes_a1 h0 n0 _ T4.heap _
    rw [e4]
    exact ⟨rfl, N10, K9, f5, f6, f7, f8⟩
theorem d6_0 : decode prog_42_method_6_code 0 = .ok (.aload_n 0, 1) := by decide +kernel
theorem d6_1 : decode prog_42_method_6_code 1 = .ok (.getfield 16, 3) := by decide +kernel
theorem d6_4 : decode prog_42_method_6_code 4 = .ok (.aload_n 0, 1) := by decide +kernel
theorem d6_5 : decode prog_42_method_6_code 5 = .ok (.getfield 20, 3) := by decide +kernel
theorem d6_8 : decode prog_42_method_6_code 8 = .ok (.if_icmp .lt 20, 3) := by decide +kernel
theorem d6_28 : decode prog_42_method_6_code 28 = .ok (.aload_n 0, 1) := by decide +kernel
theorem d6_29 : decode prog_42_method_6_code 29 = .ok (.getfield 12, 3) := by decide +kernel
theorem d6_32 : decode prog_42_method_6_code 32 = .ok (.aload_n 0, 1) := by decide +kernel
theorem d6_33 : decode prog_42_method_6_code 33 = .ok (.dup, 1) := by decide +kernel
theorem d6_34 : decode prog_42_method_6_code 34 = .ok (.getfield 16, 3) := by decide +kernel
theorem d6_37 : decode prog_42_method_6_code 37 = .ok (.dup_x1, 1) := by decide +kernel
theorem d6_38 : decode prog_42_method_6_code 38 = .ok (.iconst 1, 1) := by decide +kernel
theorem d6_39 : decode prog_42_method_6_code 39 = .ok (.iadd, 1) := by decide +kernel
theorem d6_40 : decode prog_42_method_6_code 40 = .ok (.putfield 16, 3) := by decide +kernel
theorem d6_43 : decode prog_42_method_6_code 43 = .ok (.baload, 1) := by decide +kernel
theorem d6_44 : decode prog_42_method_6_code 44 = .ok (.ireturn, 1) := by decide +kernel
theorem ef_6_R (m : MethodId) (x0 : Addr) : entryFrame m #[(.ref x0)] 1 = mkF m 0 #[.val (.ref x0)] [] := by first | (simp [entryFrame, mkF, argsToLocals, Value.category]; done) | rfl
def Q_get (Z : State) (a1 : Addr) (w_position_a1 : Int32) (w_end_a1 : Int32) (w_bytes_a1 : Addr) (k_w_bytes_a1 : ClassId) (n_w_bytes_a1 : Int32) (vs_w_bytes_a1 : List Value) (h0 : Heap) (n0 : Nat) (v : Option Value) (h : Heap) (L : List Loc) : Prop := v = some (.int ((own_at vs_w_bytes_a1 (w_position_a1).toNatClampNeg (.int (0 : Int32))).toInt8.toInt32)) ∧ Fr n0 L ∧ Keep h0 h [a1] ∧ Fld Z h a1 "com/example/fieldstone/fieldstone/core/ByteReader" "position" "I" (.int (w_position_a1 + (1 : Int32))) ∧ Fld Z h a1 "com/example/fieldstone/fieldstone/core/ByteReader" "end" "I" (.int w_end_a1) ∧ Fld Z h a1 "com/example/fieldstone/fieldstone/core/ByteReader" "bytes" "[B" (.ref w_bytes_a1) ∧ Exa Z h a1 "com/example/fieldstone/fieldstone/core/ByteReader"
set_option maxRecDepth 65536 in
set_option maxHeartbeats 40000000 in
theorem rm_get (l : Launch) (Z : State) (a0 : Array Value) (hw : ∀ d ∈ tables_1, d.before a0 Z = true) (ws : List Jvm.Cond) (a1 : Addr) (w_position_a1 : Int32) (w_end_a1 : Int32) (w_bytes_a1 : Addr) (k_w_bytes_a1 : ClassId) (n_w_bytes_a1 : Int32) (vs_w_bytes_a1 : List Value) (h0 : Heap) (n0 : Nat) (Z0 : n0 ≤ h0.size) (F_position_a1 : Fld Z h0 a1 "com/example/fieldstone/fieldstone/core/ByteReader" "position" "I" (.int w_position_a1)) (F_end_a1 : Fld Z h0 a1 "com/example/fieldstone/fieldstone/core/ByteReader" "end" "I" (.int w_end_a1)) (F_bytes_a1 : Fld Z h0 a1 "com/example/fieldstone/fieldstone/core/ByteReader" "bytes" "[B" (.ref w_bytes_a1)) (E_a1 : Exa Z h0 a1 "com/example/fieldstone/fieldstone/core/ByteReader") (g_a1 : n0 ≤ a1) (V_w_bytes_a1 : Arv Z h0 w_bytes_a1 k_w_bytes_a1 .byte n_w_bytes_a1 vs_w_bytes_a1 (.int (0 : Int32))) (ne_w_bytes_a1_a1 : w_bytes_a1 ≠ a1) (hp0 : ¬ (w_position_a1 < (0 : Int32))) (hp1 : w_position_a1 < n_w_bytes_a1) (hc0 : w_position_a1 < w_end_a1) :
    MetFree l (⟨"com/example/fieldstone/fieldstone/core/ByteReader", "get", "()B"⟩ : MethodName) (head1 (Jvm.Cond.code (⟨"com/example/fieldstone/fieldstone/core/ByteReader", "get", "()B"⟩ : MethodName) prog_42_method_6_code 1 (some .byte) :: ws) ({ frames := 0, cells := 0, slots := 0, locals := 0 } : Room)) (fun a U => a = #[(.ref a1)] ∧ Z.Warmed39 U.vm ∧ U.heap = h0) (fun _ _ _ _ _ => True) (fun _ U o U' => ∃ v L, o = .returned v ∧ Q_get Z a1 w_position_a1 w_end_a1 w_bytes_a1 k_w_bytes_a1 n_w_bytes_a1 vs_w_bytes_a1 h0 n0 v U'.heap L ∧ FrameEnd U o U' L ({ frames := 0, cells := 0, slots := 0, locals := 0 } : Room).cells ({ frames := 0, cells := 0, slots := 0, locals := 0 } : Room).slots) := by
  refine MetFree.of_bodySF (plainFor_of_name pn_com_example_fieldstone_fieldstone_core_ByteReader) hisR ?_
  intro p e s m args below meth c s₁ Bd hml0 hP hK
  obtain ⟨rfl, hZ, hh⟩ := hP
  have hx := Bd.exec
  have hby := Bd.bytes
  have hml : c.maxLocals = 1 := hml0
  have hown : s.vm.findClass "com/example/fieldstone/fieldstone/core/ByteReader" = some m.cls := findClass_of_methodNamed Bd.named
  have hnm := (name_of_methodNamed Bd.named Bd.method).1
  have X0 : Stand p l e ({ frames := 0, cells := 0, slots := 0, locals := 0 } : Room) s m #[(.ref a1)] below meth c s₁ [] 0 0 := Stand.of_body Bd
  have e0 : s₁.heap = h0 := by rw [← hh, Bd.state]; rfl
  have N0 := Fr.nil n0
  have pre0 : ∀ t, Steps p.tables e below (s₁.setTop (mkF m 0 #[.val (.ref a1)] [])) t → Steps p.tables e below (s₁.setTop (entryFrame m #[(.ref a1)] 1)) t := fun t k => castTop (ef_6_R m a1) k
  obtain ⟨T1, X1, e1, st1⟩ := getF X0 hx hZ hown (host := "") (Or.inl (hw _ (List.mem_of_getElem? (i := 13) rfl))) Via.refl e0 F_position_a1 (g := (mkF m 1 #[.val (.ref a1)] [(.ref a1)])) rfl rfl (hb hby d6_1)
  obtain ⟨T2, X2, e2, st2⟩ := getF X1 hx hZ hown (host := "") (Or.inl (hw _ (List.mem_of_getElem? (i := 15) rfl))) Via.refl e1 F_end_a1 (g := (mkF m 5 #[.val (.ref a1)] [(.ref a1), (.int w_position_a1)])) rfl rfl (hb hby d6_5)
  obtain ⟨T3, X3, e3, st3⟩ := getF X2 hx hZ hown (host := "") (Or.inl (hw _ (List.mem_of_getElem? (i := 11) rfl))) Via.refl e2 F_bytes_a1 (g := (mkF m 29 #[.val (.ref a1)] [(.ref a1)])) rfl rfl (hb hby d6_29)
  obtain ⟨T4, X4, e4, st4⟩ := getF X3 hx hZ hown (host := "") (Or.inl (hw _ (List.mem_of_getElem? (i := 13) rfl))) Via.refl e3 F_position_a1 (g := (mkF m 34 #[.val (.ref a1)] [(.ref a1), (.ref a1), (.ref w_bytes_a1)])) rfl rfl (hb hby d6_34)
  obtain ⟨T5, h5, X5, e5, W5, st5⟩ := putF X4 hx hZ hown (host := "") (Or.inl (hw _ (List.mem_of_getElem? (i := 13) rfl))) Via.refl e4 F_position_a1 E_a1 (Or.inl (hw _ (List.mem_of_getElem? (i := 14) rfl))) (hw _ (List.mem_of_getElem? (i := 3) rfl)) (ty := .int) (by decide) rfl rfl (g := (mkF m 40 #[.val (.ref a1)] [(.int (w_position_a1 + (1 : Int32))), (.ref a1), (.int w_position_a1), (.ref w_bytes_a1)])) rfl rfl (hb hby d6_40)
  have f6 : Fld Z h5 a1 "com/example/fieldstone/fieldstone/core/ByteReader" "position" "I" (.int (w_position_a1 + (1 : Int32))) := F_position_a1.same W5
  have f7 : Fld Z h5 a1 "com/example/fieldstone/fieldstone/core/ByteReader" "end" "I" (.int w_end_a1) := F_end_a1.other W5 (Or.inr (slot_ne (Or.inr (hw _ (List.mem_of_getElem? (i := 16) rfl))) (Or.inl (hw _ (List.mem_of_getElem? (i := 14) rfl))) (by decide) (t := .int) (t' := .int) (by decide) (by decide)))
  have f8 : Fld Z h5 a1 "com/example/fieldstone/fieldstone/core/ByteReader" "bytes" "[B" (.ref w_bytes_a1) := F_bytes_a1.other W5 (Or.inr (slot_ne (Or.inr (hw _ (List.mem_of_getElem? (i := 12) rfl))) (Or.inl (hw _ (List.mem_of_getElem? (i := 14) rfl))) (by decide) (t := (.array .byte)) (t' := .int) (by decide) (by decide)))
  have f9 : Exa Z h5 a1 "com/example/fieldstone/fieldstone/core/ByteReader" := E_a1.wr W5
  have f10 : Arv Z h5 w_bytes_a1 k_w_bytes_a1 .byte n_w_bytes_a1 vs_w_bytes_a1 (.int (0 : Int32)) := V_w_bytes_a1.other W5 ne_w_bytes_a1_a1
  have K11 : Keep h0 h5 [a1] := (Keep.refl h0 [a1]).wr W5 (Or.inl (List.mem_of_getElem? (i := 0) rfl))
  have N12 := Fr.snoc X5 N0 g_a1
  have Zs13 : n0 ≤ h5.size := Nat.le_trans Z0 (Keep.of_wr W5).1
  obtain ⟨clo14, Aro14, qo14, So14, No14, Ho14, Go14⟩ := f10
  have hino14 : ¬ (w_position_a1 < 0 ∨ clo14.slots.size ≤ (w_position_a1).toNatClampNeg) := inb_of So14 ⟨hp0, hp1⟩
  obtain ⟨fs, hr, hrun, hended, hW, hsame⟩ := X5.leave (v := some (.int ((own_at vs_w_bytes_a1 (w_position_a1).toNatClampNeg (.int (0 : Int32))).toInt8.toInt32))) (fun h => by rw [Bd.returns] at h; cases h)
  refine ⟨_, _, pre0 _ ?_, hrun, hended, _, _, rfl, ?_, ⟨_, rfl⟩, hW, hsame.mono (by decide) (by decide)⟩
  · show Steps p.tables e below (s₁.setTop (mkF m 0 #[.val (.ref a1)] [])) _
    refine XS.aloadN X0.here hx rfl (hb hby d6_0) rfl rfl ?_
    show Steps p.tables e below (s₁.setTop (mkF m 1 #[.val (.ref a1)] [(.ref a1)])) _
    refine st1 _ ?_
    show Steps p.tables e below (T1.setTop (mkF m 4 #[.val (.ref a1)] [(.int w_position_a1)])) _
    refine XS.aloadN X1.here hx rfl (hb hby d6_4) rfl rfl ?_
    show Steps p.tables e below (T1.setTop (mkF m 5 #[.val (.ref a1)] [(.ref a1), (.int w_position_a1)])) _
    refine st2 _ ?_
    show Steps p.tables e below (T2.setTop (mkF m 8 #[.val (.ref a1)] [(.int w_end_a1), (.int w_position_a1)])) _
    refine XS.icmpYes X2.here hx rfl (pc0 := 8) (pc' := 28) rfl (hb hby d6_8) rfl (tlt hc0).1 (by decide) (by decide) ?_
    show Steps p.tables e below (T2.setTop (mkF m 28 #[.val (.ref a1)] [])) _
    refine XS.aloadN X2.here hx rfl (hb hby d6_28) rfl rfl ?_
    show Steps p.tables e below (T2.setTop (mkF m 29 #[.val (.ref a1)] [(.ref a1)])) _
    refine st3 _ ?_
    show Steps p.tables e below (T3.setTop (mkF m 32 #[.val (.ref a1)] [(.ref w_bytes_a1)])) _
    refine XS.aloadN X3.here hx rfl (hb hby d6_32) rfl rfl ?_
    show Steps p.tables e below (T3.setTop (mkF m 33 #[.val (.ref a1)] [(.ref a1), (.ref w_bytes_a1)])) _
    refine XS.dup X3.here hx rfl (hb hby d6_33) rfl rfl ?_
    show Steps p.tables e below (T3.setTop (mkF m 34 #[.val (.ref a1)] [(.ref a1), (.ref a1), (.ref w_bytes_a1)])) _
    refine st4 _ ?_
    show Steps p.tables e below (T4.setTop (mkF m 37 #[.val (.ref a1)] [(.int w_position_a1), (.ref a1), (.ref w_bytes_a1)])) _
    refine XS.dupX1 X4.here hx rfl (hb hby d6_37) rfl rfl rfl ?_
    show Steps p.tables e below (T4.setTop (mkF m 38 #[.val (.ref a1)] [(.int w_position_a1), (.ref a1), (.int w_position_a1), (.ref w_bytes_a1)])) _
    refine XS.iconst X4.here hx rfl (hb hby d6_38) ?_
    show Steps p.tables e below (T4.setTop (mkF m 39 #[.val (.ref a1)] [(.int (1 : Int32)), (.int w_position_a1), (.ref a1), (.int w_position_a1), (.ref w_bytes_a1)])) _
    refine XS.iadd X4.here hx rfl (hb hby d6_39) rfl ?_
    show Steps p.tables e below (T4.setTop (mkF m 40 #[.val (.ref a1)] [(.int (w_position_a1 + (1 : Int32))), (.ref a1), (.int w_position_a1), (.ref w_bytes_a1)])) _
    refine st5 _ ?_
    show Steps p.tables e below (T5.setTop (mkF m 43 #[.val (.ref a1)] [(.int w_position_a1), (.ref w_bytes_a1)])) _
    refine X5.baloadBytes hx (j := w_position_a1) (v := (.int (own_at vs_w_bytes_a1 (w_position_a1).toNatClampNeg (.int (0 : Int32))))) (by rw [e5]; exact Aro14.1) (State.isArrayOf_alike hZ.alike Aro14.2.1) Aro14.2.2 hino14 (Ho14.at hino14 (own_at_eq (Go14 _ (Nat.lt_of_not_le fun y => hino14 (Or.inr y))) (by simp))) (g := (mkF m 43 #[.val (.ref a1)] [(.int w_position_a1), (.ref w_bytes_a1)])) rfl rfl (hb hby d6_43) _ ?_
    show Steps p.tables e below (T5.setTop (mkF m 44 #[.val (.ref a1)] [(.int (own_at vs_w_bytes_a1 (w_position_a1).toNatClampNeg (.int (0 : Int32))))])) _
    exact retN X5 hx (t := .byte) Bd.returns (by simp) (hb hby d6_44) hr
  · show Q_get Z a1 w_position_a1 w_end_a1 w_bytes_a1 k_w_bytes_a1 n_w_bytes_a1 vs_w_bytes_a1 h0 n0 _ T5.heap _
    rw [e5]
    exact ⟨rfl, N12, K11, f6, f7, f8, f9⟩
def own_from (p1 : Int32) : Int32 := ((p1 &&& (2147483647 : Int32)) % (17 : Int32))
def own_to (p1 : Int32) (p2 : Int32) : Int32 := ((own_from p1) + ((p2 &&& (2147483647 : Int32)) % ((17 : Int32) - (own_from p1))))
def own_len (p1 : Int32) (p2 : Int32) : Int32 := ((own_to p1 p2) - (own_from p1))
theorem pd_1 : parseMethodDescriptor "([BII)V" = some ⟨[(.array .byte), .int, .int], none⟩ := by decide +kernel
theorem pd_2 : parseMethodDescriptor "()Z" = some ⟨[], some .boolean⟩ := by decide +kernel
def own_k (p1 : Int32) (p2 : Int32) (p3 : Int32) : Int32 := ((p3 &&& (2147483647 : Int32)) % ((own_len p1 p2) + (1 : Int32)))
theorem pd_3 : parseMethodDescriptor "()B" = some ⟨[], some .byte⟩ := by decide +kernel
theorem pn_com_example_fieldstone_fieldstone_core_ByteReaderHasRemainingPinLaw : plainName "com/example/fieldstone/fieldstone/core/ByteReaderHasRemainingPinLaw" = true := by first | (simp [plainName, overriddenIn]; done) | decide +kernel
theorem ef_0_III (m : MethodId) (x0 : Int32) (x1 : Int32) (x2 : Int32) : entryFrame m #[(.int x0), (.int x1), (.int x2)] maxLocals = mkF m 0 #[.val (.int x0), .val (.int x1), .val (.int x2), .unset, .unset, .unset, .unset, .unset, .unset, .unset] [] := by first | (simp [entryFrame, mkF, argsToLocals, Value.category, maxLocals]; done) | rfl
def Q_law (Z : State) (p1 : Int32) (p2 : Int32) (p3 : Int32) (h0 : Heap) (n0 : Nat) (v : Option Value) (h : Heap) (L : List Loc) : Prop := v = some (.int (1 : Int32)) ∧ Fr n0 L
def Road_tftft (p1 : Int32) (p2 : Int32) (p3 : Int32) : Prop := (¬ (((17 : Int32) - (own_from p1)) = (0 : Int32))) ∧ (¬ (((own_len p1 p2) + (1 : Int32)) = (0 : Int32))) ∧ (¬ ((own_k p1 p2 p3) < (0 : Int32))) ∧ (¬ (((own_to p1 p2) - (own_from p1)) < (own_k p1 p2 p3))) ∧ (¬ ((0 : Int32) < (own_len p1 p2))) ∧ ((f_has (own_from p1) (own_to p1 p2)) = (0 : Int32)) ∧ (¬ ((own_k p1 p2 p3) < (own_len p1 p2))) ∧ ((f_has ((own_from p1) + (own_k p1 p2 p3)) (own_to p1 p2)) = (0 : Int32))
set_option maxRecDepth 65536 in
set_option maxHeartbeats 40000000 in
theorem rm_law_tftft (l : Launch) (Z : State) (a0 : Array Value) (hw : ∀ d ∈ tables_1, d.before a0 Z = true) (ws : List Jvm.Cond) (p1 : Int32) (p2 : Int32) (p3 : Int32) (h0 : Heap) (n0 : Nat) (Z0 : n0 ≤ h0.size) (hroad : Road_tftft p1 p2 p3) :
    MetFree l x (head1 (Jvm.Cond.code x code maxLocals ret :: ws) room_1) (fun a U => a = #[(.int p1), (.int p2), (.int p3)] ∧ Z.Warmed39 U.vm ∧ U.heap = h0) (fun _ _ _ _ _ => True) (fun _ U o U' => ∃ v L, o = .returned v ∧ Q_law Z p1 p2 p3 h0 n0 v U'.heap L ∧ FrameEnd U o U' L room_1.cells room_1.slots) := by
  obtain ⟨hnz0, hnz1, hp2, hp3, hc0, hc1, hc2, hc3⟩ := hroad
  refine MetFree.of_bodySF (plainFor_of_name pn_com_example_fieldstone_fieldstone_core_ByteReaderHasRemainingPinLaw) hisR ?_
  intro p e s m args below meth c s₁ Bd hml0 hP hK
  obtain ⟨rfl, hZ, hh⟩ := hP
  have hx := Bd.exec
  have hby := Bd.bytes
  have hml : c.maxLocals = 10 := hml0
  have hown : s.vm.findClass "com/example/fieldstone/fieldstone/core/ByteReaderHasRemainingPinLaw" = some m.cls := findClass_of_methodNamed Bd.named
  have hnm := (name_of_methodNamed Bd.named Bd.method).1
  have X0 : Stand p l e room_1 s m #[(.int p1), (.int p2), (.int p3)] below meth c s₁ [] 0 0 := Stand.of_body Bd
  have e0 : s₁.heap = h0 := by rw [← hh, Bd.state]; rfl
  have N0 := Fr.nil n0
  have pre0 : ∀ t, Steps p.tables e below (s₁.setTop (mkF m 0 #[.val (.int p1), .val (.int p2), .val (.int p3), .unset, .unset, .unset, .unset, .unset, .unset, .unset] [])) t → Steps p.tables e below (s₁.setTop (entryFrame m #[(.int p1), (.int p2), (.int p3)] maxLocals)) t := fun t k => castTop (ef_0_III m p1 p2 p3) k
  obtain ⟨T1, h1, k1, X1, e1, E1, A1, Ex1, st1⟩ := newPE X0 hx hZ (hw _ (List.mem_of_getElem? (i := 0) rfl)) e0 (g := (mkF m 2 #[.val (.int p1), .val (.int p2), .val (.int p3), .unset, .unset, .unset, .unset, .unset, .unset, .unset] [(.int (16 : Int32))])) rfl (hb hby at_2) rfl (by decide) (cap := 16) (by decide) (by decide) (by decide) (by decide) (ad := "[B") (by decide)
  obtain ⟨b1, g1⟩ : ∃ z, z = h0.size := ⟨_, rfl⟩
  rw [← g1] at A1 Ex1 st1
  have g_b1 : n0 ≤ b1 := Nat.le_trans Z0 (Nat.le_of_eq g1.symm)
  have Zs2 : n0 ≤ h1.size := Nat.le_trans Z0 E1.1
  have f3 : Arv Z h1 b1 k1 .byte (16 : Int32) [(.int (0 : Int32)), (.int (0 : Int32)), (.int (0 : Int32)), (.int (0 : Int32)), (.int (0 : Int32)), (.int (0 : Int32)), (.int (0 : Int32)), (.int (0 : Int32)), (.int (0 : Int32)), (.int (0 : Int32)), (.int (0 : Int32)), (.int (0 : Int32)), (.int (0 : Int32)), (.int (0 : Int32)), (.int (0 : Int32)), (.int (0 : Int32))] (.int (0 : Int32)) := (Arv.new A1 (by decide)).pad (pad_rep [] (.int (0 : Int32)) 16)
  obtain ⟨T4, h4, X4, e4, E4, A4, D4, -, st4⟩ := newO X1 hx hZ hown (hw _ (List.mem_of_getElem? (i := 2) rfl)) (hw _ (List.mem_of_getElem? (i := 3) rfl)) (hw _ (List.mem_of_getElem? (i := 4) rfl)) e1 (g := (mkF m 36 #[.val (.int p1), .val (.int p2), .val (.int p3), .val (.ref b1), .val (.int (own_from p1)), .val (.int (own_to p1 p2)), .val (.int (own_len p1 p2)), .unset, .unset, .unset] [])) rfl (hb hby at_36) (by decide) (by decide)
  obtain ⟨b4, g4⟩ : ∃ z, z = h1.size := ⟨_, rfl⟩
  rw [← g4] at A4 D4 st4
  have g_b4 : n0 ≤ b4 := Nat.le_trans Zs2 (Nat.le_of_eq g4.symm)
  have ne_b1_b4 : b1 ≠ b4 := Nat.ne_of_lt (Nat.lt_of_lt_of_le Ex1.lt (Nat.le_of_eq g4.symm))
  have f5 : Exa Z h4 b1 "[B" := Ex1.ext E4
  have f6 : Arv Z h4 b1 k1 .byte (16 : Int32) [(.int (0 : Int32)), (.int (0 : Int32)), (.int (0 : Int32)), (.int (0 : Int32)), (.int (0 : Int32)), (.int (0 : Int32)), (.int (0 : Int32)), (.int (0 : Int32)), (.int (0 : Int32)), (.int (0 : Int32)), (.int (0 : Int32)), (.int (0 : Int32)), (.int (0 : Int32)), (.int (0 : Int32)), (.int (0 : Int32)), (.int (0 : Int32))] (.int (0 : Int32)) := f3.ext E4
  have Zs7 : n0 ≤ h4.size := Nat.le_trans Zs2 E4.1
  have f8 : Fld Z h4 b4 "com/example/fieldstone/fieldstone/core/ByteReader" "bytes" "[B" .null := D4 (Or.inr (hw _ (List.mem_of_getElem? (i := 12) rfl))) (ty := (.array .byte)) (by decide)
  have f9 : Fld Z h4 b4 "com/example/fieldstone/fieldstone/core/ByteReader" "position" "I" (.int (0 : Int32)) := D4 (Or.inl (hw _ (List.mem_of_getElem? (i := 14) rfl))) (ty := .int) (by decide)
  have f10 : Fld Z h4 b4 "com/example/fieldstone/fieldstone/core/ByteReader" "end" "I" (.int (0 : Int32)) := D4 (Or.inr (hw _ (List.mem_of_getElem? (i := 16) rfl))) (ty := .int) (by decide)
  obtain ⟨_, _, ⟨T11, L11, k11, n11⟩, -, X11, ⟨Lc11, hQ11, l11, y11, z11⟩, st11⟩ := X4.specialBack hx (y := (⟨"com/example/fieldstone/fieldstone/core/ByteReader", "<init>", "([BII)V"⟩ : MethodName)) rfl hown (mvT hZ (hw _ (List.mem_of_getElem? (i := 5) rfl))) (mvT hZ (hw _ (List.mem_of_getElem? (i := 6) rfl))) (mvT hZ (hw _ (List.mem_of_getElem? (i := 7) rfl))) (by decide) (backOf (W := 1) (rm_init l Z a0 hw [] b4 b1 (own_from p1) (own_to p1 p2) h4 n0 Zs7 A4 f8 g_b4 f9 f10) hZ (hw _ (List.mem_of_getElem? (i := 7) rfl)) (hw _ (List.mem_of_getElem? (i := 4) rfl)) (by decide) (by decide)) (g := (mkF m 45 #[.val (.int p1), .val (.int p2), .val (.int p3), .val (.ref b1), .val (.int (own_from p1)), .val (.int (own_to p1 p2)), .val (.int (own_len p1 p2)), .unset, .unset, .unset] [(.int (own_to p1 p2)), (.int (own_from p1)), (.ref b1), (.ref b4), (.ref b4)])) rfl (by rw [hml]; rfl) (Steps.refl _) (a := b4) (argsL := [(.ref b1), (.int (own_from p1)), (.int (own_to p1 p2))]) (rest := [(.ref b4)]) (lenOf pd_1 rfl) rfl (by show 2 * 0 + _ ≤ _; exact Nat.le_of_eq rfl) (hb hby at_45) (fun _ _ => ⟨rfl, e4, (by decide : 2 + 0 ≤ _), (by decide : 19 + 0 ≤ _)⟩)
  dsimp only [Pt.U, Pt.locs, Pt.cells, Pt.slots] at X11 l11 y11 z11 st11 hQ11
  subst l11 y11 z11
  obtain ⟨rfl, Nq11, Kc11, fq11_0, fq11_1, fq11_2, fq11_3⟩ := hQ11
  have f13 : Exa Z T11.heap b1 "[B" := f5.keep Kc11
  have f14 : Arv Z T11.heap b1 k1 .byte (16 : Int32) [(.int (0 : Int32)), (.int (0 : Int32)), (.int (0 : Int32)), (.int (0 : Int32)), (.int (0 : Int32)), (.int (0 : Int32)), (.int (0 : Int32)), (.int (0 : Int32)), (.int (0 : Int32)), (.int (0 : Int32)), (.int (0 : Int32)), (.int (0 : Int32)), (.int (0 : Int32)), (.int (0 : Int32)), (.int (0 : Int32)), (.int (0 : Int32))] (.int (0 : Int32)) := f6.keep Kc11 (ninS ne_b1_b4 nin0)
  have f15 : Fld Z T11.heap b4 "com/example/fieldstone/fieldstone/core/ByteReader" "bytes" "[B" (.ref b1) := fq11_1
  have f16 : Fld Z T11.heap b4 "com/example/fieldstone/fieldstone/core/ByteReader" "position" "I" (.int (own_from p1)) := fq11_2
  have f17 : Fld Z T11.heap b4 "com/example/fieldstone/fieldstone/core/ByteReader" "end" "I" (.int (own_to p1 p2)) := fq11_3
  have Zs18 : n0 ≤ T11.heap.size := Nat.le_trans Zs7 Kc11.1
  have N12 := Fr.app N0 Nq11
  obtain ⟨cq19, kq19, q19a, q19b, q19c⟩ := isOf hZ rfl fq11_0
  obtain ⟨_, _, ⟨T19, L19, k19, n19⟩, -, X19, ⟨Lc19, hQ19, l19, y19, z19⟩, st19⟩ := X11.virtualBack hx (y := (⟨"com/example/fieldstone/fieldstone/core/ByteReader", "hasRemaining", "()Z"⟩ : MethodName)) (z := (⟨"com/example/fieldstone/fieldstone/core/ByteReader", "hasRemaining", "()Z"⟩ : MethodName)) hown (mvT hZ (hw _ (List.mem_of_getElem? (i := 17) rfl))) (mvT hZ (hw _ (List.mem_of_getElem? (i := 18) rfl))) (notFace_of_selects (args := #[]) (mvT hZ (hw _ (List.mem_of_getElem? (i := 20) rfl)))) (mvT hZ (hw _ (List.mem_of_getElem? (i := 20) rfl))) (mvT hZ (hw _ (List.mem_of_getElem? (i := 19) rfl))) (by decide) (backOf (W := 0) (rm_has l Z a0 hw [] b4 (own_from p1) (own_to p1 p2) T11.heap n0 Zs18 f16 f17) hZ (hw _ (List.mem_of_getElem? (i := 21) rfl)) (hw _ (List.mem_of_getElem? (i := 4) rfl)) (by decide) (by decide)) q19a q19c (g := (mkF m 52 #[.val (.int p1), .val (.int p2), .val (.int p3), .val (.ref b1), .val (.int (own_from p1)), .val (.int (own_to p1 p2)), .val (.int (own_len p1 p2)), .val (.ref b4), .unset, .unset] [(.ref b4)])) rfl (by rw [hml]; rfl) (Steps.refl _) (argsL := []) (rest := []) (lenOf pd_2 rfl) rfl (by show 2 * 0 + _ ≤ _; exact Nat.le_of_eq rfl) (hb hby at_52) (fun _ _ => ⟨rfl, rfl, (by decide : 2 + 0 ≤ _), (by decide : 19 + 0 ≤ _)⟩)
  dsimp only [Pt.U, Pt.locs, Pt.cells, Pt.slots] at X19 l19 y19 z19 st19 hQ19
  subst l19 y19 z19
  obtain ⟨rfl, Nq19, e19⟩ := hQ19
  have N20 := Fr.app N12 Nq19
  obtain ⟨cq21, kq21, q21a, q21b, q21c⟩ := isOf hZ e19 fq11_0
  obtain ⟨_, _, ⟨T21, L21, k21, n21⟩, -, X21, ⟨Lc21, hQ21, l21, y21, z21⟩, st21⟩ := X19.virtualBack hx (y := (⟨"com/example/fieldstone/fieldstone/core/ByteReader", "skip", "(I)V"⟩ : MethodName)) (z := (⟨"com/example/fieldstone/fieldstone/core/ByteReader", "skip", "(I)V"⟩ : MethodName)) hown (mvT hZ (hw _ (List.mem_of_getElem? (i := 22) rfl))) (mvT hZ (hw _ (List.mem_of_getElem? (i := 23) rfl))) (notFace_of_selects (args := #[]) (mvT hZ (hw _ (List.mem_of_getElem? (i := 25) rfl)))) (mvT hZ (hw _ (List.mem_of_getElem? (i := 25) rfl))) (mvT hZ (hw _ (List.mem_of_getElem? (i := 24) rfl))) (by decide) (backOf (W := 0) (rm_skip l Z a0 hw [] b4 (own_k p1 p2 p3) (own_to p1 p2) (own_from p1) b1 T11.heap n0 Zs18 f17 f16 fq11_0 g_b4 f15 hp2 hp3) hZ (hw _ (List.mem_of_getElem? (i := 26) rfl)) (hw _ (List.mem_of_getElem? (i := 4) rfl)) (by decide) (by decide)) q21a q21c (g := (mkF m 90 #[.val (.int p1), .val (.int p2), .val (.int p3), .val (.ref b1), .val (.int (own_from p1)), .val (.int (own_to p1 p2)), .val (.int (own_len p1 p2)), .val (.ref b4), .val (.int (1 : Int32)), .val (.int (own_k p1 p2 p3))] [(.int (own_k p1 p2 p3)), (.ref b4)])) rfl (by rw [hml]; rfl) (Steps.refl _) (argsL := [(.int (own_k p1 p2 p3))]) (rest := []) (lenOf pd_0 rfl) rfl (by show 2 * 0 + _ ≤ _; exact Nat.le_of_eq rfl) (hb hby at_90) (fun _ _ => ⟨rfl, e19, (by decide : 2 + 0 ≤ _), (by decide : 19 + 0 ≤ _)⟩)
  dsimp only [Pt.U, Pt.locs, Pt.cells, Pt.slots] at X21 l21 y21 z21 st21 hQ21
  subst l21 y21 z21
  obtain ⟨rfl, Nq21, Kc21, fq21_0, fq21_1, fq21_2, fq21_3⟩ := hQ21
  have f23 : Exa Z T21.heap b1 "[B" := f13.keep Kc21
  have f24 : Arv Z T21.heap b1 k1 .byte (16 : Int32) [(.int (0 : Int32)), (.int (0 : Int32)), (.int (0 : Int32)), (.int (0 : Int32)), (.int (0 : Int32)), (.int (0 : Int32)), (.int (0 : Int32)), (.int (0 : Int32)), (.int (0 : Int32)), (.int (0 : Int32)), (.int (0 : Int32)), (.int (0 : Int32)), (.int (0 : Int32)), (.int (0 : Int32)), (.int (0 : Int32)), (.int (0 : Int32))] (.int (0 : Int32)) := f14.keep Kc21 (ninS ne_b1_b4 nin0)
  have f25 : Fld Z T21.heap b4 "com/example/fieldstone/fieldstone/core/ByteReader" "end" "I" (.int (own_to p1 p2)) := fq21_0
  have f26 : Fld Z T21.heap b4 "com/example/fieldstone/fieldstone/core/ByteReader" "position" "I" (.int ((own_from p1) + (own_k p1 p2 p3))) := fq21_1
  have f27 : Fld Z T21.heap b4 "com/example/fieldstone/fieldstone/core/ByteReader" "bytes" "[B" (.ref b1) := fq21_3
  have Zs28 : n0 ≤ T21.heap.size := Nat.le_trans Zs18 Kc21.1
  have N22 := Fr.app N20 Nq21
  obtain ⟨cq29, kq29, q29a, q29b, q29c⟩ := isOf hZ rfl fq21_2
  obtain ⟨_, _, ⟨T29, L29, k29, n29⟩, -, X29, ⟨Lc29, hQ29, l29, y29, z29⟩, st29⟩ := X21.virtualBack hx (y := (⟨"com/example/fieldstone/fieldstone/core/ByteReader", "hasRemaining", "()Z"⟩ : MethodName)) (z := (⟨"com/example/fieldstone/fieldstone/core/ByteReader", "hasRemaining", "()Z"⟩ : MethodName)) hown (mvT hZ (hw _ (List.mem_of_getElem? (i := 17) rfl))) (mvT hZ (hw _ (List.mem_of_getElem? (i := 18) rfl))) (notFace_of_selects (args := #[]) (mvT hZ (hw _ (List.mem_of_getElem? (i := 20) rfl)))) (mvT hZ (hw _ (List.mem_of_getElem? (i := 20) rfl))) (mvT hZ (hw _ (List.mem_of_getElem? (i := 19) rfl))) (by decide) (backOf (W := 0) (rm_has l Z a0 hw [] b4 ((own_from p1) + (own_k p1 p2 p3)) (own_to p1 p2) T21.heap n0 Zs28 f26 f25) hZ (hw _ (List.mem_of_getElem? (i := 21) rfl)) (hw _ (List.mem_of_getElem? (i := 4) rfl)) (by decide) (by decide)) q29a q29c (g := (mkF m 100 #[.val (.int p1), .val (.int p2), .val (.int p3), .val (.ref b1), .val (.int (own_from p1)), .val (.int (own_to p1 p2)), .val (.int (own_len p1 p2)), .val (.ref b4), .val (.int (1 : Int32)), .val (.int (own_k p1 p2 p3))] [(.ref b4)])) rfl (by rw [hml]; rfl) (Steps.refl _) (argsL := []) (rest := []) (lenOf pd_2 rfl) rfl (by show 2 * 0 + _ ≤ _; exact Nat.le_of_eq rfl) (hb hby at_100) (fun _ _ => ⟨rfl, rfl, (by decide : 2 + 0 ≤ _), (by decide : 19 + 0 ≤ _)⟩)
  dsimp only [Pt.U, Pt.locs, Pt.cells, Pt.slots] at X29 l29 y29 z29 st29 hQ29
  subst l29 y29 z29
  obtain ⟨rfl, Nq29, e29⟩ := hQ29
  have N30 := Fr.app N22 Nq29
  obtain ⟨fs, hr, hrun, hended, hW, hsame⟩ := X29.leave (v := some (.int (1 : Int32))) (fun h => by rw [Bd.returns] at h; cases h)
  refine ⟨_, _, pre0 _ ?_, hrun, hended, _, _, rfl, ?_, ⟨_, rfl⟩, hW, hsame.mono (by decide) (by decide)⟩
  · show Steps p.tables e below (s₁.setTop (mkF m 0 #[.val (.int p1), .val (.int p2), .val (.int p3), .unset, .unset, .unset, .unset, .unset, .unset, .unset] [])) _
    refine XS.bipush X0.here hx rfl (hb hby at_0) ?_
    show Steps p.tables e below (s₁.setTop (mkF m 2 #[.val (.int p1), .val (.int p2), .val (.int p3), .unset, .unset, .unset, .unset, .unset, .unset, .unset] [(.int (16 : Int32))])) _
    refine st1 _ ?_
    show Steps p.tables e below (T1.setTop (mkF m 4 #[.val (.int p1), .val (.int p2), .val (.int p3), .unset, .unset, .unset, .unset, .unset, .unset, .unset] [(.ref b1)])) _
    refine XS.astoreN X1.here hx rfl (hb hby at_4) rfl rfl (l' := #[.val (.int p1), .val (.int p2), .val (.int p3), .val (.ref b1), .unset, .unset, .unset, .unset, .unset, .unset]) rfl ?_
    show Steps p.tables e below (T1.setTop (mkF m 5 #[.val (.int p1), .val (.int p2), .val (.int p3), .val (.ref b1), .unset, .unset, .unset, .unset, .unset, .unset] [])) _
    refine XS.iloadN X1.here hx rfl (hb hby at_5) rfl ?_
    show Steps p.tables e below (T1.setTop (mkF m 6 #[.val (.int p1), .val (.int p2), .val (.int p3), .val (.ref b1), .unset, .unset, .unset, .unset, .unset, .unset] [(.int p1)])) _
    refine X1.ldcInt hx hown (mvT hZ (hw _ (List.mem_of_getElem? (i := 1) rfl))) (g := (mkF m 6 #[.val (.int p1), .val (.int p2), .val (.int p3), .val (.ref b1), .unset, .unset, .unset, .unset, .unset, .unset] [(.int p1)])) rfl (hb hby at_6) _ ?_
    show Steps p.tables e below (T1.setTop (mkF m 8 #[.val (.int p1), .val (.int p2), .val (.int p3), .val (.ref b1), .unset, .unset, .unset, .unset, .unset, .unset] [(.int (2147483647 : Int32)), (.int p1)])) _
    refine XS.iand X1.here hx rfl (hb hby at_8) rfl ?_
    show Steps p.tables e below (T1.setTop (mkF m 9 #[.val (.int p1), .val (.int p2), .val (.int p3), .val (.ref b1), .unset, .unset, .unset, .unset, .unset, .unset] [(.int (p1 &&& (2147483647 : Int32)))])) _
    refine XS.bipush X1.here hx rfl (hb hby at_9) ?_
    show Steps p.tables e below (T1.setTop (mkF m 11 #[.val (.int p1), .val (.int p2), .val (.int p3), .val (.ref b1), .unset, .unset, .unset, .unset, .unset, .unset] [(.int (17 : Int32)), (.int (p1 &&& (2147483647 : Int32)))])) _
    refine iremM X1 hx rfl (hb hby at_11) rfl (by decide) ?_
    show Steps p.tables e below (T1.setTop (mkF m 12 #[.val (.int p1), .val (.int p2), .val (.int p3), .val (.ref b1), .unset, .unset, .unset, .unset, .unset, .unset] [(.int ((p1 &&& (2147483647 : Int32)) % (17 : Int32)))])) _
    refine XS.istore X1.here hx rfl (hb hby at_12) rfl (l' := #[.val (.int p1), .val (.int p2), .val (.int p3), .val (.ref b1), .val (.int (own_from p1)), .unset, .unset, .unset, .unset, .unset]) rfl ?_
    show Steps p.tables e below (T1.setTop (mkF m 14 #[.val (.int p1), .val (.int p2), .val (.int p3), .val (.ref b1), .val (.int (own_from p1)), .unset, .unset, .unset, .unset, .unset] [])) _
    refine XS.iload X1.here hx rfl (hb hby at_14) rfl ?_
    show Steps p.tables e below (T1.setTop (mkF m 16 #[.val (.int p1), .val (.int p2), .val (.int p3), .val (.ref b1), .val (.int (own_from p1)), .unset, .unset, .unset, .unset, .unset] [(.int (own_from p1))])) _
    refine XS.iloadN X1.here hx rfl (hb hby at_16) rfl ?_
    show Steps p.tables e below (T1.setTop (mkF m 17 #[.val (.int p1), .val (.int p2), .val (.int p3), .val (.ref b1), .val (.int (own_from p1)), .unset, .unset, .unset, .unset, .unset] [(.int p2), (.int (own_from p1))])) _
    refine X1.ldcInt hx hown (mvT hZ (hw _ (List.mem_of_getElem? (i := 1) rfl))) (g := (mkF m 17 #[.val (.int p1), .val (.int p2), .val (.int p3), .val (.ref b1), .val (.int (own_from p1)), .unset, .unset, .unset, .unset, .unset] [(.int p2), (.int (own_from p1))])) rfl (hb hby at_17) _ ?_
    show Steps p.tables e below (T1.setTop (mkF m 19 #[.val (.int p1), .val (.int p2), .val (.int p3), .val (.ref b1), .val (.int (own_from p1)), .unset, .unset, .unset, .unset, .unset] [(.int (2147483647 : Int32)), (.int p2), (.int (own_from p1))])) _
    refine XS.iand X1.here hx rfl (hb hby at_19) rfl ?_
    show Steps p.tables e below (T1.setTop (mkF m 20 #[.val (.int p1), .val (.int p2), .val (.int p3), .val (.ref b1), .val (.int (own_from p1)), .unset, .unset, .unset, .unset, .unset] [(.int (p2 &&& (2147483647 : Int32))), (.int (own_from p1))])) _
    refine XS.bipush X1.here hx rfl (hb hby at_20) ?_
    show Steps p.tables e below (T1.setTop (mkF m 22 #[.val (.int p1), .val (.int p2), .val (.int p3), .val (.ref b1), .val (.int (own_from p1)), .unset, .unset, .unset, .unset, .unset] [(.int (17 : Int32)), (.int (p2 &&& (2147483647 : Int32))), (.int (own_from p1))])) _
    refine XS.iload X1.here hx rfl (hb hby at_22) rfl ?_
    show Steps p.tables e below (T1.setTop (mkF m 24 #[.val (.int p1), .val (.int p2), .val (.int p3), .val (.ref b1), .val (.int (own_from p1)), .unset, .unset, .unset, .unset, .unset] [(.int (own_from p1)), (.int (17 : Int32)), (.int (p2 &&& (2147483647 : Int32))), (.int (own_from p1))])) _
    refine XS.isub X1.here hx rfl (hb hby at_24) rfl ?_
    show Steps p.tables e below (T1.setTop (mkF m 25 #[.val (.int p1), .val (.int p2), .val (.int p3), .val (.ref b1), .val (.int (own_from p1)), .unset, .unset, .unset, .unset, .unset] [(.int ((17 : Int32) - (own_from p1))), (.int (p2 &&& (2147483647 : Int32))), (.int (own_from p1))])) _
    refine iremM X1 hx rfl (hb hby at_25) rfl hnz0 ?_
    show Steps p.tables e below (T1.setTop (mkF m 26 #[.val (.int p1), .val (.int p2), .val (.int p3), .val (.ref b1), .val (.int (own_from p1)), .unset, .unset, .unset, .unset, .unset] [(.int ((p2 &&& (2147483647 : Int32)) % ((17 : Int32) - (own_from p1)))), (.int (own_from p1))])) _
    refine XS.iadd X1.here hx rfl (hb hby at_26) rfl ?_
    show Steps p.tables e below (T1.setTop (mkF m 27 #[.val (.int p1), .val (.int p2), .val (.int p3), .val (.ref b1), .val (.int (own_from p1)), .unset, .unset, .unset, .unset, .unset] [(.int ((own_from p1) + ((p2 &&& (2147483647 : Int32)) % ((17 : Int32) - (own_from p1)))))])) _
    refine XS.istore X1.here hx rfl (hb hby at_27) rfl (l' := #[.val (.int p1), .val (.int p2), .val (.int p3), .val (.ref b1), .val (.int (own_from p1)), .val (.int (own_to p1 p2)), .unset, .unset, .unset, .unset]) rfl ?_
    show Steps p.tables e below (T1.setTop (mkF m 29 #[.val (.int p1), .val (.int p2), .val (.int p3), .val (.ref b1), .val (.int (own_from p1)), .val (.int (own_to p1 p2)), .unset, .unset, .unset, .unset] [])) _
    refine XS.iload X1.here hx rfl (hb hby at_29) rfl ?_
    show Steps p.tables e below (T1.setTop (mkF m 31 #[.val (.int p1), .val (.int p2), .val (.int p3), .val (.ref b1), .val (.int (own_from p1)), .val (.int (own_to p1 p2)), .unset, .unset, .unset, .unset] [(.int (own_to p1 p2))])) _
    refine XS.iload X1.here hx rfl (hb hby at_31) rfl ?_
    show Steps p.tables e below (T1.setTop (mkF m 33 #[.val (.int p1), .val (.int p2), .val (.int p3), .val (.ref b1), .val (.int (own_from p1)), .val (.int (own_to p1 p2)), .unset, .unset, .unset, .unset] [(.int (own_from p1)), (.int (own_to p1 p2))])) _
    refine XS.isub X1.here hx rfl (hb hby at_33) rfl ?_
    show Steps p.tables e below (T1.setTop (mkF m 34 #[.val (.int p1), .val (.int p2), .val (.int p3), .val (.ref b1), .val (.int (own_from p1)), .val (.int (own_to p1 p2)), .unset, .unset, .unset, .unset] [(.int ((own_to p1 p2) - (own_from p1)))])) _
    refine XS.istore X1.here hx rfl (hb hby at_34) rfl (l' := #[.val (.int p1), .val (.int p2), .val (.int p3), .val (.ref b1), .val (.int (own_from p1)), .val (.int (own_to p1 p2)), .val (.int (own_len p1 p2)), .unset, .unset, .unset]) rfl ?_
    show Steps p.tables e below (T1.setTop (mkF m 36 #[.val (.int p1), .val (.int p2), .val (.int p3), .val (.ref b1), .val (.int (own_from p1)), .val (.int (own_to p1 p2)), .val (.int (own_len p1 p2)), .unset, .unset, .unset] [])) _
    refine st4 _ ?_
    show Steps p.tables e below (T4.setTop (mkF m 39 #[.val (.int p1), .val (.int p2), .val (.int p3), .val (.ref b1), .val (.int (own_from p1)), .val (.int (own_to p1 p2)), .val (.int (own_len p1 p2)), .unset, .unset, .unset] [(.ref b4)])) _
    refine XS.dup X4.here hx rfl (hb hby at_39) rfl rfl ?_
    show Steps p.tables e below (T4.setTop (mkF m 40 #[.val (.int p1), .val (.int p2), .val (.int p3), .val (.ref b1), .val (.int (own_from p1)), .val (.int (own_to p1 p2)), .val (.int (own_len p1 p2)), .unset, .unset, .unset] [(.ref b4), (.ref b4)])) _
    refine XS.aloadN X4.here hx rfl (hb hby at_40) rfl rfl ?_
    show Steps p.tables e below (T4.setTop (mkF m 41 #[.val (.int p1), .val (.int p2), .val (.int p3), .val (.ref b1), .val (.int (own_from p1)), .val (.int (own_to p1 p2)), .val (.int (own_len p1 p2)), .unset, .unset, .unset] [(.ref b1), (.ref b4), (.ref b4)])) _
    refine XS.iload X4.here hx rfl (hb hby at_41) rfl ?_
    show Steps p.tables e below (T4.setTop (mkF m 43 #[.val (.int p1), .val (.int p2), .val (.int p3), .val (.ref b1), .val (.int (own_from p1)), .val (.int (own_to p1 p2)), .val (.int (own_len p1 p2)), .unset, .unset, .unset] [(.int (own_from p1)), (.ref b1), (.ref b4), (.ref b4)])) _
    refine XS.iload X4.here hx rfl (hb hby at_43) rfl ?_
    show Steps p.tables e below (T4.setTop (mkF m 45 #[.val (.int p1), .val (.int p2), .val (.int p3), .val (.ref b1), .val (.int (own_from p1)), .val (.int (own_to p1 p2)), .val (.int (own_len p1 p2)), .unset, .unset, .unset] [(.int (own_to p1 p2)), (.int (own_from p1)), (.ref b1), (.ref b4), (.ref b4)])) _
    refine st11.trans ?_
    show Steps p.tables e below (T11.setTop (mkF m 48 #[.val (.int p1), .val (.int p2), .val (.int p3), .val (.ref b1), .val (.int (own_from p1)), .val (.int (own_to p1 p2)), .val (.int (own_len p1 p2)), .unset, .unset, .unset] [(.ref b4)])) _
    refine XS.astore X11.here hx rfl (hb hby at_48) rfl rfl (l' := #[.val (.int p1), .val (.int p2), .val (.int p3), .val (.ref b1), .val (.int (own_from p1)), .val (.int (own_to p1 p2)), .val (.int (own_len p1 p2)), .val (.ref b4), .unset, .unset]) rfl ?_
    show Steps p.tables e below (T11.setTop (mkF m 50 #[.val (.int p1), .val (.int p2), .val (.int p3), .val (.ref b1), .val (.int (own_from p1)), .val (.int (own_to p1 p2)), .val (.int (own_len p1 p2)), .val (.ref b4), .unset, .unset] [])) _
    refine XS.aload X11.here hx rfl (hb hby at_50) rfl rfl ?_
    show Steps p.tables e below (T11.setTop (mkF m 52 #[.val (.int p1), .val (.int p2), .val (.int p3), .val (.ref b1), .val (.int (own_from p1)), .val (.int (own_to p1 p2)), .val (.int (own_len p1 p2)), .val (.ref b4), .unset, .unset] [(.ref b4)])) _
    refine st19.trans ?_
    show Steps p.tables e below (T19.setTop (mkF m 55 #[.val (.int p1), .val (.int p2), .val (.int p3), .val (.ref b1), .val (.int (own_from p1)), .val (.int (own_to p1 p2)), .val (.int (own_len p1 p2)), .val (.ref b4), .unset, .unset] [(.int (f_has (own_from p1) (own_to p1 p2)))])) _
    refine XS.iload X19.here hx rfl (hb hby at_55) rfl ?_
    show Steps p.tables e below (T19.setTop (mkF m 57 #[.val (.int p1), .val (.int p2), .val (.int p3), .val (.ref b1), .val (.int (own_from p1)), .val (.int (own_to p1 p2)), .val (.int (own_len p1 p2)), .val (.ref b4), .unset, .unset] [(.int (own_len p1 p2)), (.int (f_has (own_from p1) (own_to p1 p2)))])) _
    refine XS.ifYes X19.here hx rfl (pc0 := 57) (pc' := 64) rfl (hb hby at_57) rfl ((if0 _ _).trans (flt hc0).2.2.2) (by decide) (by decide) ?_
    show Steps p.tables e below (T19.setTop (mkF m 64 #[.val (.int p1), .val (.int p2), .val (.int p3), .val (.ref b1), .val (.int (own_from p1)), .val (.int (own_to p1 p2)), .val (.int (own_len p1 p2)), .val (.ref b4), .unset, .unset] [(.int (f_has (own_from p1) (own_to p1 p2)))])) _
    refine XS.iconst X19.here hx rfl (hb hby at_64) ?_
    show Steps p.tables e below (T19.setTop (mkF m 65 #[.val (.int p1), .val (.int p2), .val (.int p3), .val (.ref b1), .val (.int (own_from p1)), .val (.int (own_to p1 p2)), .val (.int (own_len p1 p2)), .val (.ref b4), .unset, .unset] [(.int (0 : Int32)), (.int (f_has (own_from p1) (own_to p1 p2)))])) _
    refine XS.icmpNo X19.here hx rfl (hb hby at_65) rfl (teq hc1).2 ?_
    show Steps p.tables e below (T19.setTop (mkF m 68 #[.val (.int p1), .val (.int p2), .val (.int p3), .val (.ref b1), .val (.int (own_from p1)), .val (.int (own_to p1 p2)), .val (.int (own_len p1 p2)), .val (.ref b4), .unset, .unset] [])) _
    refine XS.iconst X19.here hx rfl (hb hby at_68) ?_
    show Steps p.tables e below (T19.setTop (mkF m 69 #[.val (.int p1), .val (.int p2), .val (.int p3), .val (.ref b1), .val (.int (own_from p1)), .val (.int (own_to p1 p2)), .val (.int (own_len p1 p2)), .val (.ref b4), .unset, .unset] [(.int (1 : Int32))])) _
    refine XS.goto X19.here hx rfl (pc0 := 69) (pc' := 73) rfl (hb hby at_69) (by decide) (by decide) ?_
    show Steps p.tables e below (T19.setTop (mkF m 73 #[.val (.int p1), .val (.int p2), .val (.int p3), .val (.ref b1), .val (.int (own_from p1)), .val (.int (own_to p1 p2)), .val (.int (own_len p1 p2)), .val (.ref b4), .unset, .unset] [(.int (1 : Int32))])) _
    refine XS.istore X19.here hx rfl (hb hby at_73) rfl (l' := #[.val (.int p1), .val (.int p2), .val (.int p3), .val (.ref b1), .val (.int (own_from p1)), .val (.int (own_to p1 p2)), .val (.int (own_len p1 p2)), .val (.ref b4), .val (.int (1 : Int32)), .unset]) rfl ?_
    show Steps p.tables e below (T19.setTop (mkF m 75 #[.val (.int p1), .val (.int p2), .val (.int p3), .val (.ref b1), .val (.int (own_from p1)), .val (.int (own_to p1 p2)), .val (.int (own_len p1 p2)), .val (.ref b4), .val (.int (1 : Int32)), .unset] [])) _
    refine XS.iloadN X19.here hx rfl (hb hby at_75) rfl ?_
    show Steps p.tables e below (T19.setTop (mkF m 76 #[.val (.int p1), .val (.int p2), .val (.int p3), .val (.ref b1), .val (.int (own_from p1)), .val (.int (own_to p1 p2)), .val (.int (own_len p1 p2)), .val (.ref b4), .val (.int (1 : Int32)), .unset] [(.int p3)])) _
    refine X19.ldcInt hx hown (mvT hZ (hw _ (List.mem_of_getElem? (i := 1) rfl))) (g := (mkF m 76 #[.val (.int p1), .val (.int p2), .val (.int p3), .val (.ref b1), .val (.int (own_from p1)), .val (.int (own_to p1 p2)), .val (.int (own_len p1 p2)), .val (.ref b4), .val (.int (1 : Int32)), .unset] [(.int p3)])) rfl (hb hby at_76) _ ?_
    show Steps p.tables e below (T19.setTop (mkF m 78 #[.val (.int p1), .val (.int p2), .val (.int p3), .val (.ref b1), .val (.int (own_from p1)), .val (.int (own_to p1 p2)), .val (.int (own_len p1 p2)), .val (.ref b4), .val (.int (1 : Int32)), .unset] [(.int (2147483647 : Int32)), (.int p3)])) _
    refine XS.iand X19.here hx rfl (hb hby at_78) rfl ?_
    show Steps p.tables e below (T19.setTop (mkF m 79 #[.val (.int p1), .val (.int p2), .val (.int p3), .val (.ref b1), .val (.int (own_from p1)), .val (.int (own_to p1 p2)), .val (.int (own_len p1 p2)), .val (.ref b4), .val (.int (1 : Int32)), .unset] [(.int (p3 &&& (2147483647 : Int32)))])) _
    refine XS.iload X19.here hx rfl (hb hby at_79) rfl ?_
    show Steps p.tables e below (T19.setTop (mkF m 81 #[.val (.int p1), .val (.int p2), .val (.int p3), .val (.ref b1), .val (.int (own_from p1)), .val (.int (own_to p1 p2)), .val (.int (own_len p1 p2)), .val (.ref b4), .val (.int (1 : Int32)), .unset] [(.int (own_len p1 p2)), (.int (p3 &&& (2147483647 : Int32)))])) _
    refine XS.iconst X19.here hx rfl (hb hby at_81) ?_
    show Steps p.tables e below (T19.setTop (mkF m 82 #[.val (.int p1), .val (.int p2), .val (.int p3), .val (.ref b1), .val (.int (own_from p1)), .val (.int (own_to p1 p2)), .val (.int (own_len p1 p2)), .val (.ref b4), .val (.int (1 : Int32)), .unset] [(.int (1 : Int32)), (.int (own_len p1 p2)), (.int (p3 &&& (2147483647 : Int32)))])) _
    refine XS.iadd X19.here hx rfl (hb hby at_82) rfl ?_
    show Steps p.tables e below (T19.setTop (mkF m 83 #[.val (.int p1), .val (.int p2), .val (.int p3), .val (.ref b1), .val (.int (own_from p1)), .val (.int (own_to p1 p2)), .val (.int (own_len p1 p2)), .val (.ref b4), .val (.int (1 : Int32)), .unset] [(.int ((own_len p1 p2) + (1 : Int32))), (.int (p3 &&& (2147483647 : Int32)))])) _
    refine iremM X19 hx rfl (hb hby at_83) rfl hnz1 ?_
    show Steps p.tables e below (T19.setTop (mkF m 84 #[.val (.int p1), .val (.int p2), .val (.int p3), .val (.ref b1), .val (.int (own_from p1)), .val (.int (own_to p1 p2)), .val (.int (own_len p1 p2)), .val (.ref b4), .val (.int (1 : Int32)), .unset] [(.int ((p3 &&& (2147483647 : Int32)) % ((own_len p1 p2) + (1 : Int32))))])) _
    refine XS.istore X19.here hx rfl (hb hby at_84) rfl (l' := #[.val (.int p1), .val (.int p2), .val (.int p3), .val (.ref b1), .val (.int (own_from p1)), .val (.int (own_to p1 p2)), .val (.int (own_len p1 p2)), .val (.ref b4), .val (.int (1 : Int32)), .val (.int (own_k p1 p2 p3))]) rfl ?_
    show Steps p.tables e below (T19.setTop (mkF m 86 #[.val (.int p1), .val (.int p2), .val (.int p3), .val (.ref b1), .val (.int (own_from p1)), .val (.int (own_to p1 p2)), .val (.int (own_len p1 p2)), .val (.ref b4), .val (.int (1 : Int32)), .val (.int (own_k p1 p2 p3))] [])) _
    refine XS.aload X19.here hx rfl (hb hby at_86) rfl rfl ?_
    show Steps p.tables e below (T19.setTop (mkF m 88 #[.val (.int p1), .val (.int p2), .val (.int p3), .val (.ref b1), .val (.int (own_from p1)), .val (.int (own_to p1 p2)), .val (.int (own_len p1 p2)), .val (.ref b4), .val (.int (1 : Int32)), .val (.int (own_k p1 p2 p3))] [(.ref b4)])) _
    refine XS.iload X19.here hx rfl (hb hby at_88) rfl ?_
    show Steps p.tables e below (T19.setTop (mkF m 90 #[.val (.int p1), .val (.int p2), .val (.int p3), .val (.ref b1), .val (.int (own_from p1)), .val (.int (own_to p1 p2)), .val (.int (own_len p1 p2)), .val (.ref b4), .val (.int (1 : Int32)), .val (.int (own_k p1 p2 p3))] [(.int (own_k p1 p2 p3)), (.ref b4)])) _
    refine st21.trans ?_
    show Steps p.tables e below (T21.setTop (mkF m 93 #[.val (.int p1), .val (.int p2), .val (.int p3), .val (.ref b1), .val (.int (own_from p1)), .val (.int (own_to p1 p2)), .val (.int (own_len p1 p2)), .val (.ref b4), .val (.int (1 : Int32)), .val (.int (own_k p1 p2 p3))] [])) _
    refine XS.iload X21.here hx rfl (hb hby at_93) rfl ?_
    show Steps p.tables e below (T21.setTop (mkF m 95 #[.val (.int p1), .val (.int p2), .val (.int p3), .val (.ref b1), .val (.int (own_from p1)), .val (.int (own_to p1 p2)), .val (.int (own_len p1 p2)), .val (.ref b4), .val (.int (1 : Int32)), .val (.int (own_k p1 p2 p3))] [(.int (1 : Int32))])) _
    refine XS.ifNo X21.here hx rfl (hb hby at_95) rfl ((if0 _ _).trans (feq (by decide : ¬ ((1 : Int32) = (0 : Int32)))).1) ?_
    show Steps p.tables e below (T21.setTop (mkF m 98 #[.val (.int p1), .val (.int p2), .val (.int p3), .val (.ref b1), .val (.int (own_from p1)), .val (.int (own_to p1 p2)), .val (.int (own_len p1 p2)), .val (.ref b4), .val (.int (1 : Int32)), .val (.int (own_k p1 p2 p3))] [])) _
    refine XS.aload X21.here hx rfl (hb hby at_98) rfl rfl ?_
    show Steps p.tables e below (T21.setTop (mkF m 100 #[.val (.int p1), .val (.int p2), .val (.int p3), .val (.ref b1), .val (.int (own_from p1)), .val (.int (own_to p1 p2)), .val (.int (own_len p1 p2)), .val (.ref b4), .val (.int (1 : Int32)), .val (.int (own_k p1 p2 p3))] [(.ref b4)])) _
    refine st29.trans ?_
    show Steps p.tables e below (T29.setTop (mkF m 103 #[.val (.int p1), .val (.int p2), .val (.int p3), .val (.ref b1), .val (.int (own_from p1)), .val (.int (own_to p1 p2)), .val (.int (own_len p1 p2)), .val (.ref b4), .val (.int (1 : Int32)), .val (.int (own_k p1 p2 p3))] [(.int (f_has ((own_from p1) + (own_k p1 p2 p3)) (own_to p1 p2)))])) _
    refine XS.iload X29.here hx rfl (hb hby at_103) rfl ?_
    show Steps p.tables e below (T29.setTop (mkF m 105 #[.val (.int p1), .val (.int p2), .val (.int p3), .val (.ref b1), .val (.int (own_from p1)), .val (.int (own_to p1 p2)), .val (.int (own_len p1 p2)), .val (.ref b4), .val (.int (1 : Int32)), .val (.int (own_k p1 p2 p3))] [(.int (own_k p1 p2 p3)), (.int (f_has ((own_from p1) + (own_k p1 p2 p3)) (own_to p1 p2)))])) _
    refine XS.iload X29.here hx rfl (hb hby at_105) rfl ?_
    show Steps p.tables e below (T29.setTop (mkF m 107 #[.val (.int p1), .val (.int p2), .val (.int p3), .val (.ref b1), .val (.int (own_from p1)), .val (.int (own_to p1 p2)), .val (.int (own_len p1 p2)), .val (.ref b4), .val (.int (1 : Int32)), .val (.int (own_k p1 p2 p3))] [(.int (own_len p1 p2)), (.int (own_k p1 p2 p3)), (.int (f_has ((own_from p1) + (own_k p1 p2 p3)) (own_to p1 p2)))])) _
    refine XS.icmpYes X29.here hx rfl (pc0 := 107) (pc' := 114) rfl (hb hby at_107) rfl (flt hc2).2.1 (by decide) (by decide) ?_
    show Steps p.tables e below (T29.setTop (mkF m 114 #[.val (.int p1), .val (.int p2), .val (.int p3), .val (.ref b1), .val (.int (own_from p1)), .val (.int (own_to p1 p2)), .val (.int (own_len p1 p2)), .val (.ref b4), .val (.int (1 : Int32)), .val (.int (own_k p1 p2 p3))] [(.int (f_has ((own_from p1) + (own_k p1 p2 p3)) (own_to p1 p2)))])) _
    refine XS.iconst X29.here hx rfl (hb hby at_114) ?_
    show Steps p.tables e below (T29.setTop (mkF m 115 #[.val (.int p1), .val (.int p2), .val (.int p3), .val (.ref b1), .val (.int (own_from p1)), .val (.int (own_to p1 p2)), .val (.int (own_len p1 p2)), .val (.ref b4), .val (.int (1 : Int32)), .val (.int (own_k p1 p2 p3))] [(.int (0 : Int32)), (.int (f_has ((own_from p1) + (own_k p1 p2 p3)) (own_to p1 p2)))])) _
    refine XS.icmpNo X29.here hx rfl (hb hby at_115) rfl (teq hc3).2 ?_
    show Steps p.tables e below (T29.setTop (mkF m 118 #[.val (.int p1), .val (.int p2), .val (.int p3), .val (.ref b1), .val (.int (own_from p1)), .val (.int (own_to p1 p2)), .val (.int (own_len p1 p2)), .val (.ref b4), .val (.int (1 : Int32)), .val (.int (own_k p1 p2 p3))] [])) _
    refine XS.iconst X29.here hx rfl (hb hby at_118) ?_
    show Steps p.tables e below (T29.setTop (mkF m 119 #[.val (.int p1), .val (.int p2), .val (.int p3), .val (.ref b1), .val (.int (own_from p1)), .val (.int (own_to p1 p2)), .val (.int (own_len p1 p2)), .val (.ref b4), .val (.int (1 : Int32)), .val (.int (own_k p1 p2 p3))] [(.int (1 : Int32))])) _
    refine XS.goto X29.here hx rfl (pc0 := 119) (pc' := 123) rfl (hb hby at_119) (by decide) (by decide) ?_
    show Steps p.tables e below (T29.setTop (mkF m 123 #[.val (.int p1), .val (.int p2), .val (.int p3), .val (.ref b1), .val (.int (own_from p1)), .val (.int (own_to p1 p2)), .val (.int (own_len p1 p2)), .val (.ref b4), .val (.int (1 : Int32)), .val (.int (own_k p1 p2 p3))] [(.int (1 : Int32))])) _
    refine XS.istore X29.here hx rfl (hb hby at_123) rfl (l' := #[.val (.int p1), .val (.int p2), .val (.int p3), .val (.ref b1), .val (.int (own_from p1)), .val (.int (own_to p1 p2)), .val (.int (own_len p1 p2)), .val (.ref b4), .val (.int (1 : Int32)), .val (.int (own_k p1 p2 p3))]) rfl ?_
    show Steps p.tables e below (T29.setTop (mkF m 125 #[.val (.int p1), .val (.int p2), .val (.int p3), .val (.ref b1), .val (.int (own_from p1)), .val (.int (own_to p1 p2)), .val (.int (own_len p1 p2)), .val (.ref b4), .val (.int (1 : Int32)), .val (.int (own_k p1 p2 p3))] [])) _
    refine XS.iload X29.here hx rfl (hb hby at_125) rfl ?_
    show Steps p.tables e below (T29.setTop (mkF m 127 #[.val (.int p1), .val (.int p2), .val (.int p3), .val (.ref b1), .val (.int (own_from p1)), .val (.int (own_to p1 p2)), .val (.int (own_len p1 p2)), .val (.ref b4), .val (.int (1 : Int32)), .val (.int (own_k p1 p2 p3))] [(.int (own_k p1 p2 p3))])) _
    refine XS.iload X29.here hx rfl (hb hby at_127) rfl ?_
    show Steps p.tables e below (T29.setTop (mkF m 129 #[.val (.int p1), .val (.int p2), .val (.int p3), .val (.ref b1), .val (.int (own_from p1)), .val (.int (own_to p1 p2)), .val (.int (own_len p1 p2)), .val (.ref b4), .val (.int (1 : Int32)), .val (.int (own_k p1 p2 p3))] [(.int (own_len p1 p2)), (.int (own_k p1 p2 p3))])) _
    refine XS.icmpYes X29.here hx rfl (pc0 := 129) (pc' := 172) rfl (hb hby at_129) rfl (flt hc2).2.1 (by decide) (by decide) ?_
    show Steps p.tables e below (T29.setTop (mkF m 172 #[.val (.int p1), .val (.int p2), .val (.int p3), .val (.ref b1), .val (.int (own_from p1)), .val (.int (own_to p1 p2)), .val (.int (own_len p1 p2)), .val (.ref b4), .val (.int (1 : Int32)), .val (.int (own_k p1 p2 p3))] [])) _
    refine XS.iload X29.here hx rfl (hb hby at_172) rfl ?_
    show Steps p.tables e below (T29.setTop (mkF m 174 #[.val (.int p1), .val (.int p2), .val (.int p3), .val (.ref b1), .val (.int (own_from p1)), .val (.int (own_to p1 p2)), .val (.int (own_len p1 p2)), .val (.ref b4), .val (.int (1 : Int32)), .val (.int (own_k p1 p2 p3))] [(.int (1 : Int32))])) _
    exact retN X29 hx (t := .boolean) Bd.returns (by simp) (hb hby at_174) hr
  · show Q_law Z p1 p2 p3 h0 n0 _ T29.heap _
    rw [e29]
    exact ⟨rfl, N30⟩
def Road_fftft (p1 : Int32) (p2 : Int32) (p3 : Int32) : Prop := (¬ (((17 : Int32) - (own_from p1)) = (0 : Int32))) ∧ (¬ (((own_len p1 p2) + (1 : Int32)) = (0 : Int32))) ∧ (¬ ((own_k p1 p2 p3) < (0 : Int32))) ∧ (¬ (((own_to p1 p2) - (own_from p1)) < (own_k p1 p2 p3))) ∧ ((0 : Int32) < (own_len p1 p2)) ∧ ((f_has (own_from p1) (own_to p1 p2)) = (1 : Int32)) ∧ (¬ ((own_k p1 p2 p3) < (own_len p1 p2))) ∧ ((f_has ((own_from p1) + (own_k p1 p2 p3)) (own_to p1 p2)) = (0 : Int32))
set_option maxRecDepth 65536 in
set_option maxHeartbeats 40000000 in
theorem rm_law_fftft (l : Launch) (Z : State) (a0 : Array Value) (hw : ∀ d ∈ tables_1, d.before a0 Z = true) (ws : List Jvm.Cond) (p1 : Int32) (p2 : Int32) (p3 : Int32) (h0 : Heap) (n0 : Nat) (Z0 : n0 ≤ h0.size) (hroad : Road_fftft p1 p2 p3) :
    MetFree l x (head1 (Jvm.Cond.code x code maxLocals ret :: ws) room_1) (fun a U => a = #[(.int p1), (.int p2), (.int p3)] ∧ Z.Warmed39 U.vm ∧ U.heap = h0) (fun _ _ _ _ _ => True) (fun _ U o U' => ∃ v L, o = .returned v ∧ Q_law Z p1 p2 p3 h0 n0 v U'.heap L ∧ FrameEnd U o U' L room_1.cells room_1.slots) := by
  obtain ⟨hnz0, hnz1, hp2, hp3, hc0, hc1, hc2, hc3⟩ := hroad
  refine MetFree.of_bodySF (plainFor_of_name pn_com_example_fieldstone_fieldstone_core_ByteReaderHasRemainingPinLaw) hisR ?_
  intro p e s m args below meth c s₁ Bd hml0 hP hK
  obtain ⟨rfl, hZ, hh⟩ := hP
  have hx := Bd.exec
  have hby := Bd.bytes
  have hml : c.maxLocals = 10 := hml0
  have hown : s.vm.findClass "com/example/fieldstone/fieldstone/core/ByteReaderHasRemainingPinLaw" = some m.cls := findClass_of_methodNamed Bd.named
  have hnm := (name_of_methodNamed Bd.named Bd.method).1
  have X0 : Stand p l e room_1 s m #[(.int p1), (.int p2), (.int p3)] below meth c s₁ [] 0 0 := Stand.of_body Bd
  have e0 : s₁.heap = h0 := by rw [← hh, Bd.state]; rfl
  have N0 := Fr.nil n0
  have pre0 : ∀ t, Steps p.tables e below (s₁.setTop (mkF m 0 #[.val (.int p1), .val (.int p2), .val (.int p3), .unset, .unset, .unset, .unset, .unset, .unset, .unset] [])) t → Steps p.tables e below (s₁.setTop (entryFrame m #[(.int p1), (.int p2), (.int p3)] maxLocals)) t := fun t k => castTop (ef_0_III m p1 p2 p3) k
  obtain ⟨T1, h1, k1, X1, e1, E1, A1, Ex1, st1⟩ := newPE X0 hx hZ (hw _ (List.mem_of_getElem? (i := 0) rfl)) e0 (g := (mkF m 2 #[.val (.int p1), .val (.int p2), .val (.int p3), .unset, .unset, .unset, .unset, .unset, .unset, .unset] [(.int (16 : Int32))])) rfl (hb hby at_2) rfl (by decide) (cap := 16) (by decide) (by decide) (by decide) (by decide) (ad := "[B") (by decide)
  obtain ⟨b1, g1⟩ : ∃ z, z = h0.size := ⟨_, rfl⟩
  rw [← g1] at A1 Ex1 st1
  have g_b1 : n0 ≤ b1 := Nat.le_trans Z0 (Nat.le_of_eq g1.symm)
  have Zs2 : n0 ≤ h1.size := Nat.le_trans Z0 E1.1
  have f3 : Arv Z h1 b1 k1 .byte (16 : Int32) [(.int (0 : Int32)), (.int (0 : Int32)), (.int (0 : Int32)), (.int (0 : Int32)), (.int (0 : Int32)), (.int (0 : Int32)), (.int (0 : Int32)), (.int (0 : Int32)), (.int (0 : Int32)), (.int (0 : Int32)), (.int (0 : Int32)), (.int (0 : Int32)), (.int (0 : Int32)), (.int (0 : Int32)), (.int (0 : Int32)), (.int (0 : Int32))] (.int (0 : Int32)) := (Arv.new A1 (by decide)).pad (pad_rep [] (.int (0 : Int32)) 16)
  obtain ⟨T4, h4, X4, e4, E4, A4, D4, -, st4⟩ := newO X1 hx hZ hown (hw _ (List.mem_of_getElem? (i := 2) rfl)) (hw _ (List.mem_of_getElem? (i := 3) rfl)) (hw _ (List.mem_of_getElem? (i := 4) rfl)) e1 (g := (mkF m 36 #[.val (.int p1), .val (.int p2), .val (.int p3), .val (.ref b1), .val (.int (own_from p1)), .val (.int (own_to p1 p2)), .val (.int (own_len p1 p2)), .unset, .unset, .unset] [])) rfl (hb hby at_36) (by decide) (by decide)
  obtain ⟨b4, g4⟩ : ∃ z, z = h1.size := ⟨_, rfl⟩
  rw [← g4] at A4 D4 st4
  have g_b4 : n0 ≤ b4 := Nat.le_trans Zs2 (Nat.le_of_eq g4.symm)
  have ne_b1_b4 : b1 ≠ b4 := Nat.ne_of_lt (Nat.lt_of_lt_of_le Ex1.lt (Nat.le_of_eq g4.symm))
  have f5 : Exa Z h4 b1 "[B" := Ex1.ext E4
  have f6 : Arv Z h4 b1 k1 .byte (16 : Int32) [(.int (0 : Int32)), (.int (0 : Int32)), (.int (0 : Int32)), (.int (0 : Int32)), (.int (0 : Int32)), (.int (0 : Int32)), (.int (0 : Int32)), (.int (0 : Int32)), (.int (0 : Int32)), (.int (0 : Int32)), (.int (0 : Int32)), (.int (0 : Int32)), (.int (0 : Int32)), (.int (0 : Int32)), (.int (0 : Int32)), (.int (0 : Int32))] (.int (0 : Int32)) := f3.ext E4
  have Zs7 : n0 ≤ h4.size := Nat.le_trans Zs2 E4.1
  have f8 : Fld Z h4 b4 "com/example/fieldstone/fieldstone/core/ByteReader" "bytes" "[B" .null := D4 (Or.inr (hw _ (List.mem_of_getElem? (i := 12) rfl))) (ty := (.array .byte)) (by decide)
  have f9 : Fld Z h4 b4 "com/example/fieldstone/fieldstone/core/ByteReader" "position" "I" (.int (0 : Int32)) := D4 (Or.inl (hw _ (List.mem_of_getElem? (i := 14) rfl))) (ty := .int) (by decide)
  have f10 : Fld Z h4 b4 "com/example/fieldstone/fieldstone/core/ByteReader" "end" "I" (.int (0 : Int32)) := D4 (Or.inr (hw _ (List.mem_of_getElem? (i := 16) rfl))) (ty := .int) (by decide)
  obtain ⟨_, _, ⟨T11, L11, k11, n11⟩, -, X11, ⟨Lc11, hQ11, l11, y11, z11⟩, st11⟩ := X4.specialBack hx (y := (⟨"com/example/fieldstone/fieldstone/core/ByteReader", "<init>", "([BII)V"⟩ : MethodName)) rfl hown (mvT hZ (hw _ (List.mem_of_getElem? (i := 5) rfl))) (mvT hZ (hw _ (List.mem_of_getElem? (i := 6) rfl))) (mvT hZ (hw _ (List.mem_of_getElem? (i := 7) rfl))) (by decide) (backOf (W := 1) (rm_init l Z a0 hw [] b4 b1 (own_from p1) (own_to p1 p2) h4 n0 Zs7 A4 f8 g_b4 f9 f10) hZ (hw _ (List.mem_of_getElem? (i := 7) rfl)) (hw _ (List.mem_of_getElem? (i := 4) rfl)) (by decide) (by decide)) (g := (mkF m 45 #[.val (.int p1), .val (.int p2), .val (.int p3), .val (.ref b1), .val (.int (own_from p1)), .val (.int (own_to p1 p2)), .val (.int (own_len p1 p2)), .unset, .unset, .unset] [(.int (own_to p1 p2)), (.int (own_from p1)), (.ref b1), (.ref b4), (.ref b4)])) rfl (by rw [hml]; rfl) (Steps.refl _) (a := b4) (argsL := [(.ref b1), (.int (own_from p1)), (.int (own_to p1 p2))]) (rest := [(.ref b4)]) (lenOf pd_1 rfl) rfl (by show 2 * 0 + _ ≤ _; exact Nat.le_of_eq rfl) (hb hby at_45) (fun _ _ => ⟨rfl, e4, (by decide : 2 + 0 ≤ _), (by decide : 19 + 0 ≤ _)⟩)
  dsimp only [Pt.U, Pt.locs, Pt.cells, Pt.slots] at X11 l11 y11 z11 st11 hQ11
  subst l11 y11 z11
  obtain ⟨rfl, Nq11, Kc11, fq11_0, fq11_1, fq11_2, fq11_3⟩ := hQ11
  have f13 : Exa Z T11.heap b1 "[B" := f5.keep Kc11
  have f14 : Arv Z T11.heap b1 k1 .byte (16 : Int32) [(.int (0 : Int32)), (.int (0 : Int32)), (.int (0 : Int32)), (.int (0 : Int32)), (.int (0 : Int32)), (.int (0 : Int32)), (.int (0 : Int32)), (.int (0 : Int32)), (.int (0 : Int32)), (.int (0 : Int32)), (.int (0 : Int32)), (.int (0 : Int32)), (.int (0 : Int32)), (.int (0 : Int32)), (.int (0 : Int32)), (.int (0 : Int32))] (.int (0 : Int32)) := f6.keep Kc11 (ninS ne_b1_b4 nin0)
  have f15 : Fld Z T11.heap b4 "com/example/fieldstone/fieldstone/core/ByteReader" "bytes" "[B" (.ref b1) := fq11_1
  have f16 : Fld Z T11.heap b4 "com/example/fieldstone/fieldstone/core/ByteReader" "position" "I" (.int (own_from p1)) := fq11_2
  have f17 : Fld Z T11.heap b4 "com/example/fieldstone/fieldstone/core/ByteReader" "end" "I" (.int (own_to p1 p2)) := fq11_3
  have Zs18 : n0 ≤ T11.heap.size := Nat.le_trans Zs7 Kc11.1
  have N12 := Fr.app N0 Nq11
  obtain ⟨cq19, kq19, q19a, q19b, q19c⟩ := isOf hZ rfl fq11_0
  obtain ⟨_, _, ⟨T19, L19, k19, n19⟩, -, X19, ⟨Lc19, hQ19, l19, y19, z19⟩, st19⟩ := X11.virtualBack hx (y := (⟨"com/example/fieldstone/fieldstone/core/ByteReader", "hasRemaining", "()Z"⟩ : MethodName)) (z := (⟨"com/example/fieldstone/fieldstone/core/ByteReader", "hasRemaining", "()Z"⟩ : MethodName)) hown (mvT hZ (hw _ (List.mem_of_getElem? (i := 17) rfl))) (mvT hZ (hw _ (List.mem_of_getElem? (i := 18) rfl))) (notFace_of_selects (args := #[]) (mvT hZ (hw _ (List.mem_of_getElem? (i := 20) rfl)))) (mvT hZ (hw _ (List.mem_of_getElem? (i := 20) rfl))) (mvT hZ (hw _ (List.mem_of_getElem? (i := 19) rfl))) (by decide) (backOf (W := 0) (rm_has l Z a0 hw [] b4 (own_from p1) (own_to p1 p2) T11.heap n0 Zs18 f16 f17) hZ (hw _ (List.mem_of_getElem? (i := 21) rfl)) (hw _ (List.mem_of_getElem? (i := 4) rfl)) (by decide) (by decide)) q19a q19c (g := (mkF m 52 #[.val (.int p1), .val (.int p2), .val (.int p3), .val (.ref b1), .val (.int (own_from p1)), .val (.int (own_to p1 p2)), .val (.int (own_len p1 p2)), .val (.ref b4), .unset, .unset] [(.ref b4)])) rfl (by rw [hml]; rfl) (Steps.refl _) (argsL := []) (rest := []) (lenOf pd_2 rfl) rfl (by show 2 * 0 + _ ≤ _; exact Nat.le_of_eq rfl) (hb hby at_52) (fun _ _ => ⟨rfl, rfl, (by decide : 2 + 0 ≤ _), (by decide : 19 + 0 ≤ _)⟩)
  dsimp only [Pt.U, Pt.locs, Pt.cells, Pt.slots] at X19 l19 y19 z19 st19 hQ19
  subst l19 y19 z19
  obtain ⟨rfl, Nq19, e19⟩ := hQ19
  have N20 := Fr.app N12 Nq19
  obtain ⟨cq21, kq21, q21a, q21b, q21c⟩ := isOf hZ e19 fq11_0
  obtain ⟨_, _, ⟨T21, L21, k21, n21⟩, -, X21, ⟨Lc21, hQ21, l21, y21, z21⟩, st21⟩ := X19.virtualBack hx (y := (⟨"com/example/fieldstone/fieldstone/core/ByteReader", "skip", "(I)V"⟩ : MethodName)) (z := (⟨"com/example/fieldstone/fieldstone/core/ByteReader", "skip", "(I)V"⟩ : MethodName)) hown (mvT hZ (hw _ (List.mem_of_getElem? (i := 22) rfl))) (mvT hZ (hw _ (List.mem_of_getElem? (i := 23) rfl))) (notFace_of_selects (args := #[]) (mvT hZ (hw _ (List.mem_of_getElem? (i := 25) rfl)))) (mvT hZ (hw _ (List.mem_of_getElem? (i := 25) rfl))) (mvT hZ (hw _ (List.mem_of_getElem? (i := 24) rfl))) (by decide) (backOf (W := 0) (rm_skip l Z a0 hw [] b4 (own_k p1 p2 p3) (own_to p1 p2) (own_from p1) b1 T11.heap n0 Zs18 f17 f16 fq11_0 g_b4 f15 hp2 hp3) hZ (hw _ (List.mem_of_getElem? (i := 26) rfl)) (hw _ (List.mem_of_getElem? (i := 4) rfl)) (by decide) (by decide)) q21a q21c (g := (mkF m 90 #[.val (.int p1), .val (.int p2), .val (.int p3), .val (.ref b1), .val (.int (own_from p1)), .val (.int (own_to p1 p2)), .val (.int (own_len p1 p2)), .val (.ref b4), .val (.int (1 : Int32)), .val (.int (own_k p1 p2 p3))] [(.int (own_k p1 p2 p3)), (.ref b4)])) rfl (by rw [hml]; rfl) (Steps.refl _) (argsL := [(.int (own_k p1 p2 p3))]) (rest := []) (lenOf pd_0 rfl) rfl (by show 2 * 0 + _ ≤ _; exact Nat.le_of_eq rfl) (hb hby at_90) (fun _ _ => ⟨rfl, e19, (by decide : 2 + 0 ≤ _), (by decide : 19 + 0 ≤ _)⟩)
  dsimp only [Pt.U, Pt.locs, Pt.cells, Pt.slots] at X21 l21 y21 z21 st21 hQ21
  subst l21 y21 z21
  obtain ⟨rfl, Nq21, Kc21, fq21_0, fq21_1, fq21_2, fq21_3⟩ := hQ21
  have f23 : Exa Z T21.heap b1 "[B" := f13.keep Kc21
  have f24 : Arv Z T21.heap b1 k1 .byte (16 : Int32) [(.int (0 : Int32)), (.int (0 : Int32)), (.int (0 : Int32)), (.int (0 : Int32)), (.int (0 : Int32)), (.int (0 : Int32)), (.int (0 : Int32)), (.int (0 : Int32)), (.int (0 : Int32)), (.int (0 : Int32)), (.int (0 : Int32)), (.int (0 : Int32)), (.int (0 : Int32)), (.int (0 : Int32)), (.int (0 : Int32)), (.int (0 : Int32))] (.int (0 : Int32)) := f14.keep Kc21 (ninS ne_b1_b4 nin0)
  have f25 : Fld Z T21.heap b4 "com/example/fieldstone/fieldstone/core/ByteReader" "end" "I" (.int (own_to p1 p2)) := fq21_0
  have f26 : Fld Z T21.heap b4 "com/example/fieldstone/fieldstone/core/ByteReader" "position" "I" (.int ((own_from p1) + (own_k p1 p2 p3))) := fq21_1
  have f27 : Fld Z T21.heap b4 "com/example/fieldstone/fieldstone/core/ByteReader" "bytes" "[B" (.ref b1) := fq21_3
  have Zs28 : n0 ≤ T21.heap.size := Nat.le_trans Zs18 Kc21.1
  have N22 := Fr.app N20 Nq21
  obtain ⟨cq29, kq29, q29a, q29b, q29c⟩ := isOf hZ rfl fq21_2
  obtain ⟨_, _, ⟨T29, L29, k29, n29⟩, -, X29, ⟨Lc29, hQ29, l29, y29, z29⟩, st29⟩ := X21.virtualBack hx (y := (⟨"com/example/fieldstone/fieldstone/core/ByteReader", "hasRemaining", "()Z"⟩ : MethodName)) (z := (⟨"com/example/fieldstone/fieldstone/core/ByteReader", "hasRemaining", "()Z"⟩ : MethodName)) hown (mvT hZ (hw _ (List.mem_of_getElem? (i := 17) rfl))) (mvT hZ (hw _ (List.mem_of_getElem? (i := 18) rfl))) (notFace_of_selects (args := #[]) (mvT hZ (hw _ (List.mem_of_getElem? (i := 20) rfl)))) (mvT hZ (hw _ (List.mem_of_getElem? (i := 20) rfl))) (mvT hZ (hw _ (List.mem_of_getElem? (i := 19) rfl))) (by decide) (backOf (W := 0) (rm_has l Z a0 hw [] b4 ((own_from p1) + (own_k p1 p2 p3)) (own_to p1 p2) T21.heap n0 Zs28 f26 f25) hZ (hw _ (List.mem_of_getElem? (i := 21) rfl)) (hw _ (List.mem_of_getElem? (i := 4) rfl)) (by decide) (by decide)) q29a q29c (g := (mkF m 100 #[.val (.int p1), .val (.int p2), .val (.int p3), .val (.ref b1), .val (.int (own_from p1)), .val (.int (own_to p1 p2)), .val (.int (own_len p1 p2)), .val (.ref b4), .val (.int (1 : Int32)), .val (.int (own_k p1 p2 p3))] [(.ref b4)])) rfl (by rw [hml]; rfl) (Steps.refl _) (argsL := []) (rest := []) (lenOf pd_2 rfl) rfl (by show 2 * 0 + _ ≤ _; exact Nat.le_of_eq rfl) (hb hby at_100) (fun _ _ => ⟨rfl, rfl, (by decide : 2 + 0 ≤ _), (by decide : 19 + 0 ≤ _)⟩)
  dsimp only [Pt.U, Pt.locs, Pt.cells, Pt.slots] at X29 l29 y29 z29 st29 hQ29
  subst l29 y29 z29
  obtain ⟨rfl, Nq29, e29⟩ := hQ29
  have N30 := Fr.app N22 Nq29
  obtain ⟨fs, hr, hrun, hended, hW, hsame⟩ := X29.leave (v := some (.int (1 : Int32))) (fun h => by rw [Bd.returns] at h; cases h)
  refine ⟨_, _, pre0 _ ?_, hrun, hended, _, _, rfl, ?_, ⟨_, rfl⟩, hW, hsame.mono (by decide) (by decide)⟩
  · show Steps p.tables e below (s₁.setTop (mkF m 0 #[.val (.int p1), .val (.int p2), .val (.int p3), .unset, .unset, .unset, .unset, .unset, .unset, .unset] [])) _
    refine XS.bipush X0.here hx rfl (hb hby at_0) ?_
    show Steps p.tables e below (s₁.setTop (mkF m 2 #[.val (.int p1), .val (.int p2), .val (.int p3), .unset, .unset, .unset, .unset, .unset, .unset, .unset] [(.int (16 : Int32))])) _
    refine st1 _ ?_
    show Steps p.tables e below (T1.setTop (mkF m 4 #[.val (.int p1), .val (.int p2), .val (.int p3), .unset, .unset, .unset, .unset, .unset, .unset, .unset] [(.ref b1)])) _
    refine XS.astoreN X1.here hx rfl (hb hby at_4) rfl rfl (l' := #[.val (.int p1), .val (.int p2), .val (.int p3), .val (.ref b1), .unset, .unset, .unset, .unset, .unset, .unset]) rfl ?_
    show Steps p.tables e below (T1.setTop (mkF m 5 #[.val (.int p1), .val (.int p2), .val (.int p3), .val (.ref b1), .unset, .unset, .unset, .unset, .unset, .unset] [])) _
    refine XS.iloadN X1.here hx rfl (hb hby at_5) rfl ?_
    show Steps p.tables e below (T1.setTop (mkF m 6 #[.val (.int p1), .val (.int p2), .val (.int p3), .val (.ref b1), .unset, .unset, .unset, .unset, .unset, .unset] [(.int p1)])) _
    refine X1.ldcInt hx hown (mvT hZ (hw _ (List.mem_of_getElem? (i := 1) rfl))) (g := (mkF m 6 #[.val (.int p1), .val (.int p2), .val (.int p3), .val (.ref b1), .unset, .unset, .unset, .unset, .unset, .unset] [(.int p1)])) rfl (hb hby at_6) _ ?_
    show Steps p.tables e below (T1.setTop (mkF m 8 #[.val (.int p1), .val (.int p2), .val (.int p3), .val (.ref b1), .unset, .unset, .unset, .unset, .unset, .unset] [(.int (2147483647 : Int32)), (.int p1)])) _
    refine XS.iand X1.here hx rfl (hb hby at_8) rfl ?_
    show Steps p.tables e below (T1.setTop (mkF m 9 #[.val (.int p1), .val (.int p2), .val (.int p3), .val (.ref b1), .unset, .unset, .unset, .unset, .unset, .unset] [(.int (p1 &&& (2147483647 : Int32)))])) _
    refine XS.bipush X1.here hx rfl (hb hby at_9) ?_
    show Steps p.tables e below (T1.setTop (mkF m 11 #[.val (.int p1), .val (.int p2), .val (.int p3), .val (.ref b1), .unset, .unset, .unset, .unset, .unset, .unset] [(.int (17 : Int32)), (.int (p1 &&& (2147483647 : Int32)))])) _
    refine iremM X1 hx rfl (hb hby at_11) rfl (by decide) ?_
    show Steps p.tables e below (T1.setTop (mkF m 12 #[.val (.int p1), .val (.int p2), .val (.int p3), .val (.ref b1), .unset, .unset, .unset, .unset, .unset, .unset] [(.int ((p1 &&& (2147483647 : Int32)) % (17 : Int32)))])) _
    refine XS.istore X1.here hx rfl (hb hby at_12) rfl (l' := #[.val (.int p1), .val (.int p2), .val (.int p3), .val (.ref b1), .val (.int (own_from p1)), .unset, .unset, .unset, .unset, .unset]) rfl ?_
    show Steps p.tables e below (T1.setTop (mkF m 14 #[.val (.int p1), .val (.int p2), .val (.int p3), .val (.ref b1), .val (.int (own_from p1)), .unset, .unset, .unset, .unset, .unset] [])) _
    refine XS.iload X1.here hx rfl (hb hby at_14) rfl ?_
    show Steps p.tables e below (T1.setTop (mkF m 16 #[.val (.int p1), .val (.int p2), .val (.int p3), .val (.ref b1), .val (.int (own_from p1)), .unset, .unset, .unset, .unset, .unset] [(.int (own_from p1))])) _
    refine XS.iloadN X1.here hx rfl (hb hby at_16) rfl ?_
    show Steps p.tables e below (T1.setTop (mkF m 17 #[.val (.int p1), .val (.int p2), .val (.int p3), .val (.ref b1), .val (.int (own_from p1)), .unset, .unset, .unset, .unset, .unset] [(.int p2), (.int (own_from p1))])) _
    refine X1.ldcInt hx hown (mvT hZ (hw _ (List.mem_of_getElem? (i := 1) rfl))) (g := (mkF m 17 #[.val (.int p1), .val (.int p2), .val (.int p3), .val (.ref b1), .val (.int (own_from p1)), .unset, .unset, .unset, .unset, .unset] [(.int p2), (.int (own_from p1))])) rfl (hb hby at_17) _ ?_
    show Steps p.tables e below (T1.setTop (mkF m 19 #[.val (.int p1), .val (.int p2), .val (.int p3), .val (.ref b1), .val (.int (own_from p1)), .unset, .unset, .unset, .unset, .unset] [(.int (2147483647 : Int32)), (.int p2), (.int (own_from p1))])) _
    refine XS.iand X1.here hx rfl (hb hby at_19) rfl ?_
    show Steps p.tables e below (T1.setTop (mkF m 20 #[.val (.int p1), .val (.int p2), .val (.int p3), .val (.ref b1), .val (.int (own_from p1)), .unset, .unset, .unset, .unset, .unset] [(.int (p2 &&& (2147483647 : Int32))), (.int (own_from p1))])) _
    refine XS.bipush X1.here hx rfl (hb hby at_20) ?_
    show Steps p.tables e below (T1.setTop (mkF m 22 #[.val (.int p1), .val (.int p2), .val (.int p3), .val (.ref b1), .val (.int (own_from p1)), .unset, .unset, .unset, .unset, .unset] [(.int (17 : Int32)), (.int (p2 &&& (2147483647 : Int32))), (.int (own_from p1))])) _
    refine XS.iload X1.here hx rfl (hb hby at_22) rfl ?_
    show Steps p.tables e below (T1.setTop (mkF m 24 #[.val (.int p1), .val (.int p2), .val (.int p3), .val (.ref b1), .val (.int (own_from p1)), .unset, .unset, .unset, .unset, .unset] [(.int (own_from p1)), (.int (17 : Int32)), (.int (p2 &&& (2147483647 : Int32))), (.int (own_from p1))])) _
    refine XS.isub X1.here hx rfl (hb hby at_24) rfl ?_
    show Steps p.tables e below (T1.setTop (mkF m 25 #[.val (.int p1), .val (.int p2), .val (.int p3), .val (.ref b1), .val (.int (own_from p1)), .unset, .unset, .unset, .unset, .unset] [(.int ((17 : Int32) - (own_from p1))), (.int (p2 &&& (2147483647 : Int32))), (.int (own_from p1))])) _
    refine iremM X1 hx rfl (hb hby at_25) rfl hnz0 ?_
    show Steps p.tables e below (T1.setTop (mkF m 26 #[.val (.int p1), .val (.int p2), .val (.int p3), .val (.ref b1), .val (.int (own_from p1)), .unset, .unset, .unset, .unset, .unset] [(.int ((p2 &&& (2147483647 : Int32)) % ((17 : Int32) - (own_from p1)))), (.int (own_from p1))])) _
    refine XS.iadd X1.here hx rfl (hb hby at_26) rfl ?_
    show Steps p.tables e below (T1.setTop (mkF m 27 #[.val (.int p1), .val (.int p2), .val (.int p3), .val (.ref b1), .val (.int (own_from p1)), .unset, .unset, .unset, .unset, .unset] [(.int ((own_from p1) + ((p2 &&& (2147483647 : Int32)) % ((17 : Int32) - (own_from p1)))))])) _
    refine XS.istore X1.here hx rfl (hb hby at_27) rfl (l' := #[.val (.int p1), .val (.int p2), .val (.int p3), .val (.ref b1), .val (.int (own_from p1)), .val (.int (own_to p1 p2)), .unset, .unset, .unset, .unset]) rfl ?_
    show Steps p.tables e below (T1.setTop (mkF m 29 #[.val (.int p1), .val (.int p2), .val (.int p3), .val (.ref b1), .val (.int (own_from p1)), .val (.int (own_to p1 p2)), .unset, .unset, .unset, .unset] [])) _
    refine XS.iload X1.here hx rfl (hb hby at_29) rfl ?_
    show Steps p.tables e below (T1.setTop (mkF m 31 #[.val (.int p1), .val (.int p2), .val (.int p3), .val (.ref b1), .val (.int (own_from p1)), .val (.int (own_to p1 p2)), .unset, .unset, .unset, .unset] [(.int (own_to p1 p2))])) _
    refine XS.iload X1.here hx rfl (hb hby at_31) rfl ?_
    show Steps p.tables e below (T1.setTop (mkF m 33 #[.val (.int p1), .val (.int p2), .val (.int p3), .val (.ref b1), .val (.int (own_from p1)), .val (.int (own_to p1 p2)), .unset, .unset, .unset, .unset] [(.int (own_from p1)), (.int (own_to p1 p2))])) _
    refine XS.isub X1.here hx rfl (hb hby at_33) rfl ?_
    show Steps p.tables e below (T1.setTop (mkF m 34 #[.val (.int p1), .val (.int p2), .val (.int p3), .val (.ref b1), .val (.int (own_from p1)), .val (.int (own_to p1 p2)), .unset, .unset, .unset, .unset] [(.int ((own_to p1 p2) - (own_from p1)))])) _
    refine XS.istore X1.here hx rfl (hb hby at_34) rfl (l' := #[.val (.int p1), .val (.int p2), .val (.int p3), .val (.ref b1), .val (.int (own_from p1)), .val (.int (own_to p1 p2)), .val (.int (own_len p1 p2)), .unset, .unset, .unset]) rfl ?_
    show Steps p.tables e below (T1.setTop (mkF m 36 #[.val (.int p1), .val (.int p2), .val (.int p3), .val (.ref b1), .val (.int (own_from p1)), .val (.int (own_to p1 p2)), .val (.int (own_len p1 p2)), .unset, .unset, .unset] [])) _
    refine st4 _ ?_
    show Steps p.tables e below (T4.setTop (mkF m 39 #[.val (.int p1), .val (.int p2), .val (.int p3), .val (.ref b1), .val (.int (own_from p1)), .val (.int (own_to p1 p2)), .val (.int (own_len p1 p2)), .unset, .unset, .unset] [(.ref b4)])) _
    refine XS.dup X4.here hx rfl (hb hby at_39) rfl rfl ?_
    show Steps p.tables e below (T4.setTop (mkF m 40 #[.val (.int p1), .val (.int p2), .val (.int p3), .val (.ref b1), .val (.int (own_from p1)), .val (.int (own_to p1 p2)), .val (.int (own_len p1 p2)), .unset, .unset, .unset] [(.ref b4), (.ref b4)])) _
    refine XS.aloadN X4.here hx rfl (hb hby at_40) rfl rfl ?_
    show Steps p.tables e below (T4.setTop (mkF m 41 #[.val (.int p1), .val (.int p2), .val (.int p3), .val (.ref b1), .val (.int (own_from p1)), .val (.int (own_to p1 p2)), .val (.int (own_len p1 p2)), .unset, .unset, .unset] [(.ref b1), (.ref b4), (.ref b4)])) _
    refine XS.iload X4.here hx rfl (hb hby at_41) rfl ?_
    show Steps p.tables e below (T4.setTop (mkF m 43 #[.val (.int p1), .val (.int p2), .val (.int p3), .val (.ref b1), .val (.int (own_from p1)), .val (.int (own_to p1 p2)), .val (.int (own_len p1 p2)), .unset, .unset, .unset] [(.int (own_from p1)), (.ref b1), (.ref b4), (.ref b4)])) _
    refine XS.iload X4.here hx rfl (hb hby at_43) rfl ?_
    show Steps p.tables e below (T4.setTop (mkF m 45 #[.val (.int p1), .val (.int p2), .val (.int p3), .val (.ref b1), .val (.int (own_from p1)), .val (.int (own_to p1 p2)), .val (.int (own_len p1 p2)), .unset, .unset, .unset] [(.int (own_to p1 p2)), (.int (own_from p1)), (.ref b1), (.ref b4), (.ref b4)])) _
    refine st11.trans ?_
    show Steps p.tables e below (T11.setTop (mkF m 48 #[.val (.int p1), .val (.int p2), .val (.int p3), .val (.ref b1), .val (.int (own_from p1)), .val (.int (own_to p1 p2)), .val (.int (own_len p1 p2)), .unset, .unset, .unset] [(.ref b4)])) _
    refine XS.astore X11.here hx rfl (hb hby at_48) rfl rfl (l' := #[.val (.int p1), .val (.int p2), .val (.int p3), .val (.ref b1), .val (.int (own_from p1)), .val (.int (own_to p1 p2)), .val (.int (own_len p1 p2)), .val (.ref b4), .unset, .unset]) rfl ?_
    show Steps p.tables e below (T11.setTop (mkF m 50 #[.val (.int p1), .val (.int p2), .val (.int p3), .val (.ref b1), .val (.int (own_from p1)), .val (.int (own_to p1 p2)), .val (.int (own_len p1 p2)), .val (.ref b4), .unset, .unset] [])) _
    refine XS.aload X11.here hx rfl (hb hby at_50) rfl rfl ?_
    show Steps p.tables e below (T11.setTop (mkF m 52 #[.val (.int p1), .val (.int p2), .val (.int p3), .val (.ref b1), .val (.int (own_from p1)), .val (.int (own_to p1 p2)), .val (.int (own_len p1 p2)), .val (.ref b4), .unset, .unset] [(.ref b4)])) _
    refine st19.trans ?_
    show Steps p.tables e below (T19.setTop (mkF m 55 #[.val (.int p1), .val (.int p2), .val (.int p3), .val (.ref b1), .val (.int (own_from p1)), .val (.int (own_to p1 p2)), .val (.int (own_len p1 p2)), .val (.ref b4), .unset, .unset] [(.int (f_has (own_from p1) (own_to p1 p2)))])) _
    refine XS.iload X19.here hx rfl (hb hby at_55) rfl ?_
    show Steps p.tables e below (T19.setTop (mkF m 57 #[.val (.int p1), .val (.int p2), .val (.int p3), .val (.ref b1), .val (.int (own_from p1)), .val (.int (own_to p1 p2)), .val (.int (own_len p1 p2)), .val (.ref b4), .unset, .unset] [(.int (own_len p1 p2)), (.int (f_has (own_from p1) (own_to p1 p2)))])) _
    refine XS.ifNo X19.here hx rfl (hb hby at_57) rfl ((if0 _ _).trans (tlt hc0).2.2.2) ?_
    show Steps p.tables e below (T19.setTop (mkF m 60 #[.val (.int p1), .val (.int p2), .val (.int p3), .val (.ref b1), .val (.int (own_from p1)), .val (.int (own_to p1 p2)), .val (.int (own_len p1 p2)), .val (.ref b4), .unset, .unset] [(.int (f_has (own_from p1) (own_to p1 p2)))])) _
    refine XS.iconst X19.here hx rfl (hb hby at_60) ?_
    show Steps p.tables e below (T19.setTop (mkF m 61 #[.val (.int p1), .val (.int p2), .val (.int p3), .val (.ref b1), .val (.int (own_from p1)), .val (.int (own_to p1 p2)), .val (.int (own_len p1 p2)), .val (.ref b4), .unset, .unset] [(.int (1 : Int32)), (.int (f_has (own_from p1) (own_to p1 p2)))])) _
    refine XS.goto X19.here hx rfl (pc0 := 61) (pc' := 65) rfl (hb hby at_61) (by decide) (by decide) ?_
    show Steps p.tables e below (T19.setTop (mkF m 65 #[.val (.int p1), .val (.int p2), .val (.int p3), .val (.ref b1), .val (.int (own_from p1)), .val (.int (own_to p1 p2)), .val (.int (own_len p1 p2)), .val (.ref b4), .unset, .unset] [(.int (1 : Int32)), (.int (f_has (own_from p1) (own_to p1 p2)))])) _
    refine XS.icmpNo X19.here hx rfl (hb hby at_65) rfl (teq hc1).2 ?_
    show Steps p.tables e below (T19.setTop (mkF m 68 #[.val (.int p1), .val (.int p2), .val (.int p3), .val (.ref b1), .val (.int (own_from p1)), .val (.int (own_to p1 p2)), .val (.int (own_len p1 p2)), .val (.ref b4), .unset, .unset] [])) _
    refine XS.iconst X19.here hx rfl (hb hby at_68) ?_
    show Steps p.tables e below (T19.setTop (mkF m 69 #[.val (.int p1), .val (.int p2), .val (.int p3), .val (.ref b1), .val (.int (own_from p1)), .val (.int (own_to p1 p2)), .val (.int (own_len p1 p2)), .val (.ref b4), .unset, .unset] [(.int (1 : Int32))])) _
    refine XS.goto X19.here hx rfl (pc0 := 69) (pc' := 73) rfl (hb hby at_69) (by decide) (by decide) ?_
    show Steps p.tables e below (T19.setTop (mkF m 73 #[.val (.int p1), .val (.int p2), .val (.int p3), .val (.ref b1), .val (.int (own_from p1)), .val (.int (own_to p1 p2)), .val (.int (own_len p1 p2)), .val (.ref b4), .unset, .unset] [(.int (1 : Int32))])) _
    refine XS.istore X19.here hx rfl (hb hby at_73) rfl (l' := #[.val (.int p1), .val (.int p2), .val (.int p3), .val (.ref b1), .val (.int (own_from p1)), .val (.int (own_to p1 p2)), .val (.int (own_len p1 p2)), .val (.ref b4), .val (.int (1 : Int32)), .unset]) rfl ?_
    show Steps p.tables e below (T19.setTop (mkF m 75 #[.val (.int p1), .val (.int p2), .val (.int p3), .val (.ref b1), .val (.int (own_from p1)), .val (.int (own_to p1 p2)), .val (.int (own_len p1 p2)), .val (.ref b4), .val (.int (1 : Int32)), .unset] [])) _
    refine XS.iloadN X19.here hx rfl (hb hby at_75) rfl ?_
    show Steps p.tables e below (T19.setTop (mkF m 76 #[.val (.int p1), .val (.int p2), .val (.int p3), .val (.ref b1), .val (.int (own_from p1)), .val (.int (own_to p1 p2)), .val (.int (own_len p1 p2)), .val (.ref b4), .val (.int (1 : Int32)), .unset] [(.int p3)])) _
    refine X19.ldcInt hx hown (mvT hZ (hw _ (List.mem_of_getElem? (i := 1) rfl))) (g := (mkF m 76 #[.val (.int p1), .val (.int p2), .val (.int p3), .val (.ref b1), .val (.int (own_from p1)), .val (.int (own_to p1 p2)), .val (.int (own_len p1 p2)), .val (.ref b4), .val (.int (1 : Int32)), .unset] [(.int p3)])) rfl (hb hby at_76) _ ?_
    show Steps p.tables e below (T19.setTop (mkF m 78 #[.val (.int p1), .val (.int p2), .val (.int p3), .val (.ref b1), .val (.int (own_from p1)), .val (.int (own_to p1 p2)), .val (.int (own_len p1 p2)), .val (.ref b4), .val (.int (1 : Int32)), .unset] [(.int (2147483647 : Int32)), (.int p3)])) _
    refine XS.iand X19.here hx rfl (hb hby at_78) rfl ?_
    show Steps p.tables e below (T19.setTop (mkF m 79 #[.val (.int p1), .val (.int p2), .val (.int p3), .val (.ref b1), .val (.int (own_from p1)), .val (.int (own_to p1 p2)), .val (.int (own_len p1 p2)), .val (.ref b4), .val (.int (1 : Int32)), .unset] [(.int (p3 &&& (2147483647 : Int32)))])) _
    refine XS.iload X19.here hx rfl (hb hby at_79) rfl ?_
    show Steps p.tables e below (T19.setTop (mkF m 81 #[.val (.int p1), .val (.int p2), .val (.int p3), .val (.ref b1), .val (.int (own_from p1)), .val (.int (own_to p1 p2)), .val (.int (own_len p1 p2)), .val (.ref b4), .val (.int (1 : Int32)), .unset] [(.int (own_len p1 p2)), (.int (p3 &&& (2147483647 : Int32)))])) _
    refine XS.iconst X19.here hx rfl (hb hby at_81) ?_
    show Steps p.tables e below (T19.setTop (mkF m 82 #[.val (.int p1), .val (.int p2), .val (.int p3), .val (.ref b1), .val (.int (own_from p1)), .val (.int (own_to p1 p2)), .val (.int (own_len p1 p2)), .val (.ref b4), .val (.int (1 : Int32)), .unset] [(.int (1 : Int32)), (.int (own_len p1 p2)), (.int (p3 &&& (2147483647 : Int32)))])) _
    refine XS.iadd X19.here hx rfl (hb hby at_82) rfl ?_
    show Steps p.tables e below (T19.setTop (mkF m 83 #[.val (.int p1), .val (.int p2), .val (.int p3), .val (.ref b1), .val (.int (own_from p1)), .val (.int (own_to p1 p2)), .val (.int (own_len p1 p2)), .val (.ref b4), .val (.int (1 : Int32)), .unset] [(.int ((own_len p1 p2) + (1 : Int32))), (.int (p3 &&& (2147483647 : Int32)))])) _
    refine iremM X19 hx rfl (hb hby at_83) rfl hnz1 ?_
    show Steps p.tables e below (T19.setTop (mkF m 84 #[.val (.int p1), .val (.int p2), .val (.int p3), .val (.ref b1), .val (.int (own_from p1)), .val (.int (own_to p1 p2)), .val (.int (own_len p1 p2)), .val (.ref b4), .val (.int (1 : Int32)), .unset] [(.int ((p3 &&& (2147483647 : Int32)) % ((own_len p1 p2) + (1 : Int32))))])) _
    refine XS.istore X19.here hx rfl (hb hby at_84) rfl (l' := #[.val (.int p1), .val (.int p2), .val (.int p3), .val (.ref b1), .val (.int (own_from p1)), .val (.int (own_to p1 p2)), .val (.int (own_len p1 p2)), .val (.ref b4), .val (.int (1 : Int32)), .val (.int (own_k p1 p2 p3))]) rfl ?_
    show Steps p.tables e below (T19.setTop (mkF m 86 #[.val (.int p1), .val (.int p2), .val (.int p3), .val (.ref b1), .val (.int (own_from p1)), .val (.int (own_to p1 p2)), .val (.int (own_len p1 p2)), .val (.ref b4), .val (.int (1 : Int32)), .val (.int (own_k p1 p2 p3))] [])) _
    refine XS.aload X19.here hx rfl (hb hby at_86) rfl rfl ?_
    show Steps p.tables e below (T19.setTop (mkF m 88 #[.val (.int p1), .val (.int p2), .val (.int p3), .val (.ref b1), .val (.int (own_from p1)), .val (.int (own_to p1 p2)), .val (.int (own_len p1 p2)), .val (.ref b4), .val (.int (1 : Int32)), .val (.int (own_k p1 p2 p3))] [(.ref b4)])) _
    refine XS.iload X19.here hx rfl (hb hby at_88) rfl ?_
    show Steps p.tables e below (T19.setTop (mkF m 90 #[.val (.int p1), .val (.int p2), .val (.int p3), .val (.ref b1), .val (.int (own_from p1)), .val (.int (own_to p1 p2)), .val (.int (own_len p1 p2)), .val (.ref b4), .val (.int (1 : Int32)), .val (.int (own_k p1 p2 p3))] [(.int (own_k p1 p2 p3)), (.ref b4)])) _
    refine st21.trans ?_
    show Steps p.tables e below (T21.setTop (mkF m 93 #[.val (.int p1), .val (.int p2), .val (.int p3), .val (.ref b1), .val (.int (own_from p1)), .val (.int (own_to p1 p2)), .val (.int (own_len p1 p2)), .val (.ref b4), .val (.int (1 : Int32)), .val (.int (own_k p1 p2 p3))] [])) _
    refine XS.iload X21.here hx rfl (hb hby at_93) rfl ?_
    show Steps p.tables e below (T21.setTop (mkF m 95 #[.val (.int p1), .val (.int p2), .val (.int p3), .val (.ref b1), .val (.int (own_from p1)), .val (.int (own_to p1 p2)), .val (.int (own_len p1 p2)), .val (.ref b4), .val (.int (1 : Int32)), .val (.int (own_k p1 p2 p3))] [(.int (1 : Int32))])) _
    refine XS.ifNo X21.here hx rfl (hb hby at_95) rfl ((if0 _ _).trans (feq (by decide : ¬ ((1 : Int32) = (0 : Int32)))).1) ?_
    show Steps p.tables e below (T21.setTop (mkF m 98 #[.val (.int p1), .val (.int p2), .val (.int p3), .val (.ref b1), .val (.int (own_from p1)), .val (.int (own_to p1 p2)), .val (.int (own_len p1 p2)), .val (.ref b4), .val (.int (1 : Int32)), .val (.int (own_k p1 p2 p3))] [])) _
    refine XS.aload X21.here hx rfl (hb hby at_98) rfl rfl ?_
    show Steps p.tables e below (T21.setTop (mkF m 100 #[.val (.int p1), .val (.int p2), .val (.int p3), .val (.ref b1), .val (.int (own_from p1)), .val (.int (own_to p1 p2)), .val (.int (own_len p1 p2)), .val (.ref b4), .val (.int (1 : Int32)), .val (.int (own_k p1 p2 p3))] [(.ref b4)])) _
    refine st29.trans ?_
    show Steps p.tables e below (T29.setTop (mkF m 103 #[.val (.int p1), .val (.int p2), .val (.int p3), .val (.ref b1), .val (.int (own_from p1)), .val (.int (own_to p1 p2)), .val (.int (own_len p1 p2)), .val (.ref b4), .val (.int (1 : Int32)), .val (.int (own_k p1 p2 p3))] [(.int (f_has ((own_from p1) + (own_k p1 p2 p3)) (own_to p1 p2)))])) _
    refine XS.iload X29.here hx rfl (hb hby at_103) rfl ?_
    show Steps p.tables e below (T29.setTop (mkF m 105 #[.val (.int p1), .val (.int p2), .val (.int p3), .val (.ref b1), .val (.int (own_from p1)), .val (.int (own_to p1 p2)), .val (.int (own_len p1 p2)), .val (.ref b4), .val (.int (1 : Int32)), .val (.int (own_k p1 p2 p3))] [(.int (own_k p1 p2 p3)), (.int (f_has ((own_from p1) + (own_k p1 p2 p3)) (own_to p1 p2)))])) _
    refine XS.iload X29.here hx rfl (hb hby at_105) rfl ?_
    show Steps p.tables e below (T29.setTop (mkF m 107 #[.val (.int p1), .val (.int p2), .val (.int p3), .val (.ref b1), .val (.int (own_from p1)), .val (.int (own_to p1 p2)), .val (.int (own_len p1 p2)), .val (.ref b4), .val (.int (1 : Int32)), .val (.int (own_k p1 p2 p3))] [(.int (own_len p1 p2)), (.int (own_k p1 p2 p3)), (.int (f_has ((own_from p1) + (own_k p1 p2 p3)) (own_to p1 p2)))])) _
    refine XS.icmpYes X29.here hx rfl (pc0 := 107) (pc' := 114) rfl (hb hby at_107) rfl (flt hc2).2.1 (by decide) (by decide) ?_
    show Steps p.tables e below (T29.setTop (mkF m 114 #[.val (.int p1), .val (.int p2), .val (.int p3), .val (.ref b1), .val (.int (own_from p1)), .val (.int (own_to p1 p2)), .val (.int (own_len p1 p2)), .val (.ref b4), .val (.int (1 : Int32)), .val (.int (own_k p1 p2 p3))] [(.int (f_has ((own_from p1) + (own_k p1 p2 p3)) (own_to p1 p2)))])) _
    refine XS.iconst X29.here hx rfl (hb hby at_114) ?_
    show Steps p.tables e below (T29.setTop (mkF m 115 #[.val (.int p1), .val (.int p2), .val (.int p3), .val (.ref b1), .val (.int (own_from p1)), .val (.int (own_to p1 p2)), .val (.int (own_len p1 p2)), .val (.ref b4), .val (.int (1 : Int32)), .val (.int (own_k p1 p2 p3))] [(.int (0 : Int32)), (.int (f_has ((own_from p1) + (own_k p1 p2 p3)) (own_to p1 p2)))])) _
    refine XS.icmpNo X29.here hx rfl (hb hby at_115) rfl (teq hc3).2 ?_
    show Steps p.tables e below (T29.setTop (mkF m 118 #[.val (.int p1), .val (.int p2), .val (.int p3), .val (.ref b1), .val (.int (own_from p1)), .val (.int (own_to p1 p2)), .val (.int (own_len p1 p2)), .val (.ref b4), .val (.int (1 : Int32)), .val (.int (own_k p1 p2 p3))] [])) _
    refine XS.iconst X29.here hx rfl (hb hby at_118) ?_
    show Steps p.tables e below (T29.setTop (mkF m 119 #[.val (.int p1), .val (.int p2), .val (.int p3), .val (.ref b1), .val (.int (own_from p1)), .val (.int (own_to p1 p2)), .val (.int (own_len p1 p2)), .val (.ref b4), .val (.int (1 : Int32)), .val (.int (own_k p1 p2 p3))] [(.int (1 : Int32))])) _
    refine XS.goto X29.here hx rfl (pc0 := 119) (pc' := 123) rfl (hb hby at_119) (by decide) (by decide) ?_
    show Steps p.tables e below (T29.setTop (mkF m 123 #[.val (.int p1), .val (.int p2), .val (.int p3), .val (.ref b1), .val (.int (own_from p1)), .val (.int (own_to p1 p2)), .val (.int (own_len p1 p2)), .val (.ref b4), .val (.int (1 : Int32)), .val (.int (own_k p1 p2 p3))] [(.int (1 : Int32))])) _
    refine XS.istore X29.here hx rfl (hb hby at_123) rfl (l' := #[.val (.int p1), .val (.int p2), .val (.int p3), .val (.ref b1), .val (.int (own_from p1)), .val (.int (own_to p1 p2)), .val (.int (own_len p1 p2)), .val (.ref b4), .val (.int (1 : Int32)), .val (.int (own_k p1 p2 p3))]) rfl ?_
    show Steps p.tables e below (T29.setTop (mkF m 125 #[.val (.int p1), .val (.int p2), .val (.int p3), .val (.ref b1), .val (.int (own_from p1)), .val (.int (own_to p1 p2)), .val (.int (own_len p1 p2)), .val (.ref b4), .val (.int (1 : Int32)), .val (.int (own_k p1 p2 p3))] [])) _
    refine XS.iload X29.here hx rfl (hb hby at_125) rfl ?_
    show Steps p.tables e below (T29.setTop (mkF m 127 #[.val (.int p1), .val (.int p2), .val (.int p3), .val (.ref b1), .val (.int (own_from p1)), .val (.int (own_to p1 p2)), .val (.int (own_len p1 p2)), .val (.ref b4), .val (.int (1 : Int32)), .val (.int (own_k p1 p2 p3))] [(.int (own_k p1 p2 p3))])) _
    refine XS.iload X29.here hx rfl (hb hby at_127) rfl ?_
    show Steps p.tables e below (T29.setTop (mkF m 129 #[.val (.int p1), .val (.int p2), .val (.int p3), .val (.ref b1), .val (.int (own_from p1)), .val (.int (own_to p1 p2)), .val (.int (own_len p1 p2)), .val (.ref b4), .val (.int (1 : Int32)), .val (.int (own_k p1 p2 p3))] [(.int (own_len p1 p2)), (.int (own_k p1 p2 p3))])) _
    refine XS.icmpYes X29.here hx rfl (pc0 := 129) (pc' := 172) rfl (hb hby at_129) rfl (flt hc2).2.1 (by decide) (by decide) ?_
    show Steps p.tables e below (T29.setTop (mkF m 172 #[.val (.int p1), .val (.int p2), .val (.int p3), .val (.ref b1), .val (.int (own_from p1)), .val (.int (own_to p1 p2)), .val (.int (own_len p1 p2)), .val (.ref b4), .val (.int (1 : Int32)), .val (.int (own_k p1 p2 p3))] [])) _
    refine XS.iload X29.here hx rfl (hb hby at_172) rfl ?_
    show Steps p.tables e below (T29.setTop (mkF m 174 #[.val (.int p1), .val (.int p2), .val (.int p3), .val (.ref b1), .val (.int (own_from p1)), .val (.int (own_to p1 p2)), .val (.int (own_len p1 p2)), .val (.ref b4), .val (.int (1 : Int32)), .val (.int (own_k p1 p2 p3))] [(.int (1 : Int32))])) _
    exact retN X29 hx (t := .boolean) Bd.returns (by simp) (hb hby at_174) hr
  · show Q_law Z p1 p2 p3 h0 n0 _ T29.heap _
    rw [e29]
    exact ⟨rfl, N30⟩
def Road_ffffftf (p1 : Int32) (p2 : Int32) (p3 : Int32) : Prop := (¬ (((17 : Int32) - (own_from p1)) = (0 : Int32))) ∧ (¬ (((own_len p1 p2) + (1 : Int32)) = (0 : Int32))) ∧ (¬ ((own_k p1 p2 p3) < (0 : Int32))) ∧ (¬ (((own_to p1 p2) - (own_from p1)) < (own_k p1 p2 p3))) ∧ (¬ (((own_from p1) + (own_k p1 p2 p3)) < (0 : Int32))) ∧ (((own_from p1) + (own_k p1 p2 p3)) < (16 : Int32)) ∧ (((own_from p1) + (own_k p1 p2 p3)) < (own_to p1 p2)) ∧ ((0 : Int32) < (own_len p1 p2)) ∧ ((f_has (own_from p1) (own_to p1 p2)) = (1 : Int32)) ∧ ((own_k p1 p2 p3) < (own_len p1 p2)) ∧ ((f_has ((own_from p1) + (own_k p1 p2 p3)) (own_to p1 p2)) = (1 : Int32)) ∧ (¬ (((own_k p1 p2 p3) + (1 : Int32)) < (own_len p1 p2))) ∧ ((f_has (((own_from p1) + (own_k p1 p2 p3)) + (1 : Int32)) (own_to p1 p2)) = (0 : Int32))
set_option maxRecDepth 65536 in
set_option maxHeartbeats 40000000 in
theorem rm_law_ffffftf (l : Launch) (Z : State) (a0 : Array Value) (hw : ∀ d ∈ tables_1, d.before a0 Z = true) (ws : List Jvm.Cond) (p1 : Int32) (p2 : Int32) (p3 : Int32) (h0 : Heap) (n0 : Nat) (Z0 : n0 ≤ h0.size) (hroad : Road_ffffftf p1 p2 p3) :
    MetFree l x (head1 (Jvm.Cond.code x code maxLocals ret :: ws) room_1) (fun a U => a = #[(.int p1), (.int p2), (.int p3)] ∧ Z.Warmed39 U.vm ∧ U.heap = h0) (fun _ _ _ _ _ => True) (fun _ U o U' => ∃ v L, o = .returned v ∧ Q_law Z p1 p2 p3 h0 n0 v U'.heap L ∧ FrameEnd U o U' L room_1.cells room_1.slots) := by
  obtain ⟨hnz0, hnz1, hp2, hp3, hp4, hp5, hp6, hc0, hc1, hc2, hc3, hc4, hc5⟩ := hroad
  refine MetFree.of_bodySF (plainFor_of_name pn_com_example_fieldstone_fieldstone_core_ByteReaderHasRemainingPinLaw) hisR ?_
  intro p e s m args below meth c s₁ Bd hml0 hP hK
  obtain ⟨rfl, hZ, hh⟩ := hP
  have hx := Bd.exec
  have hby := Bd.bytes
  have hml : c.maxLocals = 10 := hml0
  have hown : s.vm.findClass "com/example/fieldstone/fieldstone/core/ByteReaderHasRemainingPinLaw" = some m.cls := findClass_of_methodNamed Bd.named
  have hnm := (name_of_methodNamed Bd.named Bd.method).1
  have X0 : Stand p l e room_1 s m #[(.int p1), (.int p2), (.int p3)] below meth c s₁ [] 0 0 := Stand.of_body Bd
  have e0 : s₁.heap = h0 := by rw [← hh, Bd.state]; rfl
  have N0 := Fr.nil n0
  have pre0 : ∀ t, Steps p.tables e below (s₁.setTop (mkF m 0 #[.val (.int p1), .val (.int p2), .val (.int p3), .unset, .unset, .unset, .unset, .unset, .unset, .unset] [])) t → Steps p.tables e below (s₁.setTop (entryFrame m #[(.int p1), (.int p2), (.int p3)] maxLocals)) t := fun t k => castTop (ef_0_III m p1 p2 p3) k
  obtain ⟨T1, h1, k1, X1, e1, E1, A1, Ex1, st1⟩ := newPE X0 hx hZ (hw _ (List.mem_of_getElem? (i := 0) rfl)) e0 (g := (mkF m 2 #[.val (.int p1), .val (.int p2), .val (.int p3), .unset, .unset, .unset, .unset, .unset, .unset, .unset] [(.int (16 : Int32))])) rfl (hb hby at_2) rfl (by decide) (cap := 16) (by decide) (by decide) (by decide) (by decide) (ad := "[B") (by decide)
  obtain ⟨b1, g1⟩ : ∃ z, z = h0.size := ⟨_, rfl⟩
  rw [← g1] at A1 Ex1 st1
  have g_b1 : n0 ≤ b1 := Nat.le_trans Z0 (Nat.le_of_eq g1.symm)
  have Zs2 : n0 ≤ h1.size := Nat.le_trans Z0 E1.1
  have f3 : Arv Z h1 b1 k1 .byte (16 : Int32) [(.int (0 : Int32)), (.int (0 : Int32)), (.int (0 : Int32)), (.int (0 : Int32)), (.int (0 : Int32)), (.int (0 : Int32)), (.int (0 : Int32)), (.int (0 : Int32)), (.int (0 : Int32)), (.int (0 : Int32)), (.int (0 : Int32)), (.int (0 : Int32)), (.int (0 : Int32)), (.int (0 : Int32)), (.int (0 : Int32)), (.int (0 : Int32))] (.int (0 : Int32)) := (Arv.new A1 (by decide)).pad (pad_rep [] (.int (0 : Int32)) 16)
  obtain ⟨T4, h4, X4, e4, E4, A4, D4, -, st4⟩ := newO X1 hx hZ hown (hw _ (List.mem_of_getElem? (i := 2) rfl)) (hw _ (List.mem_of_getElem? (i := 3) rfl)) (hw _ (List.mem_of_getElem? (i := 4) rfl)) e1 (g := (mkF m 36 #[.val (.int p1), .val (.int p2), .val (.int p3), .val (.ref b1), .val (.int (own_from p1)), .val (.int (own_to p1 p2)), .val (.int (own_len p1 p2)), .unset, .unset, .unset] [])) rfl (hb hby at_36) (by decide) (by decide)
  obtain ⟨b4, g4⟩ : ∃ z, z = h1.size := ⟨_, rfl⟩
  rw [← g4] at A4 D4 st4
  have g_b4 : n0 ≤ b4 := Nat.le_trans Zs2 (Nat.le_of_eq g4.symm)
  have ne_b1_b4 : b1 ≠ b4 := Nat.ne_of_lt (Nat.lt_of_lt_of_le Ex1.lt (Nat.le_of_eq g4.symm))
  have f5 : Exa Z h4 b1 "[B" := Ex1.ext E4
  have f6 : Arv Z h4 b1 k1 .byte (16 : Int32) [(.int (0 : Int32)), (.int (0 : Int32)), (.int (0 : Int32)), (.int (0 : Int32)), (.int (0 : Int32)), (.int (0 : Int32)), (.int (0 : Int32)), (.int (0 : Int32)), (.int (0 : Int32)), (.int (0 : Int32)), (.int (0 : Int32)), (.int (0 : Int32)), (.int (0 : Int32)), (.int (0 : Int32)), (.int (0 : Int32)), (.int (0 : Int32))] (.int (0 : Int32)) := f3.ext E4
  have Zs7 : n0 ≤ h4.size := Nat.le_trans Zs2 E4.1
  have f8 : Fld Z h4 b4 "com/example/fieldstone/fieldstone/core/ByteReader" "bytes" "[B" .null := D4 (Or.inr (hw _ (List.mem_of_getElem? (i := 12) rfl))) (ty := (.array .byte)) (by decide)
  have f9 : Fld Z h4 b4 "com/example/fieldstone/fieldstone/core/ByteReader" "position" "I" (.int (0 : Int32)) := D4 (Or.inl (hw _ (List.mem_of_getElem? (i := 14) rfl))) (ty := .int) (by decide)
  have f10 : Fld Z h4 b4 "com/example/fieldstone/fieldstone/core/ByteReader" "end" "I" (.int (0 : Int32)) := D4 (Or.inr (hw _ (List.mem_of_getElem? (i := 16) rfl))) (ty := .int) (by decide)
  obtain ⟨_, _, ⟨T11, L11, k11, n11⟩, -, X11, ⟨Lc11, hQ11, l11, y11, z11⟩, st11⟩ := X4.specialBack hx (y := (⟨"com/example/fieldstone/fieldstone/core/ByteReader", "<init>", "([BII)V"⟩ : MethodName)) rfl hown (mvT hZ (hw _ (List.mem_of_getElem? (i := 5) rfl))) (mvT hZ (hw _ (List.mem_of_getElem? (i := 6) rfl))) (mvT hZ (hw _ (List.mem_of_getElem? (i := 7) rfl))) (by decide) (backOf (W := 1) (rm_init l Z a0 hw [] b4 b1 (own_from p1) (own_to p1 p2) h4 n0 Zs7 A4 f8 g_b4 f9 f10) hZ (hw _ (List.mem_of_getElem? (i := 7) rfl)) (hw _ (List.mem_of_getElem? (i := 4) rfl)) (by decide) (by decide)) (g := (mkF m 45 #[.val (.int p1), .val (.int p2), .val (.int p3), .val (.ref b1), .val (.int (own_from p1)), .val (.int (own_to p1 p2)), .val (.int (own_len p1 p2)), .unset, .unset, .unset] [(.int (own_to p1 p2)), (.int (own_from p1)), (.ref b1), (.ref b4), (.ref b4)])) rfl (by rw [hml]; rfl) (Steps.refl _) (a := b4) (argsL := [(.ref b1), (.int (own_from p1)), (.int (own_to p1 p2))]) (rest := [(.ref b4)]) (lenOf pd_1 rfl) rfl (by show 2 * 0 + _ ≤ _; exact Nat.le_of_eq rfl) (hb hby at_45) (fun _ _ => ⟨rfl, e4, (by decide : 2 + 0 ≤ _), (by decide : 19 + 0 ≤ _)⟩)
  dsimp only [Pt.U, Pt.locs, Pt.cells, Pt.slots] at X11 l11 y11 z11 st11 hQ11
  subst l11 y11 z11
  obtain ⟨rfl, Nq11, Kc11, fq11_0, fq11_1, fq11_2, fq11_3⟩ := hQ11
  have f13 : Exa Z T11.heap b1 "[B" := f5.keep Kc11
  have f14 : Arv Z T11.heap b1 k1 .byte (16 : Int32) [(.int (0 : Int32)), (.int (0 : Int32)), (.int (0 : Int32)), (.int (0 : Int32)), (.int (0 : Int32)), (.int (0 : Int32)), (.int (0 : Int32)), (.int (0 : Int32)), (.int (0 : Int32)), (.int (0 : Int32)), (.int (0 : Int32)), (.int (0 : Int32)), (.int (0 : Int32)), (.int (0 : Int32)), (.int (0 : Int32)), (.int (0 : Int32))] (.int (0 : Int32)) := f6.keep Kc11 (ninS ne_b1_b4 nin0)
  have f15 : Fld Z T11.heap b4 "com/example/fieldstone/fieldstone/core/ByteReader" "bytes" "[B" (.ref b1) := fq11_1
  have f16 : Fld Z T11.heap b4 "com/example/fieldstone/fieldstone/core/ByteReader" "position" "I" (.int (own_from p1)) := fq11_2
  have f17 : Fld Z T11.heap b4 "com/example/fieldstone/fieldstone/core/ByteReader" "end" "I" (.int (own_to p1 p2)) := fq11_3
  have Zs18 : n0 ≤ T11.heap.size := Nat.le_trans Zs7 Kc11.1
  have N12 := Fr.app N0 Nq11
  obtain ⟨cq19, kq19, q19a, q19b, q19c⟩ := isOf hZ rfl fq11_0
  obtain ⟨_, _, ⟨T19, L19, k19, n19⟩, -, X19, ⟨Lc19, hQ19, l19, y19, z19⟩, st19⟩ := X11.virtualBack hx (y := (⟨"com/example/fieldstone/fieldstone/core/ByteReader", "hasRemaining", "()Z"⟩ : MethodName)) (z := (⟨"com/example/fieldstone/fieldstone/core/ByteReader", "hasRemaining", "()Z"⟩ : MethodName)) hown (mvT hZ (hw _ (List.mem_of_getElem? (i := 17) rfl))) (mvT hZ (hw _ (List.mem_of_getElem? (i := 18) rfl))) (notFace_of_selects (args := #[]) (mvT hZ (hw _ (List.mem_of_getElem? (i := 20) rfl)))) (mvT hZ (hw _ (List.mem_of_getElem? (i := 20) rfl))) (mvT hZ (hw _ (List.mem_of_getElem? (i := 19) rfl))) (by decide) (backOf (W := 0) (rm_has l Z a0 hw [] b4 (own_from p1) (own_to p1 p2) T11.heap n0 Zs18 f16 f17) hZ (hw _ (List.mem_of_getElem? (i := 21) rfl)) (hw _ (List.mem_of_getElem? (i := 4) rfl)) (by decide) (by decide)) q19a q19c (g := (mkF m 52 #[.val (.int p1), .val (.int p2), .val (.int p3), .val (.ref b1), .val (.int (own_from p1)), .val (.int (own_to p1 p2)), .val (.int (own_len p1 p2)), .val (.ref b4), .unset, .unset] [(.ref b4)])) rfl (by rw [hml]; rfl) (Steps.refl _) (argsL := []) (rest := []) (lenOf pd_2 rfl) rfl (by show 2 * 0 + _ ≤ _; exact Nat.le_of_eq rfl) (hb hby at_52) (fun _ _ => ⟨rfl, rfl, (by decide : 2 + 0 ≤ _), (by decide : 19 + 0 ≤ _)⟩)
  dsimp only [Pt.U, Pt.locs, Pt.cells, Pt.slots] at X19 l19 y19 z19 st19 hQ19
  subst l19 y19 z19
  obtain ⟨rfl, Nq19, e19⟩ := hQ19
  have N20 := Fr.app N12 Nq19
  obtain ⟨cq21, kq21, q21a, q21b, q21c⟩ := isOf hZ e19 fq11_0
  obtain ⟨_, _, ⟨T21, L21, k21, n21⟩, -, X21, ⟨Lc21, hQ21, l21, y21, z21⟩, st21⟩ := X19.virtualBack hx (y := (⟨"com/example/fieldstone/fieldstone/core/ByteReader", "skip", "(I)V"⟩ : MethodName)) (z := (⟨"com/example/fieldstone/fieldstone/core/ByteReader", "skip", "(I)V"⟩ : MethodName)) hown (mvT hZ (hw _ (List.mem_of_getElem? (i := 22) rfl))) (mvT hZ (hw _ (List.mem_of_getElem? (i := 23) rfl))) (notFace_of_selects (args := #[]) (mvT hZ (hw _ (List.mem_of_getElem? (i := 25) rfl)))) (mvT hZ (hw _ (List.mem_of_getElem? (i := 25) rfl))) (mvT hZ (hw _ (List.mem_of_getElem? (i := 24) rfl))) (by decide) (backOf (W := 0) (rm_skip l Z a0 hw [] b4 (own_k p1 p2 p3) (own_to p1 p2) (own_from p1) b1 T11.heap n0 Zs18 f17 f16 fq11_0 g_b4 f15 hp2 hp3) hZ (hw _ (List.mem_of_getElem? (i := 26) rfl)) (hw _ (List.mem_of_getElem? (i := 4) rfl)) (by decide) (by decide)) q21a q21c (g := (mkF m 90 #[.val (.int p1), .val (.int p2), .val (.int p3), .val (.ref b1), .val (.int (own_from p1)), .val (.int (own_to p1 p2)), .val (.int (own_len p1 p2)), .val (.ref b4), .val (.int (1 : Int32)), .val (.int (own_k p1 p2 p3))] [(.int (own_k p1 p2 p3)), (.ref b4)])) rfl (by rw [hml]; rfl) (Steps.refl _) (argsL := [(.int (own_k p1 p2 p3))]) (rest := []) (lenOf pd_0 rfl) rfl (by show 2 * 0 + _ ≤ _; exact Nat.le_of_eq rfl) (hb hby at_90) (fun _ _ => ⟨rfl, e19, (by decide : 2 + 0 ≤ _), (by decide : 19 + 0 ≤ _)⟩)
  dsimp only [Pt.U, Pt.locs, Pt.cells, Pt.slots] at X21 l21 y21 z21 st21 hQ21
  subst l21 y21 z21
  obtain ⟨rfl, Nq21, Kc21, fq21_0, fq21_1, fq21_2, fq21_3⟩ := hQ21
  have f23 : Exa Z T21.heap b1 "[B" := f13.keep Kc21
  have f24 : Arv Z T21.heap b1 k1 .byte (16 : Int32) [(.int (0 : Int32)), (.int (0 : Int32)), (.int (0 : Int32)), (.int (0 : Int32)), (.int (0 : Int32)), (.int (0 : Int32)), (.int (0 : Int32)), (.int (0 : Int32)), (.int (0 : Int32)), (.int (0 : Int32)), (.int (0 : Int32)), (.int (0 : Int32)), (.int (0 : Int32)), (.int (0 : Int32)), (.int (0 : Int32)), (.int (0 : Int32))] (.int (0 : Int32)) := f14.keep Kc21 (ninS ne_b1_b4 nin0)
  have f25 : Fld Z T21.heap b4 "com/example/fieldstone/fieldstone/core/ByteReader" "end" "I" (.int (own_to p1 p2)) := fq21_0
  have f26 : Fld Z T21.heap b4 "com/example/fieldstone/fieldstone/core/ByteReader" "position" "I" (.int ((own_from p1) + (own_k p1 p2 p3))) := fq21_1
  have f27 : Fld Z T21.heap b4 "com/example/fieldstone/fieldstone/core/ByteReader" "bytes" "[B" (.ref b1) := fq21_3
  have Zs28 : n0 ≤ T21.heap.size := Nat.le_trans Zs18 Kc21.1
  have N22 := Fr.app N20 Nq21
  obtain ⟨cq29, kq29, q29a, q29b, q29c⟩ := isOf hZ rfl fq21_2
  obtain ⟨_, _, ⟨T29, L29, k29, n29⟩, -, X29, ⟨Lc29, hQ29, l29, y29, z29⟩, st29⟩ := X21.virtualBack hx (y := (⟨"com/example/fieldstone/fieldstone/core/ByteReader", "hasRemaining", "()Z"⟩ : MethodName)) (z := (⟨"com/example/fieldstone/fieldstone/core/ByteReader", "hasRemaining", "()Z"⟩ : MethodName)) hown (mvT hZ (hw _ (List.mem_of_getElem? (i := 17) rfl))) (mvT hZ (hw _ (List.mem_of_getElem? (i := 18) rfl))) (notFace_of_selects (args := #[]) (mvT hZ (hw _ (List.mem_of_getElem? (i := 20) rfl)))) (mvT hZ (hw _ (List.mem_of_getElem? (i := 20) rfl))) (mvT hZ (hw _ (List.mem_of_getElem? (i := 19) rfl))) (by decide) (backOf (W := 0) (rm_has l Z a0 hw [] b4 ((own_from p1) + (own_k p1 p2 p3)) (own_to p1 p2) T21.heap n0 Zs28 f26 f25) hZ (hw _ (List.mem_of_getElem? (i := 21) rfl)) (hw _ (List.mem_of_getElem? (i := 4) rfl)) (by decide) (by decide)) q29a q29c (g := (mkF m 100 #[.val (.int p1), .val (.int p2), .val (.int p3), .val (.ref b1), .val (.int (own_from p1)), .val (.int (own_to p1 p2)), .val (.int (own_len p1 p2)), .val (.ref b4), .val (.int (1 : Int32)), .val (.int (own_k p1 p2 p3))] [(.ref b4)])) rfl (by rw [hml]; rfl) (Steps.refl _) (argsL := []) (rest := []) (lenOf pd_2 rfl) rfl (by show 2 * 0 + _ ≤ _; exact Nat.le_of_eq rfl) (hb hby at_100) (fun _ _ => ⟨rfl, rfl, (by decide : 2 + 0 ≤ _), (by decide : 19 + 0 ≤ _)⟩)
  dsimp only [Pt.U, Pt.locs, Pt.cells, Pt.slots] at X29 l29 y29 z29 st29 hQ29
  subst l29 y29 z29
  obtain ⟨rfl, Nq29, e29⟩ := hQ29
  have N30 := Fr.app N22 Nq29
  obtain ⟨cq31, kq31, q31a, q31b, q31c⟩ := isOf hZ e29 fq21_2
  obtain ⟨_, _, ⟨T31, L31, k31, n31⟩, -, X31, ⟨Lc31, hQ31, l31, y31, z31⟩, st31⟩ := X29.virtualBack hx (y := (⟨"com/example/fieldstone/fieldstone/core/ByteReader", "get", "()B"⟩ : MethodName)) (z := (⟨"com/example/fieldstone/fieldstone/core/ByteReader", "get", "()B"⟩ : MethodName)) hown (mvT hZ (hw _ (List.mem_of_getElem? (i := 31) rfl))) (mvT hZ (hw _ (List.mem_of_getElem? (i := 32) rfl))) (notFace_of_selects (args := #[]) (mvT hZ (hw _ (List.mem_of_getElem? (i := 34) rfl)))) (mvT hZ (hw _ (List.mem_of_getElem? (i := 34) rfl))) (mvT hZ (hw _ (List.mem_of_getElem? (i := 33) rfl))) (by decide) (backOf (W := 0) (rm_get l Z a0 hw [] b4 ((own_from p1) + (own_k p1 p2 p3)) (own_to p1 p2) b1 k1 (16 : Int32) [(.int (0 : Int32)), (.int (0 : Int32)), (.int (0 : Int32)), (.int (0 : Int32)), (.int (0 : Int32)), (.int (0 : Int32)), (.int (0 : Int32)), (.int (0 : Int32)), (.int (0 : Int32)), (.int (0 : Int32)), (.int (0 : Int32)), (.int (0 : Int32)), (.int (0 : Int32)), (.int (0 : Int32)), (.int (0 : Int32)), (.int (0 : Int32))] T21.heap n0 Zs28 f26 f25 f27 fq21_2 g_b4 f24 ne_b1_b4 hp4 hp5 hp6) hZ (hw _ (List.mem_of_getElem? (i := 35) rfl)) (hw _ (List.mem_of_getElem? (i := 4) rfl)) (by decide) (by decide)) q31a q31c (g := (mkF m 134 #[.val (.int p1), .val (.int p2), .val (.int p3), .val (.ref b1), .val (.int (own_from p1)), .val (.int (own_to p1 p2)), .val (.int (own_len p1 p2)), .val (.ref b4), .val (.int (1 : Int32)), .val (.int (own_k p1 p2 p3))] [(.ref b4)])) rfl (by rw [hml]; rfl) (Steps.refl _) (argsL := []) (rest := []) (lenOf pd_3 rfl) rfl (by show 2 * 0 + _ ≤ _; exact Nat.le_of_eq rfl) (hb hby at_134) (fun _ _ => ⟨rfl, e29, (by decide : 2 + 0 ≤ _), (by decide : 19 + 0 ≤ _)⟩)
  dsimp only [Pt.U, Pt.locs, Pt.cells, Pt.slots] at X31 l31 y31 z31 st31 hQ31
  subst l31 y31 z31
  obtain ⟨rfl, Nq31, Kc31, fq31_0, fq31_1, fq31_2, fq31_3⟩ := hQ31
  have f33 : Exa Z T31.heap b1 "[B" := f23.keep Kc31
  have f34 : Arv Z T31.heap b1 k1 .byte (16 : Int32) [(.int (0 : Int32)), (.int (0 : Int32)), (.int (0 : Int32)), (.int (0 : Int32)), (.int (0 : Int32)), (.int (0 : Int32)), (.int (0 : Int32)), (.int (0 : Int32)), (.int (0 : Int32)), (.int (0 : Int32)), (.int (0 : Int32)), (.int (0 : Int32)), (.int (0 : Int32)), (.int (0 : Int32)), (.int (0 : Int32)), (.int (0 : Int32))] (.int (0 : Int32)) := f24.keep Kc31 (ninS ne_b1_b4 nin0)
  have f35 : Fld Z T31.heap b4 "com/example/fieldstone/fieldstone/core/ByteReader" "position" "I" (.int (((own_from p1) + (own_k p1 p2 p3)) + (1 : Int32))) := fq31_0
  have f36 : Fld Z T31.heap b4 "com/example/fieldstone/fieldstone/core/ByteReader" "end" "I" (.int (own_to p1 p2)) := fq31_1
  have f37 : Fld Z T31.heap b4 "com/example/fieldstone/fieldstone/core/ByteReader" "bytes" "[B" (.ref b1) := fq31_2
  have Zs38 : n0 ≤ T31.heap.size := Nat.le_trans Zs28 Kc31.1
  have N32 := Fr.app N30 Nq31
  obtain ⟨cq39, kq39, q39a, q39b, q39c⟩ := isOf hZ rfl fq31_3
  obtain ⟨_, _, ⟨T39, L39, k39, n39⟩, -, X39, ⟨Lc39, hQ39, l39, y39, z39⟩, st39⟩ := X31.virtualBack hx (y := (⟨"com/example/fieldstone/fieldstone/core/ByteReader", "hasRemaining", "()Z"⟩ : MethodName)) (z := (⟨"com/example/fieldstone/fieldstone/core/ByteReader", "hasRemaining", "()Z"⟩ : MethodName)) hown (mvT hZ (hw _ (List.mem_of_getElem? (i := 17) rfl))) (mvT hZ (hw _ (List.mem_of_getElem? (i := 18) rfl))) (notFace_of_selects (args := #[]) (mvT hZ (hw _ (List.mem_of_getElem? (i := 20) rfl)))) (mvT hZ (hw _ (List.mem_of_getElem? (i := 20) rfl))) (mvT hZ (hw _ (List.mem_of_getElem? (i := 19) rfl))) (by decide) (backOf (W := 0) (rm_has l Z a0 hw [] b4 (((own_from p1) + (own_k p1 p2 p3)) + (1 : Int32)) (own_to p1 p2) T31.heap n0 Zs38 f35 f36) hZ (hw _ (List.mem_of_getElem? (i := 21) rfl)) (hw _ (List.mem_of_getElem? (i := 4) rfl)) (by decide) (by decide)) q39a q39c (g := (mkF m 145 #[.val (.int p1), .val (.int p2), .val (.int p3), .val (.ref b1), .val (.int (own_from p1)), .val (.int (own_to p1 p2)), .val (.int (own_len p1 p2)), .val (.ref b4), .val (.int (1 : Int32)), .val (.int (own_k p1 p2 p3))] [(.ref b4)])) rfl (by rw [hml]; rfl) (Steps.refl _) (argsL := []) (rest := []) (lenOf pd_2 rfl) rfl (by show 2 * 0 + _ ≤ _; exact Nat.le_of_eq rfl) (hb hby at_145) (fun _ _ => ⟨rfl, rfl, (by decide : 2 + 0 ≤ _), (by decide : 19 + 0 ≤ _)⟩)
  dsimp only [Pt.U, Pt.locs, Pt.cells, Pt.slots] at X39 l39 y39 z39 st39 hQ39
  subst l39 y39 z39
  obtain ⟨rfl, Nq39, e39⟩ := hQ39
  have N40 := Fr.app N32 Nq39
  obtain ⟨fs, hr, hrun, hended, hW, hsame⟩ := X39.leave (v := some (.int (1 : Int32))) (fun h => by rw [Bd.returns] at h; cases h)
  refine ⟨_, _, pre0 _ ?_, hrun, hended, _, _, rfl, ?_, ⟨_, rfl⟩, hW, hsame.mono (by decide) (by decide)⟩
  · show Steps p.tables e below (s₁.setTop (mkF m 0 #[.val (.int p1), .val (.int p2), .val (.int p3), .unset, .unset, .unset, .unset, .unset, .unset, .unset] [])) _
    refine XS.bipush X0.here hx rfl (hb hby at_0) ?_
    show Steps p.tables e below (s₁.setTop (mkF m 2 #[.val (.int p1), .val (.int p2), .val (.int p3), .unset, .unset, .unset, .unset, .unset, .unset, .unset] [(.int (16 : Int32))])) _
    refine st1 _ ?_
    show Steps p.tables e below (T1.setTop (mkF m 4 #[.val (.int p1), .val (.int p2), .val (.int p3), .unset, .unset, .unset, .unset, .unset, .unset, .unset] [(.ref b1)])) _
    refine XS.astoreN X1.here hx rfl (hb hby at_4) rfl rfl (l' := #[.val (.int p1), .val (.int p2), .val (.int p3), .val (.ref b1), .unset, .unset, .unset, .unset, .unset, .unset]) rfl ?_
    show Steps p.tables e below (T1.setTop (mkF m 5 #[.val (.int p1), .val (.int p2), .val (.int p3), .val (.ref b1), .unset, .unset, .unset, .unset, .unset, .unset] [])) _
    refine XS.iloadN X1.here hx rfl (hb hby at_5) rfl ?_
    show Steps p.tables e below (T1.setTop (mkF m 6 #[.val (.int p1), .val (.int p2), .val (.int p3), .val (.ref b1), .unset, .unset, .unset, .unset, .unset, .unset] [(.int p1)])) _
    refine X1.ldcInt hx hown (mvT hZ (hw _ (List.mem_of_getElem? (i := 1) rfl))) (g := (mkF m 6 #[.val (.int p1), .val (.int p2), .val (.int p3), .val (.ref b1), .unset, .unset, .unset, .unset, .unset, .unset] [(.int p1)])) rfl (hb hby at_6) _ ?_
    show Steps p.tables e below (T1.setTop (mkF m 8 #[.val (.int p1), .val (.int p2), .val (.int p3), .val (.ref b1), .unset, .unset, .unset, .unset, .unset, .unset] [(.int (2147483647 : Int32)), (.int p1)])) _
    refine XS.iand X1.here hx rfl (hb hby at_8) rfl ?_
    show Steps p.tables e below (T1.setTop (mkF m 9 #[.val (.int p1), .val (.int p2), .val (.int p3), .val (.ref b1), .unset, .unset, .unset, .unset, .unset, .unset] [(.int (p1 &&& (2147483647 : Int32)))])) _
    refine XS.bipush X1.here hx rfl (hb hby at_9) ?_
    show Steps p.tables e below (T1.setTop (mkF m 11 #[.val (.int p1), .val (.int p2), .val (.int p3), .val (.ref b1), .unset, .unset, .unset, .unset, .unset, .unset] [(.int (17 : Int32)), (.int (p1 &&& (2147483647 : Int32)))])) _
    refine iremM X1 hx rfl (hb hby at_11) rfl (by decide) ?_
    show Steps p.tables e below (T1.setTop (mkF m 12 #[.val (.int p1), .val (.int p2), .val (.int p3), .val (.ref b1), .unset, .unset, .unset, .unset, .unset, .unset] [(.int ((p1 &&& (2147483647 : Int32)) % (17 : Int32)))])) _
    refine XS.istore X1.here hx rfl (hb hby at_12) rfl (l' := #[.val (.int p1), .val (.int p2), .val (.int p3), .val (.ref b1), .val (.int (own_from p1)), .unset, .unset, .unset, .unset, .unset]) rfl ?_
    show Steps p.tables e below (T1.setTop (mkF m 14 #[.val (.int p1), .val (.int p2), .val (.int p3), .val (.ref b1), .val (.int (own_from p1)), .unset, .unset, .unset, .unset, .unset] [])) _
    refine XS.iload X1.here hx rfl (hb hby at_14) rfl ?_
    show Steps p.tables e below (T1.setTop (mkF m 16 #[.val (.int p1), .val (.int p2), .val (.int p3), .val (.ref b1), .val (.int (own_from p1)), .unset, .unset, .unset, .unset, .unset] [(.int (own_from p1))])) _
    refine XS.iloadN X1.here hx rfl (hb hby at_16) rfl ?_
    show Steps p.tables e below (T1.setTop (mkF m 17 #[.val (.int p1), .val (.int p2), .val (.int p3), .val (.ref b1), .val (.int (own_from p1)), .unset, .unset, .unset, .unset, .unset] [(.int p2), (.int (own_from p1))])) _
    refine X1.ldcInt hx hown (mvT hZ (hw _ (List.mem_of_getElem? (i := 1) rfl))) (g := (mkF m 17 #[.val (.int p1), .val (.int p2), .val (.int p3), .val (.ref b1), .val (.int (own_from p1)), .unset, .unset, .unset, .unset, .unset] [(.int p2), (.int (own_from p1))])) rfl (hb hby at_17) _ ?_
    show Steps p.tables e below (T1.setTop (mkF m 19 #[.val (.int p1), .val (.int p2), .val (.int p3), .val (.ref b1), .val (.int (own_from p1)), .unset, .unset, .unset, .unset, .unset] [(.int (2147483647 : Int32)), (.int p2), (.int (own_from p1))])) _
    refine XS.iand X1.here hx rfl (hb hby at_19) rfl ?_
    show Steps p.tables e below (T1.setTop (mkF m 20 #[.val (.int p1), .val (.int p2), .val (.int p3), .val (.ref b1), .val (.int (own_from p1)), .unset, .unset, .unset, .unset, .unset] [(.int (p2 &&& (2147483647 : Int32))), (.int (own_from p1))])) _
    refine XS.bipush X1.here hx rfl (hb hby at_20) ?_
    show Steps p.tables e below (T1.setTop (mkF m 22 #[.val (.int p1), .val (.int p2), .val (.int p3), .val (.ref b1), .val (.int (own_from p1)), .unset, .unset, .unset, .unset, .unset] [(.int (17 : Int32)), (.int (p2 &&& (2147483647 : Int32))), (.int (own_from p1))])) _
    refine XS.iload X1.here hx rfl (hb hby at_22) rfl ?_
    show Steps p.tables e below (T1.setTop (mkF m 24 #[.val (.int p1), .val (.int p2), .val (.int p3), .val (.ref b1), .val (.int (own_from p1)), .unset, .unset, .unset, .unset, .unset] [(.int (own_from p1)), (.int (17 : Int32)), (.int (p2 &&& (2147483647 : Int32))), (.int (own_from p1))])) _
    refine XS.isub X1.here hx rfl (hb hby at_24) rfl ?_
    show Steps p.tables e below (T1.setTop (mkF m 25 #[.val (.int p1), .val (.int p2), .val (.int p3), .val (.ref b1), .val (.int (own_from p1)), .unset, .unset, .unset, .unset, .unset] [(.int ((17 : Int32) - (own_from p1))), (.int (p2 &&& (2147483647 : Int32))), (.int (own_from p1))])) _
    refine iremM X1 hx rfl (hb hby at_25) rfl hnz0 ?_
    show Steps p.tables e below (T1.setTop (mkF m 26 #[.val (.int p1), .val (.int p2), .val (.int p3), .val (.ref b1), .val (.int (own_from p1)), .unset, .unset, .unset, .unset, .unset] [(.int ((p2 &&& (2147483647 : Int32)) % ((17 : Int32) - (own_from p1)))), (.int (own_from p1))])) _
    refine XS.iadd X1.here hx rfl (hb hby at_26) rfl ?_
    show Steps p.tables e below (T1.setTop (mkF m 27 #[.val (.int p1), .val (.int p2), .val (.int p3), .val (.ref b1), .val (.int (own_from p1)), .unset, .unset, .unset, .unset, .unset] [(.int ((own_from p1) + ((p2 &&& (2147483647 : Int32)) % ((17 : Int32) - (own_from p1)))))])) _
    refine XS.istore X1.here hx rfl (hb hby at_27) rfl (l' := #[.val (.int p1), .val (.int p2), .val (.int p3), .val (.ref b1), .val (.int (own_from p1)), .val (.int (own_to p1 p2)), .unset, .unset, .unset, .unset]) rfl ?_
    show Steps p.tables e below (T1.setTop (mkF m 29 #[.val (.int p1), .val (.int p2), .val (.int p3), .val (.ref b1), .val (.int (own_from p1)), .val (.int (own_to p1 p2)), .unset, .unset, .unset, .unset] [])) _
    refine XS.iload X1.here hx rfl (hb hby at_29) rfl ?_
    show Steps p.tables e below (T1.setTop (mkF m 31 #[.val (.int p1), .val (.int p2), .val (.int p3), .val (.ref b1), .val (.int (own_from p1)), .val (.int (own_to p1 p2)), .unset, .unset, .unset, .unset] [(.int (own_to p1 p2))])) _
    refine XS.iload X1.here hx rfl (hb hby at_31) rfl ?_
    show Steps p.tables e below (T1.setTop (mkF m 33 #[.val (.int p1), .val (.int p2), .val (.int p3), .val (.ref b1), .val (.int (own_from p1)), .val (.int (own_to p1 p2)), .unset, .unset, .unset, .unset] [(.int (own_from p1)), (.int (own_to p1 p2))])) _
    refine XS.isub X1.here hx rfl (hb hby at_33) rfl ?_
    show Steps p.tables e below (T1.setTop (mkF m 34 #[.val (.int p1), .val (.int p2), .val (.int p3), .val (.ref b1), .val (.int (own_from p1)), .val (.int (own_to p1 p2)), .unset, .unset, .unset, .unset] [(.int ((own_to p1 p2) - (own_from p1)))])) _
    refine XS.istore X1.here hx rfl (hb hby at_34) rfl (l' := #[.val (.int p1), .val (.int p2), .val (.int p3), .val (.ref b1), .val (.int (own_from p1)), .val (.int (own_to p1 p2)), .val (.int (own_len p1 p2)), .unset, .unset, .unset]) rfl ?_
    show Steps p.tables e below (T1.setTop (mkF m 36 #[.val (.int p1), .val (.int p2), .val (.int p3), .val (.ref b1), .val (.int (own_from p1)), .val (.int (own_to p1 p2)), .val (.int (own_len p1 p2)), .unset, .unset, .unset] [])) _
    refine st4 _ ?_
    show Steps p.tables e below (T4.setTop (mkF m 39 #[.val (.int p1), .val (.int p2), .val (.int p3), .val (.ref b1), .val (.int (own_from p1)), .val (.int (own_to p1 p2)), .val (.int (own_len p1 p2)), .unset, .unset, .unset] [(.ref b4)])) _
    refine XS.dup X4.here hx rfl (hb hby at_39) rfl rfl ?_
    show Steps p.tables e below (T4.setTop (mkF m 40 #[.val (.int p1), .val (.int p2), .val (.int p3), .val (.ref b1), .val (.int (own_from p1)), .val (.int (own_to p1 p2)), .val (.int (own_len p1 p2)), .unset, .unset, .unset] [(.ref b4), (.ref b4)])) _
    refine XS.aloadN X4.here hx rfl (hb hby at_40) rfl rfl ?_
    show Steps p.tables e below (T4.setTop (mkF m 41 #[.val (.int p1), .val (.int p2), .val (.int p3), .val (.ref b1), .val (.int (own_from p1)), .val (.int (own_to p1 p2)), .val (.int (own_len p1 p2)), .unset, .unset, .unset] [(.ref b1), (.ref b4), (.ref b4)])) _
    refine XS.iload X4.here hx rfl (hb hby at_41) rfl ?_
    show Steps p.tables e below (T4.setTop (mkF m 43 #[.val (.int p1), .val (.int p2), .val (.int p3), .val (.ref b1), .val (.int (own_from p1)), .val (.int (own_to p1 p2)), .val (.int (own_len p1 p2)), .unset, .unset, .unset] [(.int (own_from p1)), (.ref b1), (.ref b4), (.ref b4)])) _
    refine XS.iload X4.here hx rfl (hb hby at_43) rfl ?_
    show Steps p.tables e below (T4.setTop (mkF m 45 #[.val (.int p1), .val (.int p2), .val (.int p3), .val (.ref b1), .val (.int (own_from p1)), .val (.int (own_to p1 p2)), .val (.int (own_len p1 p2)), .unset, .unset, .unset] [(.int (own_to p1 p2)), (.int (own_from p1)), (.ref b1), (.ref b4), (.ref b4)])) _
    refine st11.trans ?_
    show Steps p.tables e below (T11.setTop (mkF m 48 #[.val (.int p1), .val (.int p2), .val (.int p3), .val (.ref b1), .val (.int (own_from p1)), .val (.int (own_to p1 p2)), .val (.int (own_len p1 p2)), .unset, .unset, .unset] [(.ref b4)])) _
    refine XS.astore X11.here hx rfl (hb hby at_48) rfl rfl (l' := #[.val (.int p1), .val (.int p2), .val (.int p3), .val (.ref b1), .val (.int (own_from p1)), .val (.int (own_to p1 p2)), .val (.int (own_len p1 p2)), .val (.ref b4), .unset, .unset]) rfl ?_
    show Steps p.tables e below (T11.setTop (mkF m 50 #[.val (.int p1), .val (.int p2), .val (.int p3), .val (.ref b1), .val (.int (own_from p1)), .val (.int (own_to p1 p2)), .val (.int (own_len p1 p2)), .val (.ref b4), .unset, .unset] [])) _
    refine XS.aload X11.here hx rfl (hb hby at_50) rfl rfl ?_
    show Steps p.tables e below (T11.setTop (mkF m 52 #[.val (.int p1), .val (.int p2), .val (.int p3), .val (.ref b1), .val (.int (own_from p1)), .val (.int (own_to p1 p2)), .val (.int (own_len p1 p2)), .val (.ref b4), .unset, .unset] [(.ref b4)])) _
    refine st19.trans ?_
    show Steps p.tables e below (T19.setTop (mkF m 55 #[.val (.int p1), .val (.int p2), .val (.int p3), .val (.ref b1), .val (.int (own_from p1)), .val (.int (own_to p1 p2)), .val (.int (own_len p1 p2)), .val (.ref b4), .unset, .unset] [(.int (f_has (own_from p1) (own_to p1 p2)))])) _
    refine XS.iload X19.here hx rfl (hb hby at_55) rfl ?_
    show Steps p.tables e below (T19.setTop (mkF m 57 #[.val (.int p1), .val (.int p2), .val (.int p3), .val (.ref b1), .val (.int (own_from p1)), .val (.int (own_to p1 p2)), .val (.int (own_len p1 p2)), .val (.ref b4), .unset, .unset] [(.int (own_len p1 p2)), (.int (f_has (own_from p1) (own_to p1 p2)))])) _
    refine XS.ifNo X19.here hx rfl (hb hby at_57) rfl ((if0 _ _).trans (tlt hc0).2.2.2) ?_
    show Steps p.tables e below (T19.setTop (mkF m 60 #[.val (.int p1), .val (.int p2), .val (.int p3), .val (.ref b1), .val (.int (own_from p1)), .val (.int (own_to p1 p2)), .val (.int (own_len p1 p2)), .val (.ref b4), .unset, .unset] [(.int (f_has (own_from p1) (own_to p1 p2)))])) _
    refine XS.iconst X19.here hx rfl (hb hby at_60) ?_
    show Steps p.tables e below (T19.setTop (mkF m 61 #[.val (.int p1), .val (.int p2), .val (.int p3), .val (.ref b1), .val (.int (own_from p1)), .val (.int (own_to p1 p2)), .val (.int (own_len p1 p2)), .val (.ref b4), .unset, .unset] [(.int (1 : Int32)), (.int (f_has (own_from p1) (own_to p1 p2)))])) _
    refine XS.goto X19.here hx rfl (pc0 := 61) (pc' := 65) rfl (hb hby at_61) (by decide) (by decide) ?_
    show Steps p.tables e below (T19.setTop (mkF m 65 #[.val (.int p1), .val (.int p2), .val (.int p3), .val (.ref b1), .val (.int (own_from p1)), .val (.int (own_to p1 p2)), .val (.int (own_len p1 p2)), .val (.ref b4), .unset, .unset] [(.int (1 : Int32)), (.int (f_has (own_from p1) (own_to p1 p2)))])) _
    refine XS.icmpNo X19.here hx rfl (hb hby at_65) rfl (teq hc1).2 ?_
    show Steps p.tables e below (T19.setTop (mkF m 68 #[.val (.int p1), .val (.int p2), .val (.int p3), .val (.ref b1), .val (.int (own_from p1)), .val (.int (own_to p1 p2)), .val (.int (own_len p1 p2)), .val (.ref b4), .unset, .unset] [])) _
    refine XS.iconst X19.here hx rfl (hb hby at_68) ?_
    show Steps p.tables e below (T19.setTop (mkF m 69 #[.val (.int p1), .val (.int p2), .val (.int p3), .val (.ref b1), .val (.int (own_from p1)), .val (.int (own_to p1 p2)), .val (.int (own_len p1 p2)), .val (.ref b4), .unset, .unset] [(.int (1 : Int32))])) _
    refine XS.goto X19.here hx rfl (pc0 := 69) (pc' := 73) rfl (hb hby at_69) (by decide) (by decide) ?_
    show Steps p.tables e below (T19.setTop (mkF m 73 #[.val (.int p1), .val (.int p2), .val (.int p3), .val (.ref b1), .val (.int (own_from p1)), .val (.int (own_to p1 p2)), .val (.int (own_len p1 p2)), .val (.ref b4), .unset, .unset] [(.int (1 : Int32))])) _
    refine XS.istore X19.here hx rfl (hb hby at_73) rfl (l' := #[.val (.int p1), .val (.int p2), .val (.int p3), .val (.ref b1), .val (.int (own_from p1)), .val (.int (own_to p1 p2)), .val (.int (own_len p1 p2)), .val (.ref b4), .val (.int (1 : Int32)), .unset]) rfl ?_
    show Steps p.tables e below (T19.setTop (mkF m 75 #[.val (.int p1), .val (.int p2), .val (.int p3), .val (.ref b1), .val (.int (own_from p1)), .val (.int (own_to p1 p2)), .val (.int (own_len p1 p2)), .val (.ref b4), .val (.int (1 : Int32)), .unset] [])) _
    refine XS.iloadN X19.here hx rfl (hb hby at_75) rfl ?_
    show Steps p.tables e below (T19.setTop (mkF m 76 #[.val (.int p1), .val (.int p2), .val (.int p3), .val (.ref b1), .val (.int (own_from p1)), .val (.int (own_to p1 p2)), .val (.int (own_len p1 p2)), .val (.ref b4), .val (.int (1 : Int32)), .unset] [(.int p3)])) _
    refine X19.ldcInt hx hown (mvT hZ (hw _ (List.mem_of_getElem? (i := 1) rfl))) (g := (mkF m 76 #[.val (.int p1), .val (.int p2), .val (.int p3), .val (.ref b1), .val (.int (own_from p1)), .val (.int (own_to p1 p2)), .val (.int (own_len p1 p2)), .val (.ref b4), .val (.int (1 : Int32)), .unset] [(.int p3)])) rfl (hb hby at_76) _ ?_
    show Steps p.tables e below (T19.setTop (mkF m 78 #[.val (.int p1), .val (.int p2), .val (.int p3), .val (.ref b1), .val (.int (own_from p1)), .val (.int (own_to p1 p2)), .val (.int (own_len p1 p2)), .val (.ref b4), .val (.int (1 : Int32)), .unset] [(.int (2147483647 : Int32)), (.int p3)])) _
    refine XS.iand X19.here hx rfl (hb hby at_78) rfl ?_
    show Steps p.tables e below (T19.setTop (mkF m 79 #[.val (.int p1), .val (.int p2), .val (.int p3), .val (.ref b1), .val (.int (own_from p1)), .val (.int (own_to p1 p2)), .val (.int (own_len p1 p2)), .val (.ref b4), .val (.int (1 : Int32)), .unset] [(.int (p3 &&& (2147483647 : Int32)))])) _
    refine XS.iload X19.here hx rfl (hb hby at_79) rfl ?_
    show Steps p.tables e below (T19.setTop (mkF m 81 #[.val (.int p1), .val (.int p2), .val (.int p3), .val (.ref b1), .val (.int (own_from p1)), .val (.int (own_to p1 p2)), .val (.int (own_len p1 p2)), .val (.ref b4), .val (.int (1 : Int32)), .unset] [(.int (own_len p1 p2)), (.int (p3 &&& (2147483647 : Int32)))])) _
    refine XS.iconst X19.here hx rfl (hb hby at_81) ?_
    show Steps p.tables e below (T19.setTop (mkF m 82 #[.val (.int p1), .val (.int p2), .val (.int p3), .val (.ref b1), .val (.int (own_from p1)), .val (.int (own_to p1 p2)), .val (.int (own_len p1 p2)), .val (.ref b4), .val (.int (1 : Int32)), .unset] [(.int (1 : Int32)), (.int (own_len p1 p2)), (.int (p3 &&& (2147483647 : Int32)))])) _
    refine XS.iadd X19.here hx rfl (hb hby at_82) rfl ?_
    show Steps p.tables e below (T19.setTop (mkF m 83 #[.val (.int p1), .val (.int p2), .val (.int p3), .val (.ref b1), .val (.int (own_from p1)), .val (.int (own_to p1 p2)), .val (.int (own_len p1 p2)), .val (.ref b4), .val (.int (1 : Int32)), .unset] [(.int ((own_len p1 p2) + (1 : Int32))), (.int (p3 &&& (2147483647 : Int32)))])) _
    refine iremM X19 hx rfl (hb hby at_83) rfl hnz1 ?_
    show Steps p.tables e below (T19.setTop (mkF m 84 #[.val (.int p1), .val (.int p2), .val (.int p3), .val (.ref b1), .val (.int (own_from p1)), .val (.int (own_to p1 p2)), .val (.int (own_len p1 p2)), .val (.ref b4), .val (.int (1 : Int32)), .unset] [(.int ((p3 &&& (2147483647 : Int32)) % ((own_len p1 p2) + (1 : Int32))))])) _
    refine XS.istore X19.here hx rfl (hb hby at_84) rfl (l' := #[.val (.int p1), .val (.int p2), .val (.int p3), .val (.ref b1), .val (.int (own_from p1)), .val (.int (own_to p1 p2)), .val (.int (own_len p1 p2)), .val (.ref b4), .val (.int (1 : Int32)), .val (.int (own_k p1 p2 p3))]) rfl ?_
    show Steps p.tables e below (T19.setTop (mkF m 86 #[.val (.int p1), .val (.int p2), .val (.int p3), .val (.ref b1), .val (.int (own_from p1)), .val (.int (own_to p1 p2)), .val (.int (own_len p1 p2)), .val (.ref b4), .val (.int (1 : Int32)), .val (.int (own_k p1 p2 p3))] [])) _
    refine XS.aload X19.here hx rfl (hb hby at_86) rfl rfl ?_
    show Steps p.tables e below (T19.setTop (mkF m 88 #[.val (.int p1), .val (.int p2), .val (.int p3), .val (.ref b1), .val (.int (own_from p1)), .val (.int (own_to p1 p2)), .val (.int (own_len p1 p2)), .val (.ref b4), .val (.int (1 : Int32)), .val (.int (own_k p1 p2 p3))] [(.ref b4)])) _
    refine XS.iload X19.here hx rfl (hb hby at_88) rfl ?_
    show Steps p.tables e below (T19.setTop (mkF m 90 #[.val (.int p1), .val (.int p2), .val (.int p3), .val (.ref b1), .val (.int (own_from p1)), .val (.int (own_to p1 p2)), .val (.int (own_len p1 p2)), .val (.ref b4), .val (.int (1 : Int32)), .val (.int (own_k p1 p2 p3))] [(.int (own_k p1 p2 p3)), (.ref b4)])) _
    refine st21.trans ?_
    show Steps p.tables e below (T21.setTop (mkF m 93 #[.val (.int p1), .val (.int p2), .val (.int p3), .val (.ref b1), .val (.int (own_from p1)), .val (.int (own_to p1 p2)), .val (.int (own_len p1 p2)), .val (.ref b4), .val (.int (1 : Int32)), .val (.int (own_k p1 p2 p3))] [])) _
    refine XS.iload X21.here hx rfl (hb hby at_93) rfl ?_
    show Steps p.tables e below (T21.setTop (mkF m 95 #[.val (.int p1), .val (.int p2), .val (.int p3), .val (.ref b1), .val (.int (own_from p1)), .val (.int (own_to p1 p2)), .val (.int (own_len p1 p2)), .val (.ref b4), .val (.int (1 : Int32)), .val (.int (own_k p1 p2 p3))] [(.int (1 : Int32))])) _
    refine XS.ifNo X21.here hx rfl (hb hby at_95) rfl ((if0 _ _).trans (feq (by decide : ¬ ((1 : Int32) = (0 : Int32)))).1) ?_
    show Steps p.tables e below (T21.setTop (mkF m 98 #[.val (.int p1), .val (.int p2), .val (.int p3), .val (.ref b1), .val (.int (own_from p1)), .val (.int (own_to p1 p2)), .val (.int (own_len p1 p2)), .val (.ref b4), .val (.int (1 : Int32)), .val (.int (own_k p1 p2 p3))] [])) _
    refine XS.aload X21.here hx rfl (hb hby at_98) rfl rfl ?_
    show Steps p.tables e below (T21.setTop (mkF m 100 #[.val (.int p1), .val (.int p2), .val (.int p3), .val (.ref b1), .val (.int (own_from p1)), .val (.int (own_to p1 p2)), .val (.int (own_len p1 p2)), .val (.ref b4), .val (.int (1 : Int32)), .val (.int (own_k p1 p2 p3))] [(.ref b4)])) _
    refine st29.trans ?_
    show Steps p.tables e below (T29.setTop (mkF m 103 #[.val (.int p1), .val (.int p2), .val (.int p3), .val (.ref b1), .val (.int (own_from p1)), .val (.int (own_to p1 p2)), .val (.int (own_len p1 p2)), .val (.ref b4), .val (.int (1 : Int32)), .val (.int (own_k p1 p2 p3))] [(.int (f_has ((own_from p1) + (own_k p1 p2 p3)) (own_to p1 p2)))])) _
    refine XS.iload X29.here hx rfl (hb hby at_103) rfl ?_
    show Steps p.tables e below (T29.setTop (mkF m 105 #[.val (.int p1), .val (.int p2), .val (.int p3), .val (.ref b1), .val (.int (own_from p1)), .val (.int (own_to p1 p2)), .val (.int (own_len p1 p2)), .val (.ref b4), .val (.int (1 : Int32)), .val (.int (own_k p1 p2 p3))] [(.int (own_k p1 p2 p3)), (.int (f_has ((own_from p1) + (own_k p1 p2 p3)) (own_to p1 p2)))])) _
    refine XS.iload X29.here hx rfl (hb hby at_105) rfl ?_
    show Steps p.tables e below (T29.setTop (mkF m 107 #[.val (.int p1), .val (.int p2), .val (.int p3), .val (.ref b1), .val (.int (own_from p1)), .val (.int (own_to p1 p2)), .val (.int (own_len p1 p2)), .val (.ref b4), .val (.int (1 : Int32)), .val (.int (own_k p1 p2 p3))] [(.int (own_len p1 p2)), (.int (own_k p1 p2 p3)), (.int (f_has ((own_from p1) + (own_k p1 p2 p3)) (own_to p1 p2)))])) _
    refine XS.icmpNo X29.here hx rfl (hb hby at_107) rfl (tlt hc2).2.1 ?_
    show Steps p.tables e below (T29.setTop (mkF m 110 #[.val (.int p1), .val (.int p2), .val (.int p3), .val (.ref b1), .val (.int (own_from p1)), .val (.int (own_to p1 p2)), .val (.int (own_len p1 p2)), .val (.ref b4), .val (.int (1 : Int32)), .val (.int (own_k p1 p2 p3))] [(.int (f_has ((own_from p1) + (own_k p1 p2 p3)) (own_to p1 p2)))])) _
    refine XS.iconst X29.here hx rfl (hb hby at_110) ?_
    show Steps p.tables e below (T29.setTop (mkF m 111 #[.val (.int p1), .val (.int p2), .val (.int p3), .val (.ref b1), .val (.int (own_from p1)), .val (.int (own_to p1 p2)), .val (.int (own_len p1 p2)), .val (.ref b4), .val (.int (1 : Int32)), .val (.int (own_k p1 p2 p3))] [(.int (1 : Int32)), (.int (f_has ((own_from p1) + (own_k p1 p2 p3)) (own_to p1 p2)))])) _
    refine XS.goto X29.here hx rfl (pc0 := 111) (pc' := 115) rfl (hb hby at_111) (by decide) (by decide) ?_
    show Steps p.tables e below (T29.setTop (mkF m 115 #[.val (.int p1), .val (.int p2), .val (.int p3), .val (.ref b1), .val (.int (own_from p1)), .val (.int (own_to p1 p2)), .val (.int (own_len p1 p2)), .val (.ref b4), .val (.int (1 : Int32)), .val (.int (own_k p1 p2 p3))] [(.int (1 : Int32)), (.int (f_has ((own_from p1) + (own_k p1 p2 p3)) (own_to p1 p2)))])) _
    refine XS.icmpNo X29.here hx rfl (hb hby at_115) rfl (teq hc3).2 ?_
    show Steps p.tables e below (T29.setTop (mkF m 118 #[.val (.int p1), .val (.int p2), .val (.int p3), .val (.ref b1), .val (.int (own_from p1)), .val (.int (own_to p1 p2)), .val (.int (own_len p1 p2)), .val (.ref b4), .val (.int (1 : Int32)), .val (.int (own_k p1 p2 p3))] [])) _
    refine XS.iconst X29.here hx rfl (hb hby at_118) ?_
    show Steps p.tables e below (T29.setTop (mkF m 119 #[.val (.int p1), .val (.int p2), .val (.int p3), .val (.ref b1), .val (.int (own_from p1)), .val (.int (own_to p1 p2)), .val (.int (own_len p1 p2)), .val (.ref b4), .val (.int (1 : Int32)), .val (.int (own_k p1 p2 p3))] [(.int (1 : Int32))])) _
    refine XS.goto X29.here hx rfl (pc0 := 119) (pc' := 123) rfl (hb hby at_119) (by decide) (by decide) ?_
    show Steps p.tables e below (T29.setTop (mkF m 123 #[.val (.int p1), .val (.int p2), .val (.int p3), .val (.ref b1), .val (.int (own_from p1)), .val (.int (own_to p1 p2)), .val (.int (own_len p1 p2)), .val (.ref b4), .val (.int (1 : Int32)), .val (.int (own_k p1 p2 p3))] [(.int (1 : Int32))])) _
    refine XS.istore X29.here hx rfl (hb hby at_123) rfl (l' := #[.val (.int p1), .val (.int p2), .val (.int p3), .val (.ref b1), .val (.int (own_from p1)), .val (.int (own_to p1 p2)), .val (.int (own_len p1 p2)), .val (.ref b4), .val (.int (1 : Int32)), .val (.int (own_k p1 p2 p3))]) rfl ?_
    show Steps p.tables e below (T29.setTop (mkF m 125 #[.val (.int p1), .val (.int p2), .val (.int p3), .val (.ref b1), .val (.int (own_from p1)), .val (.int (own_to p1 p2)), .val (.int (own_len p1 p2)), .val (.ref b4), .val (.int (1 : Int32)), .val (.int (own_k p1 p2 p3))] [])) _
    refine XS.iload X29.here hx rfl (hb hby at_125) rfl ?_
    show Steps p.tables e below (T29.setTop (mkF m 127 #[.val (.int p1), .val (.int p2), .val (.int p3), .val (.ref b1), .val (.int (own_from p1)), .val (.int (own_to p1 p2)), .val (.int (own_len p1 p2)), .val (.ref b4), .val (.int (1 : Int32)), .val (.int (own_k p1 p2 p3))] [(.int (own_k p1 p2 p3))])) _
    refine XS.iload X29.here hx rfl (hb hby at_127) rfl ?_
    show Steps p.tables e below (T29.setTop (mkF m 129 #[.val (.int p1), .val (.int p2), .val (.int p3), .val (.ref b1), .val (.int (own_from p1)), .val (.int (own_to p1 p2)), .val (.int (own_len p1 p2)), .val (.ref b4), .val (.int (1 : Int32)), .val (.int (own_k p1 p2 p3))] [(.int (own_len p1 p2)), (.int (own_k p1 p2 p3))])) _
    refine XS.icmpNo X29.here hx rfl (hb hby at_129) rfl (tlt hc2).2.1 ?_
    show Steps p.tables e below (T29.setTop (mkF m 132 #[.val (.int p1), .val (.int p2), .val (.int p3), .val (.ref b1), .val (.int (own_from p1)), .val (.int (own_to p1 p2)), .val (.int (own_len p1 p2)), .val (.ref b4), .val (.int (1 : Int32)), .val (.int (own_k p1 p2 p3))] [])) _
    refine XS.aload X29.here hx rfl (hb hby at_132) rfl rfl ?_
    show Steps p.tables e below (T29.setTop (mkF m 134 #[.val (.int p1), .val (.int p2), .val (.int p3), .val (.ref b1), .val (.int (own_from p1)), .val (.int (own_to p1 p2)), .val (.int (own_len p1 p2)), .val (.ref b4), .val (.int (1 : Int32)), .val (.int (own_k p1 p2 p3))] [(.ref b4)])) _
    refine st31.trans ?_
    show Steps p.tables e below (T31.setTop (mkF m 137 #[.val (.int p1), .val (.int p2), .val (.int p3), .val (.ref b1), .val (.int (own_from p1)), .val (.int (own_to p1 p2)), .val (.int (own_len p1 p2)), .val (.ref b4), .val (.int (1 : Int32)), .val (.int (own_k p1 p2 p3))] [(.int ((own_at [(.int (0 : Int32)), (.int (0 : Int32)), (.int (0 : Int32)), (.int (0 : Int32)), (.int (0 : Int32)), (.int (0 : Int32)), (.int (0 : Int32)), (.int (0 : Int32)), (.int (0 : Int32)), (.int (0 : Int32)), (.int (0 : Int32)), (.int (0 : Int32)), (.int (0 : Int32)), (.int (0 : Int32)), (.int (0 : Int32)), (.int (0 : Int32))] (((own_from p1) + (own_k p1 p2 p3))).toNatClampNeg (.int (0 : Int32))).toInt8.toInt32))])) _
    refine XS.pop X31.here hx rfl (hb hby at_137) rfl rfl ?_
    show Steps p.tables e below (T31.setTop (mkF m 138 #[.val (.int p1), .val (.int p2), .val (.int p3), .val (.ref b1), .val (.int (own_from p1)), .val (.int (own_to p1 p2)), .val (.int (own_len p1 p2)), .val (.ref b4), .val (.int (1 : Int32)), .val (.int (own_k p1 p2 p3))] [])) _
    refine XS.iload X31.here hx rfl (hb hby at_138) rfl ?_
    show Steps p.tables e below (T31.setTop (mkF m 140 #[.val (.int p1), .val (.int p2), .val (.int p3), .val (.ref b1), .val (.int (own_from p1)), .val (.int (own_to p1 p2)), .val (.int (own_len p1 p2)), .val (.ref b4), .val (.int (1 : Int32)), .val (.int (own_k p1 p2 p3))] [(.int (1 : Int32))])) _
    refine XS.ifNo X31.here hx rfl (hb hby at_140) rfl ((if0 _ _).trans (feq (by decide : ¬ ((1 : Int32) = (0 : Int32)))).1) ?_
    show Steps p.tables e below (T31.setTop (mkF m 143 #[.val (.int p1), .val (.int p2), .val (.int p3), .val (.ref b1), .val (.int (own_from p1)), .val (.int (own_to p1 p2)), .val (.int (own_len p1 p2)), .val (.ref b4), .val (.int (1 : Int32)), .val (.int (own_k p1 p2 p3))] [])) _
    refine XS.aload X31.here hx rfl (hb hby at_143) rfl rfl ?_
    show Steps p.tables e below (T31.setTop (mkF m 145 #[.val (.int p1), .val (.int p2), .val (.int p3), .val (.ref b1), .val (.int (own_from p1)), .val (.int (own_to p1 p2)), .val (.int (own_len p1 p2)), .val (.ref b4), .val (.int (1 : Int32)), .val (.int (own_k p1 p2 p3))] [(.ref b4)])) _
    refine st39.trans ?_
    show Steps p.tables e below (T39.setTop (mkF m 148 #[.val (.int p1), .val (.int p2), .val (.int p3), .val (.ref b1), .val (.int (own_from p1)), .val (.int (own_to p1 p2)), .val (.int (own_len p1 p2)), .val (.ref b4), .val (.int (1 : Int32)), .val (.int (own_k p1 p2 p3))] [(.int (f_has (((own_from p1) + (own_k p1 p2 p3)) + (1 : Int32)) (own_to p1 p2)))])) _
    refine XS.iload X39.here hx rfl (hb hby at_148) rfl ?_
    show Steps p.tables e below (T39.setTop (mkF m 150 #[.val (.int p1), .val (.int p2), .val (.int p3), .val (.ref b1), .val (.int (own_from p1)), .val (.int (own_to p1 p2)), .val (.int (own_len p1 p2)), .val (.ref b4), .val (.int (1 : Int32)), .val (.int (own_k p1 p2 p3))] [(.int (own_k p1 p2 p3)), (.int (f_has (((own_from p1) + (own_k p1 p2 p3)) + (1 : Int32)) (own_to p1 p2)))])) _
    refine XS.iconst X39.here hx rfl (hb hby at_150) ?_
    show Steps p.tables e below (T39.setTop (mkF m 151 #[.val (.int p1), .val (.int p2), .val (.int p3), .val (.ref b1), .val (.int (own_from p1)), .val (.int (own_to p1 p2)), .val (.int (own_len p1 p2)), .val (.ref b4), .val (.int (1 : Int32)), .val (.int (own_k p1 p2 p3))] [(.int (1 : Int32)), (.int (own_k p1 p2 p3)), (.int (f_has (((own_from p1) + (own_k p1 p2 p3)) + (1 : Int32)) (own_to p1 p2)))])) _
    refine XS.iadd X39.here hx rfl (hb hby at_151) rfl ?_
    show Steps p.tables e below (T39.setTop (mkF m 152 #[.val (.int p1), .val (.int p2), .val (.int p3), .val (.ref b1), .val (.int (own_from p1)), .val (.int (own_to p1 p2)), .val (.int (own_len p1 p2)), .val (.ref b4), .val (.int (1 : Int32)), .val (.int (own_k p1 p2 p3))] [(.int ((own_k p1 p2 p3) + (1 : Int32))), (.int (f_has (((own_from p1) + (own_k p1 p2 p3)) + (1 : Int32)) (own_to p1 p2)))])) _
    refine XS.iload X39.here hx rfl (hb hby at_152) rfl ?_
    show Steps p.tables e below (T39.setTop (mkF m 154 #[.val (.int p1), .val (.int p2), .val (.int p3), .val (.ref b1), .val (.int (own_from p1)), .val (.int (own_to p1 p2)), .val (.int (own_len p1 p2)), .val (.ref b4), .val (.int (1 : Int32)), .val (.int (own_k p1 p2 p3))] [(.int (own_len p1 p2)), (.int ((own_k p1 p2 p3) + (1 : Int32))), (.int (f_has (((own_from p1) + (own_k p1 p2 p3)) + (1 : Int32)) (own_to p1 p2)))])) _
    refine XS.icmpYes X39.here hx rfl (pc0 := 154) (pc' := 161) rfl (hb hby at_154) rfl (flt hc4).2.1 (by decide) (by decide) ?_
    show Steps p.tables e below (T39.setTop (mkF m 161 #[.val (.int p1), .val (.int p2), .val (.int p3), .val (.ref b1), .val (.int (own_from p1)), .val (.int (own_to p1 p2)), .val (.int (own_len p1 p2)), .val (.ref b4), .val (.int (1 : Int32)), .val (.int (own_k p1 p2 p3))] [(.int (f_has (((own_from p1) + (own_k p1 p2 p3)) + (1 : Int32)) (own_to p1 p2)))])) _
    refine XS.iconst X39.here hx rfl (hb hby at_161) ?_
    show Steps p.tables e below (T39.setTop (mkF m 162 #[.val (.int p1), .val (.int p2), .val (.int p3), .val (.ref b1), .val (.int (own_from p1)), .val (.int (own_to p1 p2)), .val (.int (own_len p1 p2)), .val (.ref b4), .val (.int (1 : Int32)), .val (.int (own_k p1 p2 p3))] [(.int (0 : Int32)), (.int (f_has (((own_from p1) + (own_k p1 p2 p3)) + (1 : Int32)) (own_to p1 p2)))])) _
    refine XS.icmpNo X39.here hx rfl (hb hby at_162) rfl (teq hc5).2 ?_
    show Steps p.tables e below (T39.setTop (mkF m 165 #[.val (.int p1), .val (.int p2), .val (.int p3), .val (.ref b1), .val (.int (own_from p1)), .val (.int (own_to p1 p2)), .val (.int (own_len p1 p2)), .val (.ref b4), .val (.int (1 : Int32)), .val (.int (own_k p1 p2 p3))] [])) _
    refine XS.iconst X39.here hx rfl (hb hby at_165) ?_
    show Steps p.tables e below (T39.setTop (mkF m 166 #[.val (.int p1), .val (.int p2), .val (.int p3), .val (.ref b1), .val (.int (own_from p1)), .val (.int (own_to p1 p2)), .val (.int (own_len p1 p2)), .val (.ref b4), .val (.int (1 : Int32)), .val (.int (own_k p1 p2 p3))] [(.int (1 : Int32))])) _
    refine XS.goto X39.here hx rfl (pc0 := 166) (pc' := 170) rfl (hb hby at_166) (by decide) (by decide) ?_
    show Steps p.tables e below (T39.setTop (mkF m 170 #[.val (.int p1), .val (.int p2), .val (.int p3), .val (.ref b1), .val (.int (own_from p1)), .val (.int (own_to p1 p2)), .val (.int (own_len p1 p2)), .val (.ref b4), .val (.int (1 : Int32)), .val (.int (own_k p1 p2 p3))] [(.int (1 : Int32))])) _
    refine XS.istore X39.here hx rfl (hb hby at_170) rfl (l' := #[.val (.int p1), .val (.int p2), .val (.int p3), .val (.ref b1), .val (.int (own_from p1)), .val (.int (own_to p1 p2)), .val (.int (own_len p1 p2)), .val (.ref b4), .val (.int (1 : Int32)), .val (.int (own_k p1 p2 p3))]) rfl ?_
    show Steps p.tables e below (T39.setTop (mkF m 172 #[.val (.int p1), .val (.int p2), .val (.int p3), .val (.ref b1), .val (.int (own_from p1)), .val (.int (own_to p1 p2)), .val (.int (own_len p1 p2)), .val (.ref b4), .val (.int (1 : Int32)), .val (.int (own_k p1 p2 p3))] [])) _
    refine XS.iload X39.here hx rfl (hb hby at_172) rfl ?_
    show Steps p.tables e below (T39.setTop (mkF m 174 #[.val (.int p1), .val (.int p2), .val (.int p3), .val (.ref b1), .val (.int (own_from p1)), .val (.int (own_to p1 p2)), .val (.int (own_len p1 p2)), .val (.ref b4), .val (.int (1 : Int32)), .val (.int (own_k p1 p2 p3))] [(.int (1 : Int32))])) _
    exact retN X39 hx (t := .boolean) Bd.returns (by simp) (hb hby at_174) hr
  · show Q_law Z p1 p2 p3 h0 n0 _ T39.heap _
    rw [e39]
    exact ⟨rfl, N40⟩
def Road_fffffff (p1 : Int32) (p2 : Int32) (p3 : Int32) : Prop := (¬ (((17 : Int32) - (own_from p1)) = (0 : Int32))) ∧ (¬ (((own_len p1 p2) + (1 : Int32)) = (0 : Int32))) ∧ (¬ ((own_k p1 p2 p3) < (0 : Int32))) ∧ (¬ (((own_to p1 p2) - (own_from p1)) < (own_k p1 p2 p3))) ∧ (¬ (((own_from p1) + (own_k p1 p2 p3)) < (0 : Int32))) ∧ (((own_from p1) + (own_k p1 p2 p3)) < (16 : Int32)) ∧ (((own_from p1) + (own_k p1 p2 p3)) < (own_to p1 p2)) ∧ ((0 : Int32) < (own_len p1 p2)) ∧ ((f_has (own_from p1) (own_to p1 p2)) = (1 : Int32)) ∧ ((own_k p1 p2 p3) < (own_len p1 p2)) ∧ ((f_has ((own_from p1) + (own_k p1 p2 p3)) (own_to p1 p2)) = (1 : Int32)) ∧ (((own_k p1 p2 p3) + (1 : Int32)) < (own_len p1 p2)) ∧ ((f_has (((own_from p1) + (own_k p1 p2 p3)) + (1 : Int32)) (own_to p1 p2)) = (1 : Int32))
set_option maxRecDepth 65536 in
set_option maxHeartbeats 40000000 in
theorem rm_law_fffffff (l : Launch) (Z : State) (a0 : Array Value) (hw : ∀ d ∈ tables_1, d.before a0 Z = true) (ws : List Jvm.Cond) (p1 : Int32) (p2 : Int32) (p3 : Int32) (h0 : Heap) (n0 : Nat) (Z0 : n0 ≤ h0.size) (hroad : Road_fffffff p1 p2 p3) :
    MetFree l x (head1 (Jvm.Cond.code x code maxLocals ret :: ws) room_1) (fun a U => a = #[(.int p1), (.int p2), (.int p3)] ∧ Z.Warmed39 U.vm ∧ U.heap = h0) (fun _ _ _ _ _ => True) (fun _ U o U' => ∃ v L, o = .returned v ∧ Q_law Z p1 p2 p3 h0 n0 v U'.heap L ∧ FrameEnd U o U' L room_1.cells room_1.slots) := by
  obtain ⟨hnz0, hnz1, hp2, hp3, hp4, hp5, hp6, hc0, hc1, hc2, hc3, hc4, hc5⟩ := hroad
  refine MetFree.of_bodySF (plainFor_of_name pn_com_example_fieldstone_fieldstone_core_ByteReaderHasRemainingPinLaw) hisR ?_
  intro p e s m args below meth c s₁ Bd hml0 hP hK
  obtain ⟨rfl, hZ, hh⟩ := hP
  have hx := Bd.exec
  have hby := Bd.bytes
  have hml : c.maxLocals = 10 := hml0
  have hown : s.vm.findClass "com/example/fieldstone/fieldstone/core/ByteReaderHasRemainingPinLaw" = some m.cls := findClass_of_methodNamed Bd.named
  have hnm := (name_of_methodNamed Bd.named Bd.method).1
  have X0 : Stand p l e room_1 s m #[(.int p1), (.int p2), (.int p3)] below meth c s₁ [] 0 0 := Stand.of_body Bd
  have e0 : s₁.heap = h0 := by rw [← hh, Bd.state]; rfl
  have N0 := Fr.nil n0
  have pre0 : ∀ t, Steps p.tables e below (s₁.setTop (mkF m 0 #[.val (.int p1), .val (.int p2), .val (.int p3), .unset, .unset, .unset, .unset, .unset, .unset, .unset] [])) t → Steps p.tables e below (s₁.setTop (entryFrame m #[(.int p1), (.int p2), (.int p3)] maxLocals)) t := fun t k => castTop (ef_0_III m p1 p2 p3) k
  obtain ⟨T1, h1, k1, X1, e1, E1, A1, Ex1, st1⟩ := newPE X0 hx hZ (hw _ (List.mem_of_getElem? (i := 0) rfl)) e0 (g := (mkF m 2 #[.val (.int p1), .val (.int p2), .val (.int p3), .unset, .unset, .unset, .unset, .unset, .unset, .unset] [(.int (16 : Int32))])) rfl (hb hby at_2) rfl (by decide) (cap := 16) (by decide) (by decide) (by decide) (by decide) (ad := "[B") (by decide)
  obtain ⟨b1, g1⟩ : ∃ z, z = h0.size := ⟨_, rfl⟩
  rw [← g1] at A1 Ex1 st1
  have g_b1 : n0 ≤ b1 := Nat.le_trans Z0 (Nat.le_of_eq g1.symm)
  have Zs2 : n0 ≤ h1.size := Nat.le_trans Z0 E1.1
  have f3 : Arv Z h1 b1 k1 .byte (16 : Int32) [(.int (0 : Int32)), (.int (0 : Int32)), (.int (0 : Int32)), (.int (0 : Int32)), (.int (0 : Int32)), (.int (0 : Int32)), (.int (0 : Int32)), (.int (0 : Int32)), (.int (0 : Int32)), (.int (0 : Int32)), (.int (0 : Int32)), (.int (0 : Int32)), (.int (0 : Int32)), (.int (0 : Int32)), (.int (0 : Int32)), (.int (0 : Int32))] (.int (0 : Int32)) := (Arv.new A1 (by decide)).pad (pad_rep [] (.int (0 : Int32)) 16)
  obtain ⟨T4, h4, X4, e4, E4, A4, D4, -, st4⟩ := newO X1 hx hZ hown (hw _ (List.mem_of_getElem? (i := 2) rfl)) (hw _ (List.mem_of_getElem? (i := 3) rfl)) (hw _ (List.mem_of_getElem? (i := 4) rfl)) e1 (g := (mkF m 36 #[.val (.int p1), .val (.int p2), .val (.int p3), .val (.ref b1), .val (.int (own_from p1)), .val (.int (own_to p1 p2)), .val (.int (own_len p1 p2)), .unset, .unset, .unset] [])) rfl (hb hby at_36) (by decide) (by decide)
  obtain ⟨b4, g4⟩ : ∃ z, z = h1.size := ⟨_, rfl⟩
  rw [← g4] at A4 D4 st4
  have g_b4 : n0 ≤ b4 := Nat.le_trans Zs2 (Nat.le_of_eq g4.symm)
  have ne_b1_b4 : b1 ≠ b4 := Nat.ne_of_lt (Nat.lt_of_lt_of_le Ex1.lt (Nat.le_of_eq g4.symm))
  have f5 : Exa Z h4 b1 "[B" := Ex1.ext E4
  have f6 : Arv Z h4 b1 k1 .byte (16 : Int32) [(.int (0 : Int32)), (.int (0 : Int32)), (.int (0 : Int32)), (.int (0 : Int32)), (.int (0 : Int32)), (.int (0 : Int32)), (.int (0 : Int32)), (.int (0 : Int32)), (.int (0 : Int32)), (.int (0 : Int32)), (.int (0 : Int32)), (.int (0 : Int32)), (.int (0 : Int32)), (.int (0 : Int32)), (.int (0 : Int32)), (.int (0 : Int32))] (.int (0 : Int32)) := f3.ext E4
  have Zs7 : n0 ≤ h4.size := Nat.le_trans Zs2 E4.1
  have f8 : Fld Z h4 b4 "com/example/fieldstone/fieldstone/core/ByteReader" "bytes" "[B" .null := D4 (Or.inr (hw _ (List.mem_of_getElem? (i := 12) rfl))) (ty := (.array .byte)) (by decide)
  have f9 : Fld Z h4 b4 "com/example/fieldstone/fieldstone/core/ByteReader" "position" "I" (.int (0 : Int32)) := D4 (Or.inl (hw _ (List.mem_of_getElem? (i := 14) rfl))) (ty := .int) (by decide)
  have f10 : Fld Z h4 b4 "com/example/fieldstone/fieldstone/core/ByteReader" "end" "I" (.int (0 : Int32)) := D4 (Or.inr (hw _ (List.mem_of_getElem? (i := 16) rfl))) (ty := .int) (by decide)
  obtain ⟨_, _, ⟨T11, L11, k11, n11⟩, -, X11, ⟨Lc11, hQ11, l11, y11, z11⟩, st11⟩ := X4.specialBack hx (y := (⟨"com/example/fieldstone/fieldstone/core/ByteReader", "<init>", "([BII)V"⟩ : MethodName)) rfl hown (mvT hZ (hw _ (List.mem_of_getElem? (i := 5) rfl))) (mvT hZ (hw _ (List.mem_of_getElem? (i := 6) rfl))) (mvT hZ (hw _ (List.mem_of_getElem? (i := 7) rfl))) (by decide) (backOf (W := 1) (rm_init l Z a0 hw [] b4 b1 (own_from p1) (own_to p1 p2) h4 n0 Zs7 A4 f8 g_b4 f9 f10) hZ (hw _ (List.mem_of_getElem? (i := 7) rfl)) (hw _ (List.mem_of_getElem? (i := 4) rfl)) (by decide) (by decide)) (g := (mkF m 45 #[.val (.int p1), .val (.int p2), .val (.int p3), .val (.ref b1), .val (.int (own_from p1)), .val (.int (own_to p1 p2)), .val (.int (own_len p1 p2)), .unset, .unset, .unset] [(.int (own_to p1 p2)), (.int (own_from p1)), (.ref b1), (.ref b4), (.ref b4)])) rfl (by rw [hml]; rfl) (Steps.refl _) (a := b4) (argsL := [(.ref b1), (.int (own_from p1)), (.int (own_to p1 p2))]) (rest := [(.ref b4)]) (lenOf pd_1 rfl) rfl (by show 2 * 0 + _ ≤ _; exact Nat.le_of_eq rfl) (hb hby at_45) (fun _ _ => ⟨rfl, e4, (by decide : 2 + 0 ≤ _), (by decide : 19 + 0 ≤ _)⟩)
  dsimp only [Pt.U, Pt.locs, Pt.cells, Pt.slots] at X11 l11 y11 z11 st11 hQ11
  subst l11 y11 z11
  obtain ⟨rfl, Nq11, Kc11, fq11_0, fq11_1, fq11_2, fq11_3⟩ := hQ11
  have f13 : Exa Z T11.heap b1 "[B" := f5.keep Kc11
  have f14 : Arv Z T11.heap b1 k1 .byte (16 : Int32) [(.int (0 : Int32)), (.int (0 : Int32)), (.int (0 : Int32)), (.int (0 : Int32)), (.int (0 : Int32)), (.int (0 : Int32)), (.int (0 : Int32)), (.int (0 : Int32)), (.int (0 : Int32)), (.int (0 : Int32)), (.int (0 : Int32)), (.int (0 : Int32)), (.int (0 : Int32)), (.int (0 : Int32)), (.int (0 : Int32)), (.int (0 : Int32))] (.int (0 : Int32)) := f6.keep Kc11 (ninS ne_b1_b4 nin0)
  have f15 : Fld Z T11.heap b4 "com/example/fieldstone/fieldstone/core/ByteReader" "bytes" "[B" (.ref b1) := fq11_1
  have f16 : Fld Z T11.heap b4 "com/example/fieldstone/fieldstone/core/ByteReader" "position" "I" (.int (own_from p1)) := fq11_2
  have f17 : Fld Z T11.heap b4 "com/example/fieldstone/fieldstone/core/ByteReader" "end" "I" (.int (own_to p1 p2)) := fq11_3
  have Zs18 : n0 ≤ T11.heap.size := Nat.le_trans Zs7 Kc11.1
  have N12 := Fr.app N0 Nq11
  obtain ⟨cq19, kq19, q19a, q19b, q19c⟩ := isOf hZ rfl fq11_0
  obtain ⟨_, _, ⟨T19, L19, k19, n19⟩, -, X19, ⟨Lc19, hQ19, l19, y19, z19⟩, st19⟩ := X11.virtualBack hx (y := (⟨"com/example/fieldstone/fieldstone/core/ByteReader", "hasRemaining", "()Z"⟩ : MethodName)) (z := (⟨"com/example/fieldstone/fieldstone/core/ByteReader", "hasRemaining", "()Z"⟩ : MethodName)) hown (mvT hZ (hw _ (List.mem_of_getElem? (i := 17) rfl))) (mvT hZ (hw _ (List.mem_of_getElem? (i := 18) rfl))) (notFace_of_selects (args := #[]) (mvT hZ (hw _ (List.mem_of_getElem? (i := 20) rfl)))) (mvT hZ (hw _ (List.mem_of_getElem? (i := 20) rfl))) (mvT hZ (hw _ (List.mem_of_getElem? (i := 19) rfl))) (by decide) (backOf (W := 0) (rm_has l Z a0 hw [] b4 (own_from p1) (own_to p1 p2) T11.heap n0 Zs18 f16 f17) hZ (hw _ (List.mem_of_getElem? (i := 21) rfl)) (hw _ (List.mem_of_getElem? (i := 4) rfl)) (by decide) (by decide)) q19a q19c (g := (mkF m 52 #[.val (.int p1), .val (.int p2), .val (.int p3), .val (.ref b1), .val (.int (own_from p1)), .val (.int (own_to p1 p2)), .val (.int (own_len p1 p2)), .val (.ref b4), .unset, .unset] [(.ref b4)])) rfl (by rw [hml]; rfl) (Steps.refl _) (argsL := []) (rest := []) (lenOf pd_2 rfl) rfl (by show 2 * 0 + _ ≤ _; exact Nat.le_of_eq rfl) (hb hby at_52) (fun _ _ => ⟨rfl, rfl, (by decide : 2 + 0 ≤ _), (by decide : 19 + 0 ≤ _)⟩)
  dsimp only [Pt.U, Pt.locs, Pt.cells, Pt.slots] at X19 l19 y19 z19 st19 hQ19
  subst l19 y19 z19
  obtain ⟨rfl, Nq19, e19⟩ := hQ19
  have N20 := Fr.app N12 Nq19
  obtain ⟨cq21, kq21, q21a, q21b, q21c⟩ := isOf hZ e19 fq11_0
  obtain ⟨_, _, ⟨T21, L21, k21, n21⟩, -, X21, ⟨Lc21, hQ21, l21, y21, z21⟩, st21⟩ := X19.virtualBack hx (y := (⟨"com/example/fieldstone/fieldstone/core/ByteReader", "skip", "(I)V"⟩ : MethodName)) (z := (⟨"com/example/fieldstone/fieldstone/core/ByteReader", "skip", "(I)V"⟩ : MethodName)) hown (mvT hZ (hw _ (List.mem_of_getElem? (i := 22) rfl))) (mvT hZ (hw _ (List.mem_of_getElem? (i := 23) rfl))) (notFace_of_selects (args := #[]) (mvT hZ (hw _ (List.mem_of_getElem? (i := 25) rfl)))) (mvT hZ (hw _ (List.mem_of_getElem? (i := 25) rfl))) (mvT hZ (hw _ (List.mem_of_getElem? (i := 24) rfl))) (by decide) (backOf (W := 0) (rm_skip l Z a0 hw [] b4 (own_k p1 p2 p3) (own_to p1 p2) (own_from p1) b1 T11.heap n0 Zs18 f17 f16 fq11_0 g_b4 f15 hp2 hp3) hZ (hw _ (List.mem_of_getElem? (i := 26) rfl)) (hw _ (List.mem_of_getElem? (i := 4) rfl)) (by decide) (by decide)) q21a q21c (g := (mkF m 90 #[.val (.int p1), .val (.int p2), .val (.int p3), .val (.ref b1), .val (.int (own_from p1)), .val (.int (own_to p1 p2)), .val (.int (own_len p1 p2)), .val (.ref b4), .val (.int (1 : Int32)), .val (.int (own_k p1 p2 p3))] [(.int (own_k p1 p2 p3)), (.ref b4)])) rfl (by rw [hml]; rfl) (Steps.refl _) (argsL := [(.int (own_k p1 p2 p3))]) (rest := []) (lenOf pd_0 rfl) rfl (by show 2 * 0 + _ ≤ _; exact Nat.le_of_eq rfl) (hb hby at_90) (fun _ _ => ⟨rfl, e19, (by decide : 2 + 0 ≤ _), (by decide : 19 + 0 ≤ _)⟩)
  dsimp only [Pt.U, Pt.locs, Pt.cells, Pt.slots] at X21 l21 y21 z21 st21 hQ21
  subst l21 y21 z21
  obtain ⟨rfl, Nq21, Kc21, fq21_0, fq21_1, fq21_2, fq21_3⟩ := hQ21
  have f23 : Exa Z T21.heap b1 "[B" := f13.keep Kc21
  have f24 : Arv Z T21.heap b1 k1 .byte (16 : Int32) [(.int (0 : Int32)), (.int (0 : Int32)), (.int (0 : Int32)), (.int (0 : Int32)), (.int (0 : Int32)), (.int (0 : Int32)), (.int (0 : Int32)), (.int (0 : Int32)), (.int (0 : Int32)), (.int (0 : Int32)), (.int (0 : Int32)), (.int (0 : Int32)), (.int (0 : Int32)), (.int (0 : Int32)), (.int (0 : Int32)), (.int (0 : Int32))] (.int (0 : Int32)) := f14.keep Kc21 (ninS ne_b1_b4 nin0)
  have f25 : Fld Z T21.heap b4 "com/example/fieldstone/fieldstone/core/ByteReader" "end" "I" (.int (own_to p1 p2)) := fq21_0
  have f26 : Fld Z T21.heap b4 "com/example/fieldstone/fieldstone/core/ByteReader" "position" "I" (.int ((own_from p1) + (own_k p1 p2 p3))) := fq21_1
  have f27 : Fld Z T21.heap b4 "com/example/fieldstone/fieldstone/core/ByteReader" "bytes" "[B" (.ref b1) := fq21_3
  have Zs28 : n0 ≤ T21.heap.size := Nat.le_trans Zs18 Kc21.1
  have N22 := Fr.app N20 Nq21
  obtain ⟨cq29, kq29, q29a, q29b, q29c⟩ := isOf hZ rfl fq21_2
  obtain ⟨_, _, ⟨T29, L29, k29, n29⟩, -, X29, ⟨Lc29, hQ29, l29, y29, z29⟩, st29⟩ := X21.virtualBack hx (y := (⟨"com/example/fieldstone/fieldstone/core/ByteReader", "hasRemaining", "()Z"⟩ : MethodName)) (z := (⟨"com/example/fieldstone/fieldstone/core/ByteReader", "hasRemaining", "()Z"⟩ : MethodName)) hown (mvT hZ (hw _ (List.mem_of_getElem? (i := 17) rfl))) (mvT hZ (hw _ (List.mem_of_getElem? (i := 18) rfl))) (notFace_of_selects (args := #[]) (mvT hZ (hw _ (List.mem_of_getElem? (i := 20) rfl)))) (mvT hZ (hw _ (List.mem_of_getElem? (i := 20) rfl))) (mvT hZ (hw _ (List.mem_of_getElem? (i := 19) rfl))) (by decide) (backOf (W := 0) (rm_has l Z a0 hw [] b4 ((own_from p1) + (own_k p1 p2 p3)) (own_to p1 p2) T21.heap n0 Zs28 f26 f25) hZ (hw _ (List.mem_of_getElem? (i := 21) rfl)) (hw _ (List.mem_of_getElem? (i := 4) rfl)) (by decide) (by decide)) q29a q29c (g := (mkF m 100 #[.val (.int p1), .val (.int p2), .val (.int p3), .val (.ref b1), .val (.int (own_from p1)), .val (.int (own_to p1 p2)), .val (.int (own_len p1 p2)), .val (.ref b4), .val (.int (1 : Int32)), .val (.int (own_k p1 p2 p3))] [(.ref b4)])) rfl (by rw [hml]; rfl) (Steps.refl _) (argsL := []) (rest := []) (lenOf pd_2 rfl) rfl (by show 2 * 0 + _ ≤ _; exact Nat.le_of_eq rfl) (hb hby at_100) (fun _ _ => ⟨rfl, rfl, (by decide : 2 + 0 ≤ _), (by decide : 19 + 0 ≤ _)⟩)
  dsimp only [Pt.U, Pt.locs, Pt.cells, Pt.slots] at X29 l29 y29 z29 st29 hQ29
  subst l29 y29 z29
  obtain ⟨rfl, Nq29, e29⟩ := hQ29
  have N30 := Fr.app N22 Nq29
  obtain ⟨cq31, kq31, q31a, q31b, q31c⟩ := isOf hZ e29 fq21_2
  obtain ⟨_, _, ⟨T31, L31, k31, n31⟩, -, X31, ⟨Lc31, hQ31, l31, y31, z31⟩, st31⟩ := X29.virtualBack hx (y := (⟨"com/example/fieldstone/fieldstone/core/ByteReader", "get", "()B"⟩ : MethodName)) (z := (⟨"com/example/fieldstone/fieldstone/core/ByteReader", "get", "()B"⟩ : MethodName)) hown (mvT hZ (hw _ (List.mem_of_getElem? (i := 31) rfl))) (mvT hZ (hw _ (List.mem_of_getElem? (i := 32) rfl))) (notFace_of_selects (args := #[]) (mvT hZ (hw _ (List.mem_of_getElem? (i := 34) rfl)))) (mvT hZ (hw _ (List.mem_of_getElem? (i := 34) rfl))) (mvT hZ (hw _ (List.mem_of_getElem? (i := 33) rfl))) (by decide) (backOf (W := 0) (rm_get l Z a0 hw [] b4 ((own_from p1) + (own_k p1 p2 p3)) (own_to p1 p2) b1 k1 (16 : Int32) [(.int (0 : Int32)), (.int (0 : Int32)), (.int (0 : Int32)), (.int (0 : Int32)), (.int (0 : Int32)), (.int (0 : Int32)), (.int (0 : Int32)), (.int (0 : Int32)), (.int (0 : Int32)), (.int (0 : Int32)), (.int (0 : Int32)), (.int (0 : Int32)), (.int (0 : Int32)), (.int (0 : Int32)), (.int (0 : Int32)), (.int (0 : Int32))] T21.heap n0 Zs28 f26 f25 f27 fq21_2 g_b4 f24 ne_b1_b4 hp4 hp5 hp6) hZ (hw _ (List.mem_of_getElem? (i := 35) rfl)) (hw _ (List.mem_of_getElem? (i := 4) rfl)) (by decide) (by decide)) q31a q31c (g := (mkF m 134 #[.val (.int p1), .val (.int p2), .val (.int p3), .val (.ref b1), .val (.int (own_from p1)), .val (.int (own_to p1 p2)), .val (.int (own_len p1 p2)), .val (.ref b4), .val (.int (1 : Int32)), .val (.int (own_k p1 p2 p3))] [(.ref b4)])) rfl (by rw [hml]; rfl) (Steps.refl _) (argsL := []) (rest := []) (lenOf pd_3 rfl) rfl (by show 2 * 0 + _ ≤ _; exact Nat.le_of_eq rfl) (hb hby at_134) (fun _ _ => ⟨rfl, e29, (by decide : 2 + 0 ≤ _), (by decide : 19 + 0 ≤ _)⟩)
  dsimp only [Pt.U, Pt.locs, Pt.cells, Pt.slots] at X31 l31 y31 z31 st31 hQ31
  subst l31 y31 z31
  obtain ⟨rfl, Nq31, Kc31, fq31_0, fq31_1, fq31_2, fq31_3⟩ := hQ31
  have f33 : Exa Z T31.heap b1 "[B" := f23.keep Kc31
  have f34 : Arv Z T31.heap b1 k1 .byte (16 : Int32) [(.int (0 : Int32)), (.int (0 : Int32)), (.int (0 : Int32)), (.int (0 : Int32)), (.int (0 : Int32)), (.int (0 : Int32)), (.int (0 : Int32)), (.int (0 : Int32)), (.int (0 : Int32)), (.int (0 : Int32)), (.int (0 : Int32)), (.int (0 : Int32)), (.int (0 : Int32)), (.int (0 : Int32)), (.int (0 : Int32)), (.int (0 : Int32))] (.int (0 : Int32)) := f24.keep Kc31 (ninS ne_b1_b4 nin0)
  have f35 : Fld Z T31.heap b4 "com/example/fieldstone/fieldstone/core/ByteReader" "position" "I" (.int (((own_from p1) + (own_k p1 p2 p3)) + (1 : Int32))) := fq31_0
  have f36 : Fld Z T31.heap b4 "com/example/fieldstone/fieldstone/core/ByteReader" "end" "I" (.int (own_to p1 p2)) := fq31_1
  have f37 : Fld Z T31.heap b4 "com/example/fieldstone/fieldstone/core/ByteReader" "bytes" "[B" (.ref b1) := fq31_2
  have Zs38 : n0 ≤ T31.heap.size := Nat.le_trans Zs28 Kc31.1
  have N32 := Fr.app N30 Nq31
  obtain ⟨cq39, kq39, q39a, q39b, q39c⟩ := isOf hZ rfl fq31_3
  obtain ⟨_, _, ⟨T39, L39, k39, n39⟩, -, X39, ⟨Lc39, hQ39, l39, y39, z39⟩, st39⟩ := X31.virtualBack hx (y := (⟨"com/example/fieldstone/fieldstone/core/ByteReader", "hasRemaining", "()Z"⟩ : MethodName)) (z := (⟨"com/example/fieldstone/fieldstone/core/ByteReader", "hasRemaining", "()Z"⟩ : MethodName)) hown (mvT hZ (hw _ (List.mem_of_getElem? (i := 17) rfl))) (mvT hZ (hw _ (List.mem_of_getElem? (i := 18) rfl))) (notFace_of_selects (args := #[]) (mvT hZ (hw _ (List.mem_of_getElem? (i := 20) rfl)))) (mvT hZ (hw _ (List.mem_of_getElem? (i := 20) rfl))) (mvT hZ (hw _ (List.mem_of_getElem? (i := 19) rfl))) (by decide) (backOf (W := 0) (rm_has l Z a0 hw [] b4 (((own_from p1) + (own_k p1 p2 p3)) + (1 : Int32)) (own_to p1 p2) T31.heap n0 Zs38 f35 f36) hZ (hw _ (List.mem_of_getElem? (i := 21) rfl)) (hw _ (List.mem_of_getElem? (i := 4) rfl)) (by decide) (by decide)) q39a q39c (g := (mkF m 145 #[.val (.int p1), .val (.int p2), .val (.int p3), .val (.ref b1), .val (.int (own_from p1)), .val (.int (own_to p1 p2)), .val (.int (own_len p1 p2)), .val (.ref b4), .val (.int (1 : Int32)), .val (.int (own_k p1 p2 p3))] [(.ref b4)])) rfl (by rw [hml]; rfl) (Steps.refl _) (argsL := []) (rest := []) (lenOf pd_2 rfl) rfl (by show 2 * 0 + _ ≤ _; exact Nat.le_of_eq rfl) (hb hby at_145) (fun _ _ => ⟨rfl, rfl, (by decide : 2 + 0 ≤ _), (by decide : 19 + 0 ≤ _)⟩)
  dsimp only [Pt.U, Pt.locs, Pt.cells, Pt.slots] at X39 l39 y39 z39 st39 hQ39
  subst l39 y39 z39
  obtain ⟨rfl, Nq39, e39⟩ := hQ39
  have N40 := Fr.app N32 Nq39
  obtain ⟨fs, hr, hrun, hended, hW, hsame⟩ := X39.leave (v := some (.int (1 : Int32))) (fun h => by rw [Bd.returns] at h; cases h)
  refine ⟨_, _, pre0 _ ?_, hrun, hended, _, _, rfl, ?_, ⟨_, rfl⟩, hW, hsame.mono (by decide) (by decide)⟩
  · show Steps p.tables e below (s₁.setTop (mkF m 0 #[.val (.int p1), .val (.int p2), .val (.int p3), .unset, .unset, .unset, .unset, .unset, .unset, .unset] [])) _
    refine XS.bipush X0.here hx rfl (hb hby at_0) ?_
    show Steps p.tables e below (s₁.setTop (mkF m 2 #[.val (.int p1), .val (.int p2), .val (.int p3), .unset, .unset, .unset, .unset, .unset, .unset, .unset] [(.int (16 : Int32))])) _
    refine st1 _ ?_
    show Steps p.tables e below (T1.setTop (mkF m 4 #[.val (.int p1), .val (.int p2), .val (.int p3), .unset, .unset, .unset, .unset, .unset, .unset, .unset] [(.ref b1)])) _
    refine XS.astoreN X1.here hx rfl (hb hby at_4) rfl rfl (l' := #[.val (.int p1), .val (.int p2), .val (.int p3), .val (.ref b1), .unset, .unset, .unset, .unset, .unset, .unset]) rfl ?_
    show Steps p.tables e below (T1.setTop (mkF m 5 #[.val (.int p1), .val (.int p2), .val (.int p3), .val (.ref b1), .unset, .unset, .unset, .unset, .unset, .unset] [])) _
    refine XS.iloadN X1.here hx rfl (hb hby at_5) rfl ?_
    show Steps p.tables e below (T1.setTop (mkF m 6 #[.val (.int p1), .val (.int p2), .val (.int p3), .val (.ref b1), .unset, .unset, .unset, .unset, .unset, .unset] [(.int p1)])) _
    refine X1.ldcInt hx hown (mvT hZ (hw _ (List.mem_of_getElem? (i := 1) rfl))) (g := (mkF m 6 #[.val (.int p1), .val (.int p2), .val (.int p3), .val (.ref b1), .unset, .unset, .unset, .unset, .unset, .unset] [(.int p1)])) rfl (hb hby at_6) _ ?_
    show Steps p.tables e below (T1.setTop (mkF m 8 #[.val (.int p1), .val (.int p2), .val (.int p3), .val (.ref b1), .unset, .unset, .unset, .unset, .unset, .unset] [(.int (2147483647 : Int32)), (.int p1)])) _
    refine XS.iand X1.here hx rfl (hb hby at_8) rfl ?_
    show Steps p.tables e below (T1.setTop (mkF m 9 #[.val (.int p1), .val (.int p2), .val (.int p3), .val (.ref b1), .unset, .unset, .unset, .unset, .unset, .unset] [(.int (p1 &&& (2147483647 : Int32)))])) _
    refine XS.bipush X1.here hx rfl (hb hby at_9) ?_
    show Steps p.tables e below (T1.setTop (mkF m 11 #[.val (.int p1), .val (.int p2), .val (.int p3), .val (.ref b1), .unset, .unset, .unset, .unset, .unset, .unset] [(.int (17 : Int32)), (.int (p1 &&& (2147483647 : Int32)))])) _
    refine iremM X1 hx rfl (hb hby at_11) rfl (by decide) ?_
    show Steps p.tables e below (T1.setTop (mkF m 12 #[.val (.int p1), .val (.int p2), .val (.int p3), .val (.ref b1), .unset, .unset, .unset, .unset, .unset, .unset] [(.int ((p1 &&& (2147483647 : Int32)) % (17 : Int32)))])) _
    refine XS.istore X1.here hx rfl (hb hby at_12) rfl (l' := #[.val (.int p1), .val (.int p2), .val (.int p3), .val (.ref b1), .val (.int (own_from p1)), .unset, .unset, .unset, .unset, .unset]) rfl ?_
    show Steps p.tables e below (T1.setTop (mkF m 14 #[.val (.int p1), .val (.int p2), .val (.int p3), .val (.ref b1), .val (.int (own_from p1)), .unset, .unset, .unset, .unset, .unset] [])) _
    refine XS.iload X1.here hx rfl (hb hby at_14) rfl ?_
    show Steps p.tables e below (T1.setTop (mkF m 16 #[.val (.int p1), .val (.int p2), .val (.int p3), .val (.ref b1), .val (.int (own_from p1)), .unset, .unset, .unset, .unset, .unset] [(.int (own_from p1))])) _
    refine XS.iloadN X1.here hx rfl (hb hby at_16) rfl ?_
    show Steps p.tables e below (T1.setTop (mkF m 17 #[.val (.int p1), .val (.int p2), .val (.int p3), .val (.ref b1), .val (.int (own_from p1)), .unset, .unset, .unset, .unset, .unset] [(.int p2), (.int (own_from p1))])) _
    refine X1.ldcInt hx hown (mvT hZ (hw _ (List.mem_of_getElem? (i := 1) rfl))) (g := (mkF m 17 #[.val (.int p1), .val (.int p2), .val (.int p3), .val (.ref b1), .val (.int (own_from p1)), .unset, .unset, .unset, .unset, .unset] [(.int p2), (.int (own_from p1))])) rfl (hb hby at_17) _ ?_
    show Steps p.tables e below (T1.setTop (mkF m 19 #[.val (.int p1), .val (.int p2), .val (.int p3), .val (.ref b1), .val (.int (own_from p1)), .unset, .unset, .unset, .unset, .unset] [(.int (2147483647 : Int32)), (.int p2), (.int (own_from p1))])) _
    refine XS.iand X1.here hx rfl (hb hby at_19) rfl ?_
    show Steps p.tables e below (T1.setTop (mkF m 20 #[.val (.int p1), .val (.int p2), .val (.int p3), .val (.ref b1), .val (.int (own_from p1)), .unset, .unset, .unset, .unset, .unset] [(.int (p2 &&& (2147483647 : Int32))), (.int (own_from p1))])) _
    refine XS.bipush X1.here hx rfl (hb hby at_20) ?_
    show Steps p.tables e below (T1.setTop (mkF m 22 #[.val (.int p1), .val (.int p2), .val (.int p3), .val (.ref b1), .val (.int (own_from p1)), .unset, .unset, .unset, .unset, .unset] [(.int (17 : Int32)), (.int (p2 &&& (2147483647 : Int32))), (.int (own_from p1))])) _
    refine XS.iload X1.here hx rfl (hb hby at_22) rfl ?_
    show Steps p.tables e below (T1.setTop (mkF m 24 #[.val (.int p1), .val (.int p2), .val (.int p3), .val (.ref b1), .val (.int (own_from p1)), .unset, .unset, .unset, .unset, .unset] [(.int (own_from p1)), (.int (17 : Int32)), (.int (p2 &&& (2147483647 : Int32))), (.int (own_from p1))])) _
    refine XS.isub X1.here hx rfl (hb hby at_24) rfl ?_
    show Steps p.tables e below (T1.setTop (mkF m 25 #[.val (.int p1), .val (.int p2), .val (.int p3), .val (.ref b1), .val (.int (own_from p1)), .unset, .unset, .unset, .unset, .unset] [(.int ((17 : Int32) - (own_from p1))), (.int (p2 &&& (2147483647 : Int32))), (.int (own_from p1))])) _
    refine iremM X1 hx rfl (hb hby at_25) rfl hnz0 ?_
    show Steps p.tables e below (T1.setTop (mkF m 26 #[.val (.int p1), .val (.int p2), .val (.int p3), .val (.ref b1), .val (.int (own_from p1)), .unset, .unset, .unset, .unset, .unset] [(.int ((p2 &&& (2147483647 : Int32)) % ((17 : Int32) - (own_from p1)))), (.int (own_from p1))])) _
    refine XS.iadd X1.here hx rfl (hb hby at_26) rfl ?_
    show Steps p.tables e below (T1.setTop (mkF m 27 #[.val (.int p1), .val (.int p2), .val (.int p3), .val (.ref b1), .val (.int (own_from p1)), .unset, .unset, .unset, .unset, .unset] [(.int ((own_from p1) + ((p2 &&& (2147483647 : Int32)) % ((17 : Int32) - (own_from p1)))))])) _
    refine XS.istore X1.here hx rfl (hb hby at_27) rfl (l' := #[.val (.int p1), .val (.int p2), .val (.int p3), .val (.ref b1), .val (.int (own_from p1)), .val (.int (own_to p1 p2)), .unset, .unset, .unset, .unset]) rfl ?_
    show Steps p.tables e below (T1.setTop (mkF m 29 #[.val (.int p1), .val (.int p2), .val (.int p3), .val (.ref b1), .val (.int (own_from p1)), .val (.int (own_to p1 p2)), .unset, .unset, .unset, .unset] [])) _
    refine XS.iload X1.here hx rfl (hb hby at_29) rfl ?_
    show Steps p.tables e below (T1.setTop (mkF m 31 #[.val (.int p1), .val (.int p2), .val (.int p3), .val (.ref b1), .val (.int (own_from p1)), .val (.int (own_to p1 p2)), .unset, .unset, .unset, .unset] [(.int (own_to p1 p2))])) _
    refine XS.iload X1.here hx rfl (hb hby at_31) rfl ?_
    show Steps p.tables e below (T1.setTop (mkF m 33 #[.val (.int p1), .val (.int p2), .val (.int p3), .val (.ref b1), .val (.int (own_from p1)), .val (.int (own_to p1 p2)), .unset, .unset, .unset, .unset] [(.int (own_from p1)), (.int (own_to p1 p2))])) _
    refine XS.isub X1.here hx rfl (hb hby at_33) rfl ?_
    show Steps p.tables e below (T1.setTop (mkF m 34 #[.val (.int p1), .val (.int p2), .val (.int p3), .val (.ref b1), .val (.int (own_from p1)), .val (.int (own_to p1 p2)), .unset, .unset, .unset, .unset] [(.int ((own_to p1 p2) - (own_from p1)))])) _
    refine XS.istore X1.here hx rfl (hb hby at_34) rfl (l' := #[.val (.int p1), .val (.int p2), .val (.int p3), .val (.ref b1), .val (.int (own_from p1)), .val (.int (own_to p1 p2)), .val (.int (own_len p1 p2)), .unset, .unset, .unset]) rfl ?_
    show Steps p.tables e below (T1.setTop (mkF m 36 #[.val (.int p1), .val (.int p2), .val (.int p3), .val (.ref b1), .val (.int (own_from p1)), .val (.int (own_to p1 p2)), .val (.int (own_len p1 p2)), .unset, .unset, .unset] [])) _
    refine st4 _ ?_
    show Steps p.tables e below (T4.setTop (mkF m 39 #[.val (.int p1), .val (.int p2), .val (.int p3), .val (.ref b1), .val (.int (own_from p1)), .val (.int (own_to p1 p2)), .val (.int (own_len p1 p2)), .unset, .unset, .unset] [(.ref b4)])) _
    refine XS.dup X4.here hx rfl (hb hby at_39) rfl rfl ?_
    show Steps p.tables e below (T4.setTop (mkF m 40 #[.val (.int p1), .val (.int p2), .val (.int p3), .val (.ref b1), .val (.int (own_from p1)), .val (.int (own_to p1 p2)), .val (.int (own_len p1 p2)), .unset, .unset, .unset] [(.ref b4), (.ref b4)])) _
    refine XS.aloadN X4.here hx rfl (hb hby at_40) rfl rfl ?_
    show Steps p.tables e below (T4.setTop (mkF m 41 #[.val (.int p1), .val (.int p2), .val (.int p3), .val (.ref b1), .val (.int (own_from p1)), .val (.int (own_to p1 p2)), .val (.int (own_len p1 p2)), .unset, .unset, .unset] [(.ref b1), (.ref b4), (.ref b4)])) _
    refine XS.iload X4.here hx rfl (hb hby at_41) rfl ?_
    show Steps p.tables e below (T4.setTop (mkF m 43 #[.val (.int p1), .val (.int p2), .val (.int p3), .val (.ref b1), .val (.int (own_from p1)), .val (.int (own_to p1 p2)), .val (.int (own_len p1 p2)), .unset, .unset, .unset] [(.int (own_from p1)), (.ref b1), (.ref b4), (.ref b4)])) _
    refine XS.iload X4.here hx rfl (hb hby at_43) rfl ?_
    show Steps p.tables e below (T4.setTop (mkF m 45 #[.val (.int p1), .val (.int p2), .val (.int p3), .val (.ref b1), .val (.int (own_from p1)), .val (.int (own_to p1 p2)), .val (.int (own_len p1 p2)), .unset, .unset, .unset] [(.int (own_to p1 p2)), (.int (own_from p1)), (.ref b1), (.ref b4), (.ref b4)])) _
    refine st11.trans ?_
    show Steps p.tables e below (T11.setTop (mkF m 48 #[.val (.int p1), .val (.int p2), .val (.int p3), .val (.ref b1), .val (.int (own_from p1)), .val (.int (own_to p1 p2)), .val (.int (own_len p1 p2)), .unset, .unset, .unset] [(.ref b4)])) _
    refine XS.astore X11.here hx rfl (hb hby at_48) rfl rfl (l' := #[.val (.int p1), .val (.int p2), .val (.int p3), .val (.ref b1), .val (.int (own_from p1)), .val (.int (own_to p1 p2)), .val (.int (own_len p1 p2)), .val (.ref b4), .unset, .unset]) rfl ?_
    show Steps p.tables e below (T11.setTop (mkF m 50 #[.val (.int p1), .val (.int p2), .val (.int p3), .val (.ref b1), .val (.int (own_from p1)), .val (.int (own_to p1 p2)), .val (.int (own_len p1 p2)), .val (.ref b4), .unset, .unset] [])) _
    refine XS.aload X11.here hx rfl (hb hby at_50) rfl rfl ?_
    show Steps p.tables e below (T11.setTop (mkF m 52 #[.val (.int p1), .val (.int p2), .val (.int p3), .val (.ref b1), .val (.int (own_from p1)), .val (.int (own_to p1 p2)), .val (.int (own_len p1 p2)), .val (.ref b4), .unset, .unset] [(.ref b4)])) _
    refine st19.trans ?_
    show Steps p.tables e below (T19.setTop (mkF m 55 #[.val (.int p1), .val (.int p2), .val (.int p3), .val (.ref b1), .val (.int (own_from p1)), .val (.int (own_to p1 p2)), .val (.int (own_len p1 p2)), .val (.ref b4), .unset, .unset] [(.int (f_has (own_from p1) (own_to p1 p2)))])) _
    refine XS.iload X19.here hx rfl (hb hby at_55) rfl ?_
    show Steps p.tables e below (T19.setTop (mkF m 57 #[.val (.int p1), .val (.int p2), .val (.int p3), .val (.ref b1), .val (.int (own_from p1)), .val (.int (own_to p1 p2)), .val (.int (own_len p1 p2)), .val (.ref b4), .unset, .unset] [(.int (own_len p1 p2)), (.int (f_has (own_from p1) (own_to p1 p2)))])) _
    refine XS.ifNo X19.here hx rfl (hb hby at_57) rfl ((if0 _ _).trans (tlt hc0).2.2.2) ?_
    show Steps p.tables e below (T19.setTop (mkF m 60 #[.val (.int p1), .val (.int p2), .val (.int p3), .val (.ref b1), .val (.int (own_from p1)), .val (.int (own_to p1 p2)), .val (.int (own_len p1 p2)), .val (.ref b4), .unset, .unset] [(.int (f_has (own_from p1) (own_to p1 p2)))])) _
    refine XS.iconst X19.here hx rfl (hb hby at_60) ?_
    show Steps p.tables e below (T19.setTop (mkF m 61 #[.val (.int p1), .val (.int p2), .val (.int p3), .val (.ref b1), .val (.int (own_from p1)), .val (.int (own_to p1 p2)), .val (.int (own_len p1 p2)), .val (.ref b4), .unset, .unset] [(.int (1 : Int32)), (.int (f_has (own_from p1) (own_to p1 p2)))])) _
    refine XS.goto X19.here hx rfl (pc0 := 61) (pc' := 65) rfl (hb hby at_61) (by decide) (by decide) ?_
    show Steps p.tables e below (T19.setTop (mkF m 65 #[.val (.int p1), .val (.int p2), .val (.int p3), .val (.ref b1), .val (.int (own_from p1)), .val (.int (own_to p1 p2)), .val (.int (own_len p1 p2)), .val (.ref b4), .unset, .unset] [(.int (1 : Int32)), (.int (f_has (own_from p1) (own_to p1 p2)))])) _
    refine XS.icmpNo X19.here hx rfl (hb hby at_65) rfl (teq hc1).2 ?_
    show Steps p.tables e below (T19.setTop (mkF m 68 #[.val (.int p1), .val (.int p2), .val (.int p3), .val (.ref b1), .val (.int (own_from p1)), .val (.int (own_to p1 p2)), .val (.int (own_len p1 p2)), .val (.ref b4), .unset, .unset] [])) _
    refine XS.iconst X19.here hx rfl (hb hby at_68) ?_
    show Steps p.tables e below (T19.setTop (mkF m 69 #[.val (.int p1), .val (.int p2), .val (.int p3), .val (.ref b1), .val (.int (own_from p1)), .val (.int (own_to p1 p2)), .val (.int (own_len p1 p2)), .val (.ref b4), .unset, .unset] [(.int (1 : Int32))])) _
    refine XS.goto X19.here hx rfl (pc0 := 69) (pc' := 73) rfl (hb hby at_69) (by decide) (by decide) ?_
    show Steps p.tables e below (T19.setTop (mkF m 73 #[.val (.int p1), .val (.int p2), .val (.int p3), .val (.ref b1), .val (.int (own_from p1)), .val (.int (own_to p1 p2)), .val (.int (own_len p1 p2)), .val (.ref b4), .unset, .unset] [(.int (1 : Int32))])) _
    refine XS.istore X19.here hx rfl (hb hby at_73) rfl (l' := #[.val (.int p1), .val (.int p2), .val (.int p3), .val (.ref b1), .val (.int (own_from p1)), .val (.int (own_to p1 p2)), .val (.int (own_len p1 p2)), .val (.ref b4), .val (.int (1 : Int32)), .unset]) rfl ?_
    show Steps p.tables e below (T19.setTop (mkF m 75 #[.val (.int p1), .val (.int p2), .val (.int p3), .val (.ref b1), .val (.int (own_from p1)), .val (.int (own_to p1 p2)), .val (.int (own_len p1 p2)), .val (.ref b4), .val (.int (1 : Int32)), .unset] [])) _
    refine XS.iloadN X19.here hx rfl (hb hby at_75) rfl ?_
    show Steps p.tables e below (T19.setTop (mkF m 76 #[.val (.int p1), .val (.int p2), .val (.int p3), .val (.ref b1), .val (.int (own_from p1)), .val (.int (own_to p1 p2)), .val (.int (own_len p1 p2)), .val (.ref b4), .val (.int (1 : Int32)), .unset] [(.int p3)])) _
    refine X19.ldcInt hx hown (mvT hZ (hw _ (List.mem_of_getElem? (i := 1) rfl))) (g := (mkF m 76 #[.val (.int p1), .val (.int p2), .val (.int p3), .val (.ref b1), .val (.int (own_from p1)), .val (.int (own_to p1 p2)), .val (.int (own_len p1 p2)), .val (.ref b4), .val (.int (1 : Int32)), .unset] [(.int p3)])) rfl (hb hby at_76) _ ?_
    show Steps p.tables e below (T19.setTop (mkF m 78 #[.val (.int p1), .val (.int p2), .val (.int p3), .val (.ref b1), .val (.int (own_from p1)), .val (.int (own_to p1 p2)), .val (.int (own_len p1 p2)), .val (.ref b4), .val (.int (1 : Int32)), .unset] [(.int (2147483647 : Int32)), (.int p3)])) _
    refine XS.iand X19.here hx rfl (hb hby at_78) rfl ?_
    show Steps p.tables e below (T19.setTop (mkF m 79 #[.val (.int p1), .val (.int p2), .val (.int p3), .val (.ref b1), .val (.int (own_from p1)), .val (.int (own_to p1 p2)), .val (.int (own_len p1 p2)), .val (.ref b4), .val (.int (1 : Int32)), .unset] [(.int (p3 &&& (2147483647 : Int32)))])) _
    refine XS.iload X19.here hx rfl (hb hby at_79) rfl ?_
    show Steps p.tables e below (T19.setTop (mkF m 81 #[.val (.int p1), .val (.int p2), .val (.int p3), .val (.ref b1), .val (.int (own_from p1)), .val (.int (own_to p1 p2)), .val (.int (own_len p1 p2)), .val (.ref b4), .val (.int (1 : Int32)), .unset] [(.int (own_len p1 p2)), (.int (p3 &&& (2147483647 : Int32)))])) _
    refine XS.iconst X19.here hx rfl (hb hby at_81) ?_
    show Steps p.tables e below (T19.setTop (mkF m 82 #[.val (.int p1), .val (.int p2), .val (.int p3), .val (.ref b1), .val (.int (own_from p1)), .val (.int (own_to p1 p2)), .val (.int (own_len p1 p2)), .val (.ref b4), .val (.int (1 : Int32)), .unset] [(.int (1 : Int32)), (.int (own_len p1 p2)), (.int (p3 &&& (2147483647 : Int32)))])) _
    refine XS.iadd X19.here hx rfl (hb hby at_82) rfl ?_
    show Steps p.tables e below (T19.setTop (mkF m 83 #[.val (.int p1), .val (.int p2), .val (.int p3), .val (.ref b1), .val (.int (own_from p1)), .val (.int (own_to p1 p2)), .val (.int (own_len p1 p2)), .val (.ref b4), .val (.int (1 : Int32)), .unset] [(.int ((own_len p1 p2) + (1 : Int32))), (.int (p3 &&& (2147483647 : Int32)))])) _
    refine iremM X19 hx rfl (hb hby at_83) rfl hnz1 ?_
    show Steps p.tables e below (T19.setTop (mkF m 84 #[.val (.int p1), .val (.int p2), .val (.int p3), .val (.ref b1), .val (.int (own_from p1)), .val (.int (own_to p1 p2)), .val (.int (own_len p1 p2)), .val (.ref b4), .val (.int (1 : Int32)), .unset] [(.int ((p3 &&& (2147483647 : Int32)) % ((own_len p1 p2) + (1 : Int32))))])) _
    refine XS.istore X19.here hx rfl (hb hby at_84) rfl (l' := #[.val (.int p1), .val (.int p2), .val (.int p3), .val (.ref b1), .val (.int (own_from p1)), .val (.int (own_to p1 p2)), .val (.int (own_len p1 p2)), .val (.ref b4), .val (.int (1 : Int32)), .val (.int (own_k p1 p2 p3))]) rfl ?_
    show Steps p.tables e below (T19.setTop (mkF m 86 #[.val (.int p1), .val (.int p2), .val (.int p3), .val (.ref b1), .val (.int (own_from p1)), .val (.int (own_to p1 p2)), .val (.int (own_len p1 p2)), .val (.ref b4), .val (.int (1 : Int32)), .val (.int (own_k p1 p2 p3))] [])) _
    refine XS.aload X19.here hx rfl (hb hby at_86) rfl rfl ?_
    show Steps p.tables e below (T19.setTop (mkF m 88 #[.val (.int p1), .val (.int p2), .val (.int p3), .val (.ref b1), .val (.int (own_from p1)), .val (.int (own_to p1 p2)), .val (.int (own_len p1 p2)), .val (.ref b4), .val (.int (1 : Int32)), .val (.int (own_k p1 p2 p3))] [(.ref b4)])) _
    refine XS.iload X19.here hx rfl (hb hby at_88) rfl ?_
    show Steps p.tables e below (T19.setTop (mkF m 90 #[.val (.int p1), .val (.int p2), .val (.int p3), .val (.ref b1), .val (.int (own_from p1)), .val (.int (own_to p1 p2)), .val (.int (own_len p1 p2)), .val (.ref b4), .val (.int (1 : Int32)), .val (.int (own_k p1 p2 p3))] [(.int (own_k p1 p2 p3)), (.ref b4)])) _
    refine st21.trans ?_
    show Steps p.tables e below (T21.setTop (mkF m 93 #[.val (.int p1), .val (.int p2), .val (.int p3), .val (.ref b1), .val (.int (own_from p1)), .val (.int (own_to p1 p2)), .val (.int (own_len p1 p2)), .val (.ref b4), .val (.int (1 : Int32)), .val (.int (own_k p1 p2 p3))] [])) _
    refine XS.iload X21.here hx rfl (hb hby at_93) rfl ?_
    show Steps p.tables e below (T21.setTop (mkF m 95 #[.val (.int p1), .val (.int p2), .val (.int p3), .val (.ref b1), .val (.int (own_from p1)), .val (.int (own_to p1 p2)), .val (.int (own_len p1 p2)), .val (.ref b4), .val (.int (1 : Int32)), .val (.int (own_k p1 p2 p3))] [(.int (1 : Int32))])) _
    refine XS.ifNo X21.here hx rfl (hb hby at_95) rfl ((if0 _ _).trans (feq (by decide : ¬ ((1 : Int32) = (0 : Int32)))).1) ?_
    show Steps p.tables e below (T21.setTop (mkF m 98 #[.val (.int p1), .val (.int p2), .val (.int p3), .val (.ref b1), .val (.int (own_from p1)), .val (.int (own_to p1 p2)), .val (.int (own_len p1 p2)), .val (.ref b4), .val (.int (1 : Int32)), .val (.int (own_k p1 p2 p3))] [])) _
    refine XS.aload X21.here hx rfl (hb hby at_98) rfl rfl ?_
    show Steps p.tables e below (T21.setTop (mkF m 100 #[.val (.int p1), .val (.int p2), .val (.int p3), .val (.ref b1), .val (.int (own_from p1)), .val (.int (own_to p1 p2)), .val (.int (own_len p1 p2)), .val (.ref b4), .val (.int (1 : Int32)), .val (.int (own_k p1 p2 p3))] [(.ref b4)])) _
    refine st29.trans ?_
    show Steps p.tables e below (T29.setTop (mkF m 103 #[.val (.int p1), .val (.int p2), .val (.int p3), .val (.ref b1), .val (.int (own_from p1)), .val (.int (own_to p1 p2)), .val (.int (own_len p1 p2)), .val (.ref b4), .val (.int (1 : Int32)), .val (.int (own_k p1 p2 p3))] [(.int (f_has ((own_from p1) + (own_k p1 p2 p3)) (own_to p1 p2)))])) _
    refine XS.iload X29.here hx rfl (hb hby at_103) rfl ?_
    show Steps p.tables e below (T29.setTop (mkF m 105 #[.val (.int p1), .val (.int p2), .val (.int p3), .val (.ref b1), .val (.int (own_from p1)), .val (.int (own_to p1 p2)), .val (.int (own_len p1 p2)), .val (.ref b4), .val (.int (1 : Int32)), .val (.int (own_k p1 p2 p3))] [(.int (own_k p1 p2 p3)), (.int (f_has ((own_from p1) + (own_k p1 p2 p3)) (own_to p1 p2)))])) _
    refine XS.iload X29.here hx rfl (hb hby at_105) rfl ?_
    show Steps p.tables e below (T29.setTop (mkF m 107 #[.val (.int p1), .val (.int p2), .val (.int p3), .val (.ref b1), .val (.int (own_from p1)), .val (.int (own_to p1 p2)), .val (.int (own_len p1 p2)), .val (.ref b4), .val (.int (1 : Int32)), .val (.int (own_k p1 p2 p3))] [(.int (own_len p1 p2)), (.int (own_k p1 p2 p3)), (.int (f_has ((own_from p1) + (own_k p1 p2 p3)) (own_to p1 p2)))])) _
    refine XS.icmpNo X29.here hx rfl (hb hby at_107) rfl (tlt hc2).2.1 ?_
    show Steps p.tables e below (T29.setTop (mkF m 110 #[.val (.int p1), .val (.int p2), .val (.int p3), .val (.ref b1), .val (.int (own_from p1)), .val (.int (own_to p1 p2)), .val (.int (own_len p1 p2)), .val (.ref b4), .val (.int (1 : Int32)), .val (.int (own_k p1 p2 p3))] [(.int (f_has ((own_from p1) + (own_k p1 p2 p3)) (own_to p1 p2)))])) _
    refine XS.iconst X29.here hx rfl (hb hby at_110) ?_
    show Steps p.tables e below (T29.setTop (mkF m 111 #[.val (.int p1), .val (.int p2), .val (.int p3), .val (.ref b1), .val (.int (own_from p1)), .val (.int (own_to p1 p2)), .val (.int (own_len p1 p2)), .val (.ref b4), .val (.int (1 : Int32)), .val (.int (own_k p1 p2 p3))] [(.int (1 : Int32)), (.int (f_has ((own_from p1) + (own_k p1 p2 p3)) (own_to p1 p2)))])) _
    refine XS.goto X29.here hx rfl (pc0 := 111) (pc' := 115) rfl (hb hby at_111) (by decide) (by decide) ?_
    show Steps p.tables e below (T29.setTop (mkF m 115 #[.val (.int p1), .val (.int p2), .val (.int p3), .val (.ref b1), .val (.int (own_from p1)), .val (.int (own_to p1 p2)), .val (.int (own_len p1 p2)), .val (.ref b4), .val (.int (1 : Int32)), .val (.int (own_k p1 p2 p3))] [(.int (1 : Int32)), (.int (f_has ((own_from p1) + (own_k p1 p2 p3)) (own_to p1 p2)))])) _
    refine XS.icmpNo X29.here hx rfl (hb hby at_115) rfl (teq hc3).2 ?_
    show Steps p.tables e below (T29.setTop (mkF m 118 #[.val (.int p1), .val (.int p2), .val (.int p3), .val (.ref b1), .val (.int (own_from p1)), .val (.int (own_to p1 p2)), .val (.int (own_len p1 p2)), .val (.ref b4), .val (.int (1 : Int32)), .val (.int (own_k p1 p2 p3))] [])) _
    refine XS.iconst X29.here hx rfl (hb hby at_118) ?_
    show Steps p.tables e below (T29.setTop (mkF m 119 #[.val (.int p1), .val (.int p2), .val (.int p3), .val (.ref b1), .val (.int (own_from p1)), .val (.int (own_to p1 p2)), .val (.int (own_len p1 p2)), .val (.ref b4), .val (.int (1 : Int32)), .val (.int (own_k p1 p2 p3))] [(.int (1 : Int32))])) _
    refine XS.goto X29.here hx rfl (pc0 := 119) (pc' := 123) rfl (hb hby at_119) (by decide) (by decide) ?_
    show Steps p.tables e below (T29.setTop (mkF m 123 #[.val (.int p1), .val (.int p2), .val (.int p3), .val (.ref b1), .val (.int (own_from p1)), .val (.int (own_to p1 p2)), .val (.int (own_len p1 p2)), .val (.ref b4), .val (.int (1 : Int32)), .val (.int (own_k p1 p2 p3))] [(.int (1 : Int32))])) _
    refine XS.istore X29.here hx rfl (hb hby at_123) rfl (l' := #[.val (.int p1), .val (.int p2), .val (.int p3), .val (.ref b1), .val (.int (own_from p1)), .val (.int (own_to p1 p2)), .val (.int (own_len p1 p2)), .val (.ref b4), .val (.int (1 : Int32)), .val (.int (own_k p1 p2 p3))]) rfl ?_
    show Steps p.tables e below (T29.setTop (mkF m 125 #[.val (.int p1), .val (.int p2), .val (.int p3), .val (.ref b1), .val (.int (own_from p1)), .val (.int (own_to p1 p2)), .val (.int (own_len p1 p2)), .val (.ref b4), .val (.int (1 : Int32)), .val (.int (own_k p1 p2 p3))] [])) _
    refine XS.iload X29.here hx rfl (hb hby at_125) rfl ?_
    show Steps p.tables e below (T29.setTop (mkF m 127 #[.val (.int p1), .val (.int p2), .val (.int p3), .val (.ref b1), .val (.int (own_from p1)), .val (.int (own_to p1 p2)), .val (.int (own_len p1 p2)), .val (.ref b4), .val (.int (1 : Int32)), .val (.int (own_k p1 p2 p3))] [(.int (own_k p1 p2 p3))])) _
    refine XS.iload X29.here hx rfl (hb hby at_127) rfl ?_
    show Steps p.tables e below (T29.setTop (mkF m 129 #[.val (.int p1), .val (.int p2), .val (.int p3), .val (.ref b1), .val (.int (own_from p1)), .val (.int (own_to p1 p2)), .val (.int (own_len p1 p2)), .val (.ref b4), .val (.int (1 : Int32)), .val (.int (own_k p1 p2 p3))] [(.int (own_len p1 p2)), (.int (own_k p1 p2 p3))])) _
    refine XS.icmpNo X29.here hx rfl (hb hby at_129) rfl (tlt hc2).2.1 ?_
    show Steps p.tables e below (T29.setTop (mkF m 132 #[.val (.int p1), .val (.int p2), .val (.int p3), .val (.ref b1), .val (.int (own_from p1)), .val (.int (own_to p1 p2)), .val (.int (own_len p1 p2)), .val (.ref b4), .val (.int (1 : Int32)), .val (.int (own_k p1 p2 p3))] [])) _
    refine XS.aload X29.here hx rfl (hb hby at_132) rfl rfl ?_
    show Steps p.tables e below (T29.setTop (mkF m 134 #[.val (.int p1), .val (.int p2), .val (.int p3), .val (.ref b1), .val (.int (own_from p1)), .val (.int (own_to p1 p2)), .val (.int (own_len p1 p2)), .val (.ref b4), .val (.int (1 : Int32)), .val (.int (own_k p1 p2 p3))] [(.ref b4)])) _
    refine st31.trans ?_
    show Steps p.tables e below (T31.setTop (mkF m 137 #[.val (.int p1), .val (.int p2), .val (.int p3), .val (.ref b1), .val (.int (own_from p1)), .val (.int (own_to p1 p2)), .val (.int (own_len p1 p2)), .val (.ref b4), .val (.int (1 : Int32)), .val (.int (own_k p1 p2 p3))] [(.int ((own_at [(.int (0 : Int32)), (.int (0 : Int32)), (.int (0 : Int32)), (.int (0 : Int32)), (.int (0 : Int32)), (.int (0 : Int32)), (.int (0 : Int32)), (.int (0 : Int32)), (.int (0 : Int32)), (.int (0 : Int32)), (.int (0 : Int32)), (.int (0 : Int32)), (.int (0 : Int32)), (.int (0 : Int32)), (.int (0 : Int32)), (.int (0 : Int32))] (((own_from p1) + (own_k p1 p2 p3))).toNatClampNeg (.int (0 : Int32))).toInt8.toInt32))])) _
    refine XS.pop X31.here hx rfl (hb hby at_137) rfl rfl ?_
    show Steps p.tables e below (T31.setTop (mkF m 138 #[.val (.int p1), .val (.int p2), .val (.int p3), .val (.ref b1), .val (.int (own_from p1)), .val (.int (own_to p1 p2)), .val (.int (own_len p1 p2)), .val (.ref b4), .val (.int (1 : Int32)), .val (.int (own_k p1 p2 p3))] [])) _
    refine XS.iload X31.here hx rfl (hb hby at_138) rfl ?_
    show Steps p.tables e below (T31.setTop (mkF m 140 #[.val (.int p1), .val (.int p2), .val (.int p3), .val (.ref b1), .val (.int (own_from p1)), .val (.int (own_to p1 p2)), .val (.int (own_len p1 p2)), .val (.ref b4), .val (.int (1 : Int32)), .val (.int (own_k p1 p2 p3))] [(.int (1 : Int32))])) _
    refine XS.ifNo X31.here hx rfl (hb hby at_140) rfl ((if0 _ _).trans (feq (by decide : ¬ ((1 : Int32) = (0 : Int32)))).1) ?_
    show Steps p.tables e below (T31.setTop (mkF m 143 #[.val (.int p1), .val (.int p2), .val (.int p3), .val (.ref b1), .val (.int (own_from p1)), .val (.int (own_to p1 p2)), .val (.int (own_len p1 p2)), .val (.ref b4), .val (.int (1 : Int32)), .val (.int (own_k p1 p2 p3))] [])) _
    refine XS.aload X31.here hx rfl (hb hby at_143) rfl rfl ?_
    show Steps p.tables e below (T31.setTop (mkF m 145 #[.val (.int p1), .val (.int p2), .val (.int p3), .val (.ref b1), .val (.int (own_from p1)), .val (.int (own_to p1 p2)), .val (.int (own_len p1 p2)), .val (.ref b4), .val (.int (1 : Int32)), .val (.int (own_k p1 p2 p3))] [(.ref b4)])) _
    refine st39.trans ?_
    show Steps p.tables e below (T39.setTop (mkF m 148 #[.val (.int p1), .val (.int p2), .val (.int p3), .val (.ref b1), .val (.int (own_from p1)), .val (.int (own_to p1 p2)), .val (.int (own_len p1 p2)), .val (.ref b4), .val (.int (1 : Int32)), .val (.int (own_k p1 p2 p3))] [(.int (f_has (((own_from p1) + (own_k p1 p2 p3)) + (1 : Int32)) (own_to p1 p2)))])) _
    refine XS.iload X39.here hx rfl (hb hby at_148) rfl ?_
    show Steps p.tables e below (T39.setTop (mkF m 150 #[.val (.int p1), .val (.int p2), .val (.int p3), .val (.ref b1), .val (.int (own_from p1)), .val (.int (own_to p1 p2)), .val (.int (own_len p1 p2)), .val (.ref b4), .val (.int (1 : Int32)), .val (.int (own_k p1 p2 p3))] [(.int (own_k p1 p2 p3)), (.int (f_has (((own_from p1) + (own_k p1 p2 p3)) + (1 : Int32)) (own_to p1 p2)))])) _
    refine XS.iconst X39.here hx rfl (hb hby at_150) ?_
    show Steps p.tables e below (T39.setTop (mkF m 151 #[.val (.int p1), .val (.int p2), .val (.int p3), .val (.ref b1), .val (.int (own_from p1)), .val (.int (own_to p1 p2)), .val (.int (own_len p1 p2)), .val (.ref b4), .val (.int (1 : Int32)), .val (.int (own_k p1 p2 p3))] [(.int (1 : Int32)), (.int (own_k p1 p2 p3)), (.int (f_has (((own_from p1) + (own_k p1 p2 p3)) + (1 : Int32)) (own_to p1 p2)))])) _
    refine XS.iadd X39.here hx rfl (hb hby at_151) rfl ?_
    show Steps p.tables e below (T39.setTop (mkF m 152 #[.val (.int p1), .val (.int p2), .val (.int p3), .val (.ref b1), .val (.int (own_from p1)), .val (.int (own_to p1 p2)), .val (.int (own_len p1 p2)), .val (.ref b4), .val (.int (1 : Int32)), .val (.int (own_k p1 p2 p3))] [(.int ((own_k p1 p2 p3) + (1 : Int32))), (.int (f_has (((own_from p1) + (own_k p1 p2 p3)) + (1 : Int32)) (own_to p1 p2)))])) _
    refine XS.iload X39.here hx rfl (hb hby at_152) rfl ?_
    show Steps p.tables e below (T39.setTop (mkF m 154 #[.val (.int p1), .val (.int p2), .val (.int p3), .val (.ref b1), .val (.int (own_from p1)), .val (.int (own_to p1 p2)), .val (.int (own_len p1 p2)), .val (.ref b4), .val (.int (1 : Int32)), .val (.int (own_k p1 p2 p3))] [(.int (own_len p1 p2)), (.int ((own_k p1 p2 p3) + (1 : Int32))), (.int (f_has (((own_from p1) + (own_k p1 p2 p3)) + (1 : Int32)) (own_to p1 p2)))])) _
    refine XS.icmpNo X39.here hx rfl (hb hby at_154) rfl (tlt hc4).2.1 ?_
    show Steps p.tables e below (T39.setTop (mkF m 157 #[.val (.int p1), .val (.int p2), .val (.int p3), .val (.ref b1), .val (.int (own_from p1)), .val (.int (own_to p1 p2)), .val (.int (own_len p1 p2)), .val (.ref b4), .val (.int (1 : Int32)), .val (.int (own_k p1 p2 p3))] [(.int (f_has (((own_from p1) + (own_k p1 p2 p3)) + (1 : Int32)) (own_to p1 p2)))])) _
    refine XS.iconst X39.here hx rfl (hb hby at_157) ?_
    show Steps p.tables e below (T39.setTop (mkF m 158 #[.val (.int p1), .val (.int p2), .val (.int p3), .val (.ref b1), .val (.int (own_from p1)), .val (.int (own_to p1 p2)), .val (.int (own_len p1 p2)), .val (.ref b4), .val (.int (1 : Int32)), .val (.int (own_k p1 p2 p3))] [(.int (1 : Int32)), (.int (f_has (((own_from p1) + (own_k p1 p2 p3)) + (1 : Int32)) (own_to p1 p2)))])) _
    refine XS.goto X39.here hx rfl (pc0 := 158) (pc' := 162) rfl (hb hby at_158) (by decide) (by decide) ?_
    show Steps p.tables e below (T39.setTop (mkF m 162 #[.val (.int p1), .val (.int p2), .val (.int p3), .val (.ref b1), .val (.int (own_from p1)), .val (.int (own_to p1 p2)), .val (.int (own_len p1 p2)), .val (.ref b4), .val (.int (1 : Int32)), .val (.int (own_k p1 p2 p3))] [(.int (1 : Int32)), (.int (f_has (((own_from p1) + (own_k p1 p2 p3)) + (1 : Int32)) (own_to p1 p2)))])) _
    refine XS.icmpNo X39.here hx rfl (hb hby at_162) rfl (teq hc5).2 ?_
    show Steps p.tables e below (T39.setTop (mkF m 165 #[.val (.int p1), .val (.int p2), .val (.int p3), .val (.ref b1), .val (.int (own_from p1)), .val (.int (own_to p1 p2)), .val (.int (own_len p1 p2)), .val (.ref b4), .val (.int (1 : Int32)), .val (.int (own_k p1 p2 p3))] [])) _
    refine XS.iconst X39.here hx rfl (hb hby at_165) ?_
    show Steps p.tables e below (T39.setTop (mkF m 166 #[.val (.int p1), .val (.int p2), .val (.int p3), .val (.ref b1), .val (.int (own_from p1)), .val (.int (own_to p1 p2)), .val (.int (own_len p1 p2)), .val (.ref b4), .val (.int (1 : Int32)), .val (.int (own_k p1 p2 p3))] [(.int (1 : Int32))])) _
    refine XS.goto X39.here hx rfl (pc0 := 166) (pc' := 170) rfl (hb hby at_166) (by decide) (by decide) ?_
    show Steps p.tables e below (T39.setTop (mkF m 170 #[.val (.int p1), .val (.int p2), .val (.int p3), .val (.ref b1), .val (.int (own_from p1)), .val (.int (own_to p1 p2)), .val (.int (own_len p1 p2)), .val (.ref b4), .val (.int (1 : Int32)), .val (.int (own_k p1 p2 p3))] [(.int (1 : Int32))])) _
    refine XS.istore X39.here hx rfl (hb hby at_170) rfl (l' := #[.val (.int p1), .val (.int p2), .val (.int p3), .val (.ref b1), .val (.int (own_from p1)), .val (.int (own_to p1 p2)), .val (.int (own_len p1 p2)), .val (.ref b4), .val (.int (1 : Int32)), .val (.int (own_k p1 p2 p3))]) rfl ?_
    show Steps p.tables e below (T39.setTop (mkF m 172 #[.val (.int p1), .val (.int p2), .val (.int p3), .val (.ref b1), .val (.int (own_from p1)), .val (.int (own_to p1 p2)), .val (.int (own_len p1 p2)), .val (.ref b4), .val (.int (1 : Int32)), .val (.int (own_k p1 p2 p3))] [])) _
    refine XS.iload X39.here hx rfl (hb hby at_172) rfl ?_
    show Steps p.tables e below (T39.setTop (mkF m 174 #[.val (.int p1), .val (.int p2), .val (.int p3), .val (.ref b1), .val (.int (own_from p1)), .val (.int (own_to p1 p2)), .val (.int (own_len p1 p2)), .val (.ref b4), .val (.int (1 : Int32)), .val (.int (own_k p1 p2 p3))] [(.int (1 : Int32))])) _
    exact retN X39 hx (t := .boolean) Bd.returns (by simp) (hb hby at_174) hr
  · show Q_law Z p1 p2 p3 h0 n0 _ T39.heap _
    rw [e39]
    exact ⟨rfl, N40⟩
theorem own_core (F T L K : Int32) (hF0 : 0 ≤ F.toInt) (hF : F.toInt ≤ T.toInt) (hT : T.toInt ≤ 16) (hL : L.toInt = T.toInt - F.toInt) (hK0 : 0 ≤ K.toInt) (hK : K.toInt ≤ L.toInt) :
    ((F + K).toInt = F.toInt + K.toInt) ∧ ((F + K + 1).toInt = F.toInt + K.toInt + 1) ∧ ((K + 1).toInt = K.toInt + 1) ∧ (T - F).toInt = L.toInt ∧ (L + 1).toInt = L.toInt + 1 := by
  have o1 : (1 : Int32).toInt = 1 := by decide
  have a1 := c_iadd F K
  have a2 := rng32 (F + K)
  have a3 := c_iadd (F + K) 1
  have a4 := rng32 (F + K + 1)
  have a5 := c_iadd K 1
  have a6 := rng32 (K + 1)
  have a7 := c_isub T F
  have a8 := rng32 (T - F)
  have a9 := c_iadd L 1
  have a10 := rng32 (L + 1)
  omega
theorem own_from_rng (p1 : Int32) : 0 ≤ (own_from p1).toInt ∧ (own_from p1).toInt ≤ 16 := by
  have e := own_imod_rng (p1 &&& 2147483647) 17 (own_mI p1).1 (by decide)
  have o : (17 : Int32).toInt = 17 := by decide
  unfold own_from; omega
theorem own_to_rng (p1 p2 : Int32) : 0 < ((17 : Int32) - own_from p1).toInt ∧ (own_from p1).toInt ≤ (own_to p1 p2).toInt ∧ (own_to p1 p2).toInt ≤ 16 := by
  have f := own_from_rng p1
  have o : (17 : Int32).toInt = 17 := by decide
  have a1 := c_isub 17 (own_from p1)
  have a2 := rng32 (17 - own_from p1)
  have e0 : 0 < ((17 : Int32) - own_from p1).toInt := by omega
  have e := own_imod_rng (p2 &&& 2147483647) (17 - own_from p1) (own_mI p2).1 e0
  have a3 := c_iadd (own_from p1) ((p2 &&& 2147483647) % (17 - own_from p1))
  have a4 := rng32 (own_from p1 + ((p2 &&& 2147483647) % (17 - own_from p1)))
  refine ⟨e0, ?_⟩
  unfold own_to; omega
theorem own_len_eq (p1 p2 : Int32) : (own_len p1 p2).toInt = (own_to p1 p2).toInt - (own_from p1).toInt := by
  have f := own_from_rng p1
  have t := own_to_rng p1 p2
  have a1 := c_isub (own_to p1 p2) (own_from p1)
  have a2 := rng32 (own_to p1 p2 - own_from p1)
  unfold own_len; omega
theorem own_k_rng (p1 p2 p3 : Int32) : 0 < (own_len p1 p2 + 1).toInt ∧ 0 ≤ (own_k p1 p2 p3).toInt ∧ (own_k p1 p2 p3).toInt ≤ (own_len p1 p2).toInt := by
  have f := own_from_rng p1
  have t := own_to_rng p1 p2
  have l := own_len_eq p1 p2
  have o1 : (1 : Int32).toInt = 1 := by decide
  have a9 := c_iadd (own_len p1 p2) 1
  have a10 := rng32 (own_len p1 p2 + 1)
  have e0 : 0 < (own_len p1 p2 + 1).toInt := by omega
  have e := own_imod_rng (p3 &&& 2147483647) (own_len p1 p2 + 1) (own_mI p3).1 e0
  refine ⟨e0, ?_⟩
  unfold own_k; omega
theorem own_has1 (a b : Int32) (h : a.toInt < b.toInt) : f_has a b = (1 : Int32) := by unfold f_has; rw [if_pos (own_lt32.mpr h)]
theorem own_has0 (a b : Int32) (h : ¬ a.toInt < b.toInt) : f_has a b = (0 : Int32) := by unfold f_has; rw [if_neg (fun q => h (own_lt32.mp q))]
theorem own_plain (p1 p2 p3 : Int32) : Road_tftft p1 p2 p3 ∨ Road_fftft p1 p2 p3 ∨ Road_ffffftf p1 p2 p3 ∨ Road_fffffff p1 p2 p3 := by
  have f := own_from_rng p1
  have t := own_to_rng p1 p2
  have l := own_len_eq p1 p2
  have k := own_k_rng p1 p2 p3
  obtain ⟨c1, c2, c3, c4, c5⟩ := own_core (own_from p1) (own_to p1 p2) (own_len p1 p2) (own_k p1 p2 p3) f.1 t.2.1 t.2.2 l k.2.1 k.2.2
  have z0 : (0 : Int32).toInt = 0 := by decide
  have z16 : (16 : Int32).toInt = 16 := by decide
  have g1 : ¬ (((17 : Int32) - (own_from p1)) = (0 : Int32)) := own_nz32 t.1
  have g2 : ¬ (((own_len p1 p2) + (1 : Int32)) = (0 : Int32)) := own_nz32 k.1
  have g3 : ¬ ((own_k p1 p2 p3) < (0 : Int32)) := by rw [own_lt32]; omega
  have g4 : ¬ (((own_to p1 p2) - (own_from p1)) < (own_k p1 p2 p3)) := by rw [own_lt32]; omega
  have g5 : ¬ (((own_from p1) + (own_k p1 p2 p3)) < (0 : Int32)) := by rw [own_lt32]; omega
  by_cases h1 : (0 : Int32) < own_len p1 p2
  · have h1' := own_lt32.mp h1
    by_cases h2 : own_k p1 p2 p3 < own_len p1 p2
    · have h2' := own_lt32.mp h2
      have g6 : ((own_from p1) + (own_k p1 p2 p3)) < (16 : Int32) := by rw [own_lt32]; omega
      have g7 : ((own_from p1) + (own_k p1 p2 p3)) < (own_to p1 p2) := by rw [own_lt32]; omega
      by_cases h3 : own_k p1 p2 p3 + (1 : Int32) < own_len p1 p2
      · have h3' := own_lt32.mp h3
        exact Or.inr (Or.inr (Or.inr ⟨g1, g2, g3, g4, g5, g6, g7, h1, own_has1 _ _ (by omega), h2, own_has1 _ _ (by omega), h3, own_has1 _ _ (by omega)⟩))
      · have h3' : ¬ (own_k p1 p2 p3 + (1 : Int32)).toInt < (own_len p1 p2).toInt := fun q => h3 (own_lt32.mpr q)
        exact Or.inr (Or.inr (Or.inl ⟨g1, g2, g3, g4, g5, g6, g7, h1, own_has1 _ _ (by omega), h2, own_has1 _ _ (by omega), h3, own_has0 _ _ (by omega)⟩))
    · have h2' : ¬ (own_k p1 p2 p3).toInt < (own_len p1 p2).toInt := fun q => h2 (own_lt32.mpr q)
      exact Or.inr (Or.inl ⟨g1, g2, g3, g4, h1, own_has1 _ _ (by omega), h2, own_has0 _ _ (by omega)⟩)
  · have h1' : ¬ (0 : Int32).toInt < (own_len p1 p2).toInt := fun q => h1 (own_lt32.mpr q)
    have h2 : ¬ own_k p1 p2 p3 < own_len p1 p2 := by rw [own_lt32]; omega
    exact Or.inl ⟨g1, g2, g3, g4, h1, own_has0 _ _ (by omega), h2, own_has0 _ _ (by omega)⟩
set_option maxRecDepth 65536 in
set_option maxHeartbeats 40000000 in
theorem rm_law (l : Launch) (Z : State) (a0 : Array Value) (hw : ∀ d ∈ tables_1, d.before a0 Z = true) (ws : List Jvm.Cond) (p1 : Int32) (p2 : Int32) (p3 : Int32) (h0 : Heap) (n0 : Nat) (Z0 : n0 ≤ h0.size) :
    MetFree l x (head1 (Jvm.Cond.code x code maxLocals ret :: ws) room_1) (fun a U => a = #[(.int p1), (.int p2), (.int p3)] ∧ Z.Warmed39 U.vm ∧ U.heap = h0) (fun _ _ _ _ _ => True) (fun _ U o U' => ∃ v L, o = .returned v ∧ Q_law Z p1 p2 p3 h0 n0 v U'.heap L ∧ FrameEnd U o U' L room_1.cells room_1.slots) := by
  rcases own_plain p1 p2 p3 with h | h | h | h
  · exact rm_law_tftft l Z a0 hw ws p1 p2 p3 h0 n0 Z0 h
  · exact rm_law_fftft l Z a0 hw ws p1 p2 p3 h0 n0 Z0 h
  · exact rm_law_ffffftf l Z a0 hw ws p1 p2 p3 h0 n0 Z0 h
  · exact rm_law_fffffff l Z a0 hw ws p1 p2 p3 h0 n0 Z0 h
set_option maxRecDepth 65536 in
set_option maxHeartbeats 40000000 in
theorem comes_1 {Post : Tables → Env → Array Value → State → Outcome → State → Prop} (hpost : ∀ tb e args s v u, (limb_1_1.after args s (.returned v) u = true ∧ limb_1_2.after args s (.returned v) u = true ∧ True) → FrameEnd s (.returned v) u (Jvm.fieldLocs frame_1_writes args s ++ Jvm.arrayLocs frame_1_arrays args s ++ Jvm.staticLocs frame_1_statics s) 16 128 → Post tb e args s (.returned v) u) :
    ArmFor flags0 classFile x code maxLocals ret World_1 tables_1 room_1 Calls_1 rest_1 Pre_1 Post := by
  intro l hfl _ _ p e ha hc hk s m args below hf hA hF happ hP
  obtain ⟨hcalls, hrest, hpre⟩ := hP
  obtain ⟨-, -, -, hnamed, -, -, -, hat⟩ := (Spec.applies_iff hf).mp happ
  obtain ⟨hg, hn⟩ := and_e (Cond.before_iff.mp (show (Jvm.Cond.and given_1 narrow_1).before args s = true from hpre))
  obtain ⟨g1, g2⟩ := and_e hg
  obtain ⟨g3, g4⟩ := and_e g2
  obtain ⟨g5, g6⟩ := and_e g4
  obtain ⟨w0, w1, w2, rfl⟩ : ∃ w0 w1 w2 : Value, args = #[w0, w1, w2] := by
    have hs : args.size = 3 := by simpa [Cond.value, given_1] using g1
    obtain ⟨L⟩ := args
    match L, hs with
    | [w0, w1, w2], _ => exact ⟨w0, w1, w2, rfl⟩
  have hw := fun d (hd : d ∈ tables_1) => atoms_spec (ws := Jvm.Cond.code x code maxLocals ret :: tables_1) hat d (List.mem_cons_of_mem _ hd)
  have hfit : Fit s := fun {y c} hc i hi => by
    obtain ⟨ha, rfl⟩ := Array.getElem?_eq_some_iff.mp hc
    have q := List.all_eq_true.mp ((Array.all_eq_true_iff_forall_mem.mp hF) _ (Array.getElem_mem ha)) i (List.mem_range.mpr hi)
    simpa [Array.getElem?_eq_getElem hi] using q
  obtain ⟨i0, ei0⟩ := is_v g3
  obtain rfl : w0 = (.int i0) := Option.some.inj ei0
  obtain ⟨i1, ei1⟩ := is_v g5
  obtain rfl : w1 = (.int i1) := Option.some.inj ei1
  obtain ⟨i2, ei2⟩ := is_v g6
  obtain rfl : w2 = (.int i2) := Option.some.inj ei2
  obtain ⟨n, o, h1, h2, h3, _, L, rfl, ⟨rfl, N⟩, hq⟩ := rm_law l s _ hw tables_1 i0 i1 i2 s.heap s.heap.size (Nat.le_refl _) p e ha hc hk s m _ below hf ((Spec.applies_iff_loose hf).mp happ).1 ⟨rfl, State.Warmed39.refl s, rfl⟩ trivial
  refine ⟨n, _, h1, h2, h3, hpost _ _ _ _ _ _ ⟨Cond.after_iff.mpr rfl, Cond.after_iff.mpr (eq_i res_at (Term.int_eval (1)) rfl), trivial⟩ ⟨hq.1, hq.2.1, (hq.2.2.sift fun y hy => Or.inr (N y hy)).mono (by decide) (by decide)⟩⟩
theorem main_1_1 : Claimed_1_1 := comes_1 fun _ _ _ _ _ _ h hF => ⟨h.1, hF⟩
theorem main_1_2 : Claimed_1_2 := comes_1 fun _ _ _ _ _ _ h hF => ⟨h.2.1, hF⟩
end Jvm.Pilot.@@N@@
namespace Jvm.Pilot.@@N@@
open Jvm Jvm.ClassFile Sem Op Lib Jvm.Free Jvm.Stand Jvm.Pilot.@@N@@.Jvm.D
/-! MADE BY PROGRAM (witnessworld.py) out of the Statement's table words and the real class files: 9 classes; the members and pool entries that the words name. The judged class is class 1, her method 1. -/
namespace start1
open Jvm.ClassFile
def u (s : String) : CpInfo := .utf8 (stringToUtf16 s)
/-- a pool by its gaps: so many unusable entries, then the entry; so many at the end -/
def gap : Nat → List CpInfo → List CpInfo
  | 0, r => r
  | n + 1, r => .unusable :: gap n r
def poolList (es : List (Nat × CpInfo)) (last : Nat) : List CpInfo := es.foldr (fun e r => gap e.1 (e.2 :: r)) (gap last [])
def pool (es : List (Nat × CpInfo)) (last : Nat) : Array CpInfo := ⟨poolList es last⟩
def fileOf (pool : Array CpInfo) (this : Nat) (attrs : Array Attribute := #[]) (ms : Array MethodInfo := #[]) (fl : Nat := 33) (sup : Nat := 0) (ifs : Array Nat := #[]) (fds : Array FieldInfo := #[]) : ClassFile where
  minorVersion := 0
  majorVersion := 65
  constantPool := pool
  accessFlags := fl
  thisClass := this
  superClass := sup
  interfaces := ifs
  fields := fds
  methods := ms
  attributes := attrs
def plain (name : String) (sup : Option ClassId) : Class where
  name := name
  kind := .ordinary
  loader := none
  accessFlags := 33
  super := sup
  interfaces := #[]
  cf := none
  fields := #[]
  methods := #[]
  instanceTypes := #[]
  staticTypes := #[]
  resolved := #[]
  callSites := []
  init := .initialized
  statics := none
  mirror := none

def pool0 : Array CpInfo := pool [(5, u "<init>"), (0, u "()V"), (1, .class_ 10), (1, u "java/lang/Object")] 113

def k0c0 : Code := { maxStack := 0, maxLocals := 1, code := object_method_1_code, exceptionTable := #[], attributes := #[] }
def k0m0 : Method := { name := "<init>", desc := "()V", sig := { parameters := [], returnType := none }, accessFlags := 1, code := some k0c0 }
/-- java/lang/Object -/
def k0 : Class := { plain "java/lang/Object" none with
  accessFlags := 33
  interfaces := #[]
  cf := some (fileOf pool0 8 #[] #[{ accessFlags := 1, nameIndex := 5, descriptorIndex := 6, attributes := #[] }] 33 0 #[] #[])
  fields := #[]
  methods := #[k0m0]
  instanceTypes := #[]
  staticTypes := #[]
  resolved := Array.replicate 124 none
  statics := none }

def pool1 : Array CpInfo := pool [(2, .class_ 4), (1, u "java/lang/Object"), (0, u "<init>"), (0, u "()V"), (0, .integer 2147483647), (0, .class_ 9), (0, u "com/example/fieldstone/fieldstone/core/ByteReader"), (0, .methodref 8 11), (0, .nameAndType 5 12), (0, u "([BII)V"), (0, .methodref 8 14), (0, .nameAndType 15 16), (0, u "hasRemaining"), (0, u "()Z"), (0, .methodref 8 18), (0, .nameAndType 19 20), (0, u "skip"), (0, u "(I)V"), (0, .methodref 8 22), (0, .nameAndType 23 24), (0, u "get"), (0, u "()B"), (0, .class_ 26), (0, u "com/example/fieldstone/fieldstone/core/ByteReaderHasRemainingPinLaw"), (2, u "law"), (0, u "(III)Z")] 5

def k1m0 : Method := { name := "<init>", desc := "()V", sig := { parameters := [], returnType := none }, accessFlags := 1, code := none }
def k1c1 : Code := { maxStack := 5, maxLocals := 10, code := code, exceptionTable := #[], attributes := #[] }
def k1m1 : Method := { name := "law", desc := "(III)Z", sig := { parameters := [.int, .int, .int], returnType := some .boolean }, accessFlags := 9, code := some k1c1 }
/-- com/example/fieldstone/fieldstone/core/ByteReaderHasRemainingPinLaw -/
def k1 : Class := { plain "com/example/fieldstone/fieldstone/core/ByteReaderHasRemainingPinLaw" (some 0) with
  accessFlags := 49
  interfaces := #[]
  cf := some (fileOf pool1 25 #[] #[{ accessFlags := 1, nameIndex := 5, descriptorIndex := 6, attributes := #[] }, { accessFlags := 9, nameIndex := 29, descriptorIndex := 30, attributes := #[] }] 49 2 #[] #[])
  fields := #[]
  methods := #[k1m0, k1m1]
  instanceTypes := #[]
  staticTypes := #[]
  resolved := Array.replicate 36 none
  statics := none }

def pool2 : Array CpInfo := pool [(2, .class_ 4), (1, u "com/example/fieldstone/fieldstone/core/ByteReader"), (0, u "<init>"), (0, u "([BII)V"), (0, .methodref 8 9), (0, .class_ 10), (0, .nameAndType 5 11), (0, u "java/lang/Object"), (0, u "()V"), (0, .fieldref 2 13), (0, .nameAndType 14 15), (0, u "bytes"), (0, u "[B"), (0, .fieldref 2 17), (0, .nameAndType 18 19), (0, u "position"), (0, u "I"), (0, .fieldref 2 21), (0, .nameAndType 22 19), (0, u "end"), (13, u "get"), (0, u "()B"), (33, u "hasRemaining"), (0, u "()Z"), (1, .methodref 2 75), (0, .nameAndType 76 77), (0, u "checkRemaining"), (0, u "(I)V"), (20, u "skip")] 27

def k2c0 : Code := { maxStack := 2, maxLocals := 4, code := prog_42_method_2_code, exceptionTable := #[], attributes := #[] }
def k2m0 : Method := { name := "<init>", desc := "([BII)V", sig := { parameters := [(.array .byte), .int, .int], returnType := none }, accessFlags := 0, code := some k2c0 }
def k2c1 : Code := { maxStack := 2, maxLocals := 1, code := prog_42_method_3_code, exceptionTable := #[], attributes := #[] }
def k2m1 : Method := { name := "hasRemaining", desc := "()Z", sig := { parameters := [], returnType := some .boolean }, accessFlags := 0, code := some k2c1 }
def k2c2 : Code := { maxStack := 5, maxLocals := 1, code := prog_42_method_6_code, exceptionTable := #[], attributes := #[] }
def k2m2 : Method := { name := "get", desc := "()B", sig := { parameters := [], returnType := some .byte }, accessFlags := 0, code := some k2c2 }
def k2c3 : Code := { maxStack := 3, maxLocals := 2, code := prog_42_method_13_code, exceptionTable := #[], attributes := #[] }
def k2m3 : Method := { name := "skip", desc := "(I)V", sig := { parameters := [.int], returnType := none }, accessFlags := 0, code := some k2c3 }
def k2c4 : Code := { maxStack := 4, maxLocals := 2, code := prog_42_method_16_code, exceptionTable := #[], attributes := #[] }
def k2m4 : Method := { name := "checkRemaining", desc := "(I)V", sig := { parameters := [.int], returnType := none }, accessFlags := 2, code := some k2c4 }
/-- com/example/fieldstone/fieldstone/core/ByteReader -/
def k2 : Class := { plain "com/example/fieldstone/fieldstone/core/ByteReader" (some 0) with
  accessFlags := 32
  interfaces := #[]
  cf := some (fileOf pool2 2 #[] #[{ accessFlags := 0, nameIndex := 5, descriptorIndex := 6, attributes := #[] }, { accessFlags := 0, nameIndex := 71, descriptorIndex := 72, attributes := #[] }, { accessFlags := 0, nameIndex := 36, descriptorIndex := 37, attributes := #[] }, { accessFlags := 0, nameIndex := 98, descriptorIndex := 77, attributes := #[] }, { accessFlags := 2, nameIndex := 76, descriptorIndex := 77, attributes := #[] }] 32 8 #[] #[{ accessFlags := 18, nameIndex := 14, descriptorIndex := 15, attributes := #[] }, { accessFlags := 18, nameIndex := 22, descriptorIndex := 19, attributes := #[] }, { accessFlags := 2, nameIndex := 18, descriptorIndex := 19, attributes := #[] }])
  fields := #[{ name := "bytes", type := (.array .byte), accessFlags := 18, slot := 0, constantValue := 0 }, { name := "end", type := .int, accessFlags := 18, slot := 1, constantValue := 0 }, { name := "position", type := .int, accessFlags := 2, slot := 2, constantValue := 0 }]
  methods := #[k2m0, k2m1, k2m2, k2m3, k2m4]
  instanceTypes := #[(.array .byte), .int, .int]
  staticTypes := #[]
  resolved := Array.replicate 126 none
  statics := none }

def pool3 : Array CpInfo := pool [(1, u "java/lang/Cloneable"), (0, .class_ 1), (0, u "java/lang/Object"), (0, .class_ 3)] 3

/-- java/lang/Cloneable -/
def k3 : Class := { plain "java/lang/Cloneable" (some 0) with
  accessFlags := 1537
  interfaces := #[]
  cf := some (fileOf pool3 2 #[] #[] 1537 4 #[] #[])
  fields := #[]
  methods := #[]
  instanceTypes := #[]
  staticTypes := #[]
  resolved := Array.replicate 8 none
  statics := none }

def pool4 : Array CpInfo := pool [(1, u "java/io/Serializable"), (0, .class_ 1), (0, u "java/lang/Object"), (0, .class_ 3)] 3

/-- java/io/Serializable -/
def k4 : Class := { plain "java/io/Serializable" (some 0) with
  accessFlags := 1537
  interfaces := #[]
  cf := some (fileOf pool4 2 #[] #[] 1537 4 #[] #[])
  fields := #[]
  methods := #[]
  instanceTypes := #[]
  staticTypes := #[]
  resolved := Array.replicate 8 none
  statics := none }

/-- the primitive byte -/
def k5 : Class := { plain "byte" none with kind := .primitive 'B', accessFlags := 0x411 }
/-- [B -/
def k6 : Class := { plain "[B" (some 0) with kind := .array 5 .byte, interfaces := #[3, 4], accessFlags := 1041 }

/-- the primitive int -/
def k7 : Class := { plain "int" none with kind := .primitive 'I', accessFlags := 0x411 }
/-- [I -/
def k8 : Class := { plain "[I" (some 0) with kind := .array 7 .int, interfaces := #[3, 4], accessFlags := 1041 }

def heap : Heap := #[]
def classes : Array Class := #[k0, k1, k2, k3, k4, k5, k6, k7, k8]
def interned : List (Array UInt16 × Addr) := []
def slotsUsed : Nat := 0
def theMethod : MethodId := ⟨1, 1⟩
def args0 : Array Value := #[.int 5, .int 300, .int 7]
def aboutOver (below : List Frame) : State where
  vm := { classes := classes, interned := interned.toArray }
  heap := heap
  slotsUsed := slotsUsed
  threads := #[{ frames := .invoking theMethod args0 :: below }]
def below0 : List Frame := [.native { method := ⟨0, 0⟩, args := #[] }]
def about1 : State := aboutOver below0
def p0 : Program := .bare "" "" ""
def e0 : Env := launch0.env 0 0 0
theorem w_frames : about1.frames = Frame.invoking theMethod args0 :: below0 := rfl
set_option maxRecDepth 65536 in
theorem w_args : argsFit about1.vm theMethod args0 = true := by decide +kernel
set_option maxRecDepth 65536 in
theorem w_heap : heapFits about1 = true := by decide +kernel
set_option maxRecDepth 65536 in
theorem w_runnable : about1.curStatus? = some .runnable := by decide +kernel
set_option maxRecDepth 65536 in
theorem w_alone : about1.alone = true := by decide +kernel
set_option maxRecDepth 65536 in
theorem w_named : about1.methodNamed? x = some theMethod := by decide +kernel
set_option maxRecDepth 65536 in
theorem w_hears : about1.hears theMethod below0 = true := by decide +kernel
set_option maxRecDepth 65536 in
theorem w_ripe : about1.ripe theMethod args0 below0 = true := by decide +kernel
theorem w_running : about1.status = .running := rfl
set_option maxRecDepth 65536 in
theorem w_room : about1.hasRoom e0.platform room_1 = true :=
  launch0.hasRoom_least _ room_1 (by decide +kernel) (by decide +kernel) (by decide +kernel) (by decide +kernel) (by decide +kernel) (by decide +kernel)
theorem allAtoms_all (ts : List Jvm.Cond) (a : Array Jvm.Value) (st : Jvm.State) : (allAtoms ts).before a st = ts.all (fun c => c.before a st) := by
  induction ts with
  | nil => rfl
  | cons c t ih =>
    show (Jvm.Cond.and c (allAtoms t)).before a st = _
    rw [Jvm.Cond.before_and, ih, List.all_cons]
def words1 : List Jvm.Cond := Jvm.Cond.code x code maxLocals ret :: tables_1
/-- a 'code' word, met by the world's own term for the bytes: nothing is compared byte by byte -/
theorem code_word {y : MethodName} {bytes : ByteArray} {mx : Nat} {rt : Option FieldType} {a : Array Value} {s : State} {m : MethodId} {meth : Method} {c : Code} (h1 : s.methodNamed? y = some m) (h2 : s.vm.method? m = some meth) (h3 : meth.code = some c) (h4 : c.code = bytes)
    (h5 : (c.maxLocals == mx && c.exceptionTable.isEmpty && decide (c.maxStack ≤ mostOperands) && decide (meth.sig.returnType = rt) && !meth.locks && decide (parseMethodDescriptor y.desc = some meth.sig)) = true) : (Jvm.Cond.code y bytes mx rt).before a s = true := by
  simp only [Bool.and_eq_true, beq_iff_eq, Bool.not_eq_true', decide_eq_true_eq] at h5
  obtain ⟨⟨⟨⟨⟨g1, g2⟩, g3⟩, g4⟩, g5⟩, g6⟩ := h5
  simp [Cond.before, Cond.holds, Cond.value, h1, h2, h3, h4, g1, g2, g3, g4, g5, g6]
def isCode : Jvm.Cond → Bool
  | .code _ _ _ _ => true
  | _ => false
theorem all_split {L : List Jvm.Cond} {P : Jvm.Cond → Bool} (h1 : L.all (fun c => isCode c || P c) = true) (h2 : ∀ c ∈ L.filter isCode, P c = true) : L.all P = true := by
  refine List.all_eq_true.mpr fun c hc => ?_
  have h := List.all_eq_true.mp h1 c hc
  rcases Bool.eq_false_or_eq_true (isCode c) with hi | hi
  · exact h2 c (List.mem_filter.mpr ⟨hc, hi⟩)
  · simpa [hi] using h
set_option maxRecDepth 65536 in
theorem w_c0 : (Jvm.Cond.code x code maxLocals ret).before args0 about1 = true := code_word (m := ⟨1, 1⟩) (meth := k1m1) (c := k1c1) (by decide +kernel) rfl rfl rfl (by decide +kernel)
set_option maxRecDepth 65536 in
theorem w_c1 : (Jvm.Cond.code ({ cls := "com/example/fieldstone/fieldstone/core/ByteReader", name := "<init>", desc := "([BII)V" } : Jvm.MethodName) prog_42_method_2_code (4 : Nat) (Option.none : Option Jvm.ClassFile.FieldType)).before args0 about1 = true := code_word (m := ⟨2, 0⟩) (meth := k2m0) (c := k2c0) (by decide +kernel) rfl rfl rfl (by decide +kernel)
set_option maxRecDepth 65536 in
theorem w_c2 : (Jvm.Cond.code ({ cls := "java/lang/Object", name := "<init>", desc := "()V" } : Jvm.MethodName) object_method_1_code (1 : Nat) (Option.none : Option Jvm.ClassFile.FieldType)).before args0 about1 = true := code_word (m := ⟨0, 0⟩) (meth := k0m0) (c := k0c0) (by decide +kernel) rfl rfl rfl (by decide +kernel)
set_option maxRecDepth 65536 in
theorem w_c3 : (Jvm.Cond.code ({ cls := "com/example/fieldstone/fieldstone/core/ByteReader", name := "hasRemaining", desc := "()Z" } : Jvm.MethodName) prog_42_method_3_code (1 : Nat) (Option.some Jvm.ClassFile.FieldType.boolean)).before args0 about1 = true := code_word (m := ⟨2, 1⟩) (meth := k2m1) (c := k2c1) (by decide +kernel) rfl rfl rfl (by decide +kernel)
set_option maxRecDepth 65536 in
theorem w_c4 : (Jvm.Cond.code ({ cls := "com/example/fieldstone/fieldstone/core/ByteReader", name := "skip", desc := "(I)V" } : Jvm.MethodName) prog_42_method_13_code (2 : Nat) (Option.none : Option Jvm.ClassFile.FieldType)).before args0 about1 = true := code_word (m := ⟨2, 3⟩) (meth := k2m3) (c := k2c3) (by decide +kernel) rfl rfl rfl (by decide +kernel)
set_option maxRecDepth 65536 in
theorem w_c5 : (Jvm.Cond.code ({ cls := "com/example/fieldstone/fieldstone/core/ByteReader", name := "checkRemaining", desc := "(I)V" } : Jvm.MethodName) prog_42_method_16_code (2 : Nat) (Option.none : Option Jvm.ClassFile.FieldType)).before args0 about1 = true := code_word (m := ⟨2, 4⟩) (meth := k2m4) (c := k2c4) (by decide +kernel) rfl rfl rfl (by decide +kernel)
set_option maxRecDepth 65536 in
theorem w_c6 : (Jvm.Cond.code ({ cls := "com/example/fieldstone/fieldstone/core/ByteReader", name := "get", desc := "()B" } : Jvm.MethodName) prog_42_method_6_code (1 : Nat) (Option.some Jvm.ClassFile.FieldType.byte)).before args0 about1 = true := code_word (m := ⟨2, 2⟩) (meth := k2m2) (c := k2c2) (by decide +kernel) rfl rfl rfl (by decide +kernel)
def codes1 : List Jvm.Cond := [Jvm.Cond.code x code maxLocals ret, Jvm.Cond.code ({ cls := "com/example/fieldstone/fieldstone/core/ByteReader", name := "<init>", desc := "([BII)V" } : Jvm.MethodName) prog_42_method_2_code (4 : Nat) (Option.none : Option Jvm.ClassFile.FieldType), Jvm.Cond.code ({ cls := "java/lang/Object", name := "<init>", desc := "()V" } : Jvm.MethodName) object_method_1_code (1 : Nat) (Option.none : Option Jvm.ClassFile.FieldType), Jvm.Cond.code ({ cls := "com/example/fieldstone/fieldstone/core/ByteReader", name := "hasRemaining", desc := "()Z" } : Jvm.MethodName) prog_42_method_3_code (1 : Nat) (Option.some Jvm.ClassFile.FieldType.boolean), Jvm.Cond.code ({ cls := "com/example/fieldstone/fieldstone/core/ByteReader", name := "skip", desc := "(I)V" } : Jvm.MethodName) prog_42_method_13_code (2 : Nat) (Option.none : Option Jvm.ClassFile.FieldType), Jvm.Cond.code ({ cls := "com/example/fieldstone/fieldstone/core/ByteReader", name := "checkRemaining", desc := "(I)V" } : Jvm.MethodName) prog_42_method_16_code (2 : Nat) (Option.none : Option Jvm.ClassFile.FieldType), Jvm.Cond.code ({ cls := "com/example/fieldstone/fieldstone/core/ByteReader", name := "get", desc := "()B" } : Jvm.MethodName) prog_42_method_6_code (1 : Nat) (Option.some Jvm.ClassFile.FieldType.byte)]
set_option maxRecDepth 65536 in
theorem codes_eq : words1.filter isCode = codes1 := rfl
theorem w_codes : ∀ c ∈ words1.filter isCode, c.before args0 about1 = true := by
  rw [codes_eq]
  intro c hc
  simp only [codes1, List.mem_cons, List.not_mem_nil, or_false] at hc
  rcases hc with rfl | rfl | rfl | rfl | rfl | rfl | rfl
  · exact w_c0
  · exact w_c1
  · exact w_c2
  · exact w_c3
  · exact w_c4
  · exact w_c5
  · exact w_c6
set_option maxRecDepth 65536 in
theorem w_t1 : (words1.take 24).all (fun c => isCode c || c.before args0 about1) = true := by decide +kernel
set_option maxRecDepth 65536 in
theorem w_t2 : (words1.drop 24).all (fun c => isCode c || c.before args0 about1) = true := by decide +kernel
theorem w_tables : (allAtoms (Jvm.Cond.code x code maxLocals ret :: tables_1)).before args0 about1 = true := by
  rw [allAtoms_all]
  show words1.all (fun c => c.before args0 about1) = true
  refine all_split ?_ w_codes
  rw [← List.take_append_drop 24 words1, List.all_append, w_t1, w_t2]
  rfl
set_option maxRecDepth 65536 in
theorem w_case : (Jvm.Cond.and given_1 narrow_1).before args0 about1 = true := by decide +kernel
theorem w_applies : (headSpec (Jvm.Cond.code x code maxLocals ret :: tables_1) room_1).applies x e0.platform about1 = true :=
  (Spec.applies_iff w_frames).mpr ⟨w_running, w_runnable, w_alone, w_named, w_hears, w_ripe, w_room, w_tables⟩
theorem atStart : AtStart classFile x code maxLocals ret World_1 tables_1 room_1 Calls_1 rest_1 Pre_1 launch0 p0 e0 about1 theMethod args0 below0 :=
  ⟨lists_1, trivial, launch0.admits_env _ _ _, launch0.least_env, fairChoices_fair.cas, fairChoices_fair.clock, w_frames, w_args, w_heap, w_applies, trivial, trivial, w_case⟩
end start1
theorem witness_1 : WitnessClaimed_1 := ⟨start1.p0, start1.e0, start1.about1, start1.theMethod, start1.args0, start1.below0, start1.atStart⟩
end Jvm.Pilot.@@N@@
