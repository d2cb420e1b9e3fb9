import JvmDerived
import JvmDerived.Pilot.@@N@@Statement
import JvmDerived.Pilot.@@N@@Code
set_option linter.unusedVariables false
set_option linter.unusedSimpArgs false
namespace Jvm.RoadKit
open Sem ClassFile Op Lib Jvm.Stand Jvm.Free Jvm.LawKit
section New
variable {p : Program} {l : Launch} {e : Env} {R : Room} {s : State} {m : MethodId} {args : Array Value} {below : List Frame} {meth : Method} {c : Code} {T : State} {locs : List Loc} {cells slots : Nat}
theorem retI (X : Stand p l e R s m args below meth c T locs cells slots) (hx : p.tables.exec = Jvm.exec) {pc : Nat} {Ls : Array Slot} {z : Int32} {rest : List Value} (hret : meth.sig.returnType = some .int) (hd : decode c.code pc = .ok (.ireturn, 1)) {fs : List Frame}
    (hl : ∀ (f : JFrame) (acts : List Action), f.method = m → f.locked = none → f.entered = [] → (doReturn e (T.setTop f) acts (some (.int z))).1 = T.setFrames fs) : Steps p.tables e below (T.setTop (mkF m pc Ls (.int z :: rest))) (T.setFrames fs) := by
  have hm' : T.vm.method? m = some meth := X.method'
  have hn : narrow .int (.int z) = .int z := rfl
  show Steps p.tables e below (T.setTop { method := m, pc := pc, locals := Ls, stack := _ :: rest, locked := none }) _
  jvm_step X.here [X.here.top, hx, hd, hm', hret, hn]
  first | (intro acts; rw [hl _ acts rfl rfl rfl]) | rw [hl _ _ rfl rfl rfl]
  exact Steps.refl _
end New
end Jvm.RoadKit
namespace Jvm.Pilot.@@N@@
open Jvm Jvm.ClassFile Sem Op Lib Jvm.Free Jvm.Stand Jvm.LawKit Jvm.RoadKit Bundle Jvm.Pilot.@@N@@.Jvm.D
theorem own_lmod (x y : Int64) (hx : 0 ≤ x.toInt) : (x % y).toInt = x.toInt % y.toInt := by
  rw [Int64.toInt_mod]; exact Int.tmod_eq_emod_of_nonneg hx
theorem own_imod (x y : Int32) (hx : 0 ≤ x.toInt) : (x % y).toInt = x.toInt % y.toInt := by
  rw [Int32.toInt_mod]; exact Int.tmod_eq_emod_of_nonneg hx
theorem own_lmod_rng (x y : Int64) (hx : 0 ≤ x.toInt) (hy : 0 < y.toInt) : 0 ≤ (x % y).toInt ∧ (x % y).toInt < y.toInt := by
  rw [own_lmod x y hx]; exact ⟨Int.emod_nonneg _ (by omega), Int.emod_lt_of_pos _ hy⟩
theorem own_imod_rng (x y : Int32) (hx : 0 ≤ x.toInt) (hy : 0 < y.toInt) : 0 ≤ (x % y).toInt ∧ (x % y).toInt < y.toInt := by
  rw [own_imod x y hx]; exact ⟨Int.emod_nonneg _ (by omega), Int.emod_lt_of_pos _ hy⟩
theorem own_mI (x : Int32) : 0 ≤ (x &&& (2147483647 : Int32)).toInt ∧ (x &&& (2147483647 : Int32)).toInt ≤ 2147483647 := by
  have h := c_and x 2147483647 (by decide)
  have e : (2147483647 : Int32).toInt = 2147483647 := by decide
  omega
theorem own_mL (x : Int64) : 0 ≤ (x &&& (9223372036854775807 : Int64)).toInt ∧ (x &&& (9223372036854775807 : Int64)).toInt ≤ 9223372036854775807 := by
  have h := (c_andSL x 9223372036854775807).2.2 (by decide)
  have := rng64 (x &&& (9223372036854775807 : Int64))
  omega
theorem own_nz32 {x : Int32} (h : 0 < x.toInt) : ¬ (x = (0 : Int32)) := fun e => by subst e; revert h; decide
theorem own_nz64 {x : Int64} (h : 0 < x.toInt) : ¬ (x = (0 : Int64)) := fun e => by subst e; revert h; decide
theorem own_lt32 {x y : Int32} : x < y ↔ x.toInt < y.toInt := Int32.lt_iff_toInt_lt
theorem own_lt64 {x y : Int64} : x < y ↔ x.toInt < y.toInt := Int64.lt_iff_toInt_lt
theorem own_eq32 {x y : Int32} (h : x.toInt = y.toInt) : x = y := Int32.toInt_inj.mp h
theorem own_eq64 {x y : Int64} (h : x.toInt = y.toInt) : x = y := Int64.toInt_inj.mp h
theorem own_sel {Z s : State} {a0 args : Array Value} {y : MethodName} {n : Nat} (hZ : Z.Warmed39 s.vm) (hp : (Jvm.Cond.privateMethod y).before a0 Z = true) (hi : (Jvm.Cond.instanceMethod y).before a0 Z = true) (hn : (Jvm.Cond.instantiable y.cls n).before a0 Z = true)
    (hy : y.cls ≠ "java/lang/invoke/MethodHandle" ∧ y.cls ≠ "java/lang/invoke/VarHandle") : (Jvm.Cond.selects y.cls y y).before args s = true := by
  obtain ⟨c, k, hc, hk, -, hniab, -, -⟩ := Cond.instantiable_spec (mvT hZ hn (args := args))
  exact selects_self_of_private hc hk (Bool.or_eq_false_iff.mp hniab).1 (Cond.privateMethod_at (mvP hZ hp (args := #[]))) (mvT hZ hi) hy
def own_at (vs : List Value) (i : Nat) (d : Value) : Int32 := match vs.getD i d with | .int x => x | _ => 0
theorem own_at_eq {vs : List Value} {i : Nat} {d : Value} {ty : FieldType} (h : fits ty (vs.getD i d) = true) (ht : ty = .int ∨ ty = .boolean ∨ ty = .byte ∨ ty = .char ∨ ty = .short) : vs.getD i d = .int (own_at vs i d) := by
  obtain ⟨x, hx⟩ := fit_I h ht
  simp only [own_at, hx]
def own_cp (vd vs : List Value) (dv : Value) (dp sp nn : Nat) : List Value := vd.take dp ++ ((List.range nn).map fun i => vs.getD (sp + i) dv) ++ vd.drop (dp + nn)
theorem own_conv {Z : State} {h : Heap} {a : Addr} {k : ClassId} {ty : FieldType} {n : Int32} {vs vs' : List Value} {d : Value} (F : Arv Z h a k ty n vs d) (q : ∀ i, i < n.toNatClampNeg → vs'.getD i d = vs.getD i d) : Arv Z h a k ty n vs' d := by
  obtain ⟨c, A, q1, S, q3, H, G⟩ := F
  exact ⟨c, A, q1, S, q3, fun i hi => by rw [q i (S ▸ hi)]; exact H i hi, fun i hi => by rw [q i (S ▸ hi)]; exact G i hi⟩
theorem own_mono {l : Launch} {y : MethodName} {S : Spec} {P : Array Value → State → Prop} {K : Program → Env → List Frame → State → Array Value → Prop} {Q Q' : Array Value → State → Outcome → State → Prop} (h : MetFree l y S P K Q) (hi : ∀ a U o U', Q a U o U' → Q' a U o U') : MetFree l y S P K Q' :=
  fun p e ha hc hk s m args below hf happ hP hK => by
    obtain ⟨n, o, h1, h2, h3, hq⟩ := h p e ha hc hk s m args below hf happ hP hK
    exact ⟨n, o, h1, h2, h3, hi _ _ _ _ hq⟩
theorem own_cp_len (vd vs : List Value) (dv : Value) (dp sp nn : Nat) (h : dp + nn ≤ vd.length) : (own_cp vd vs dv dp sp nn).length = vd.length := by
  simp [own_cp]; omega
theorem own_cp_getD (vd vs : List Value) (dv : Value) (nn i : Nat) (h : nn ≤ vd.length) : (own_cp vd vs dv 0 0 nn).getD i dv = if i < nn then vs.getD i dv else vd.getD i dv := by
  simp only [own_cp, List.take_zero, List.nil_append, Nat.zero_add, List.getD_eq_getElem?_getD]
  by_cases c : i < nn
  · rw [if_pos c, List.getElem?_append_left (by simpa using c)]
    simp [c]
  · rw [if_neg c, List.getElem?_append_right (by simpa using c), List.getElem?_drop]
    congr 2
    simp; omega
theorem own_rep_getD (n i : Nat) (d : Value) : (List.replicate n d).getD i d = d := by
  simp only [List.getD_eq_getElem?_getD]
  by_cases c : i < n
  · simp [c]
  · simp [c]
def own_Z (vs : List Value) (n : Int32) : Prop := ∀ i, n.toNatClampNeg ≤ i → vs.getD i (.int (0 : Int32)) = .int (0 : Int32)
theorem own_grow {vs : List Value} {n : Int32} {K : Nat} (hz : own_Z vs n) (h : n.toNatClampNeg ≤ K) (i : Nat) : vs.getD i (.int (0 : Int32)) = (own_cp (List.replicate K (.int (0 : Int32))) vs (.int (0 : Int32)) (0 : Int32).toNatClampNeg (0 : Int32).toNatClampNeg n.toNatClampNeg).getD i (.int (0 : Int32)) := by
  have e := own_cp_getD (List.replicate K (.int (0 : Int32))) vs (.int (0 : Int32)) n.toNatClampNeg i (by simpa using h)
  refine Eq.trans ?_ e.symm
  by_cases c : i < n.toNatClampNeg
  · rw [if_pos c]
  · rw [if_neg c, own_rep_getD]; exact hz i (by omega)
theorem own_set_getD (vs : List Value) (j i : Nat) (v d : Value) (h : i ≠ j) : (vs.set j v).getD i d = vs.getD i d := by
  simp only [List.getD_eq_getElem?_getD, List.getElem?_set_ne (Ne.symm h)]
theorem own_Z_set {vs : List Value} {n n' j : Int32} {v : Value} (hz : own_Z vs n) (h1 : n.toNatClampNeg ≤ n'.toNatClampNeg) (h2 : j.toNatClampNeg < n'.toNatClampNeg) : own_Z (vs.set j.toNatClampNeg v) n' := fun i hi => by
  rw [own_set_getD _ _ _ _ _ (by omega)]; exact hz i (by omega)
theorem own_keep {h0 h : Heap} {a b : Addr} (K : Keep h0 h [a]) : Keep h0 h [a, b] := ⟨K.1, fun x c q r => K.2.1 x c q (fun z => r (by simp at z; simp [z])), K.2.2⟩
theorem own_shrink {vs : List Value} {p : Int32} {K : Nat} (h : p.toNatClampNeg ≤ K) (i : Nat) (hi : i < p.toNatClampNeg) : vs.getD i (.int (0 : Int32)) = (own_cp (List.replicate K (.int (0 : Int32))) vs (.int (0 : Int32)) (0 : Int32).toNatClampNeg (0 : Int32).toNatClampNeg p.toNatClampNeg).getD i (.int (0 : Int32)) := by
  have e := own_cp_getD (List.replicate K (.int (0 : Int32))) vs (.int (0 : Int32)) p.toNatClampNeg i (by simpa using h)
  refine Eq.trans ?_ e.symm
  rw [if_pos hi]
theorem own_keep2 {h0 h : Heap} {a b : Addr} (K : Keep h0 h [b, a]) : Keep h0 h [a, b] := ⟨K.1, fun x c q r => K.2.1 x c q (fun z => r (by simp at z ⊢; exact z.symm)), K.2.2⟩
theorem d5_0 : decode jdk_29_method_65_code 0 = .ok (.iload_n 0, 1) := by decide +kernel
theorem d5_1 : decode jdk_29_method_65_code 1 = .ok (.iload_n 1, 1) := by decide +kernel
theorem d5_2 : decode jdk_29_method_65_code 2 = .ok (.if_icmp .lt 7, 3) := by decide +kernel
theorem d5_5 : decode jdk_29_method_65_code 5 = .ok (.iload_n 0, 1) := by decide +kernel
theorem d5_6 : decode jdk_29_method_65_code 6 = .ok (.goto 4, 3) := by decide +kernel
theorem d5_10 : decode jdk_29_method_65_code 10 = .ok (.ireturn, 1) := by decide +kernel
theorem ef_5_II (m : MethodId) (x0 : Int32) (x1 : Int32) : entryFrame m #[(.int x0), (.int x1)] 2 = mkF m 0 #[.val (.int x0), .val (.int x1)] [] := by first | (simp [entryFrame, mkF, argsToLocals, Value.category]; done) | rfl
def Q_maxL (Z : State) (p1 : Int32) (p2 : Int32) (h0 : Heap) (n0 : Nat) (v : Option Value) (h : Heap) (L : List Loc) : Prop := v = some (.int p1) ∧ Fr n0 L ∧ h = h0
set_option maxRecDepth 65536 in
set_option maxHeartbeats 40000000 in
theorem rm_maxL (l : Launch) (Z : State) (a0 : Array Value) (hw : ∀ d ∈ tables_1, d.before a0 Z = true) (ws : List Jvm.Cond) (p1 : Int32) (p2 : Int32) (h0 : Heap) (n0 : Nat) (Z0 : n0 ≤ h0.size) (hc0 : ¬ (p1 < p2)) :
    MetFree l (⟨"java/lang/Math", "max", "(II)I"⟩ : MethodName) (head1 (Jvm.Cond.code (⟨"java/lang/Math", "max", "(II)I"⟩ : MethodName) jdk_29_method_65_code 2 (some .int) :: ws) ({ frames := 0, cells := 0, slots := 0, locals := 0 } : Room)) (fun a U => a = #[(.int p1), (.int p2)] ∧ Z.Warmed39 U.vm ∧ U.heap = h0) (fun _ _ _ _ _ => True) (fun _ U o U' => ∃ v L, o = .returned v ∧ Q_maxL Z p1 p2 h0 n0 v U'.heap L ∧ FrameEnd U o U' L ({ frames := 0, cells := 0, slots := 0, locals := 0 } : Room).cells ({ frames := 0, cells := 0, slots := 0, locals := 0 } : Room).slots) := by
  refine MetFree.of_bodySF (Jvm.Free.JP.mathPlain rfl (by decide +kernel)) hisR ?_
  intro p e s m args below meth c s₁ Bd hml0 hP hK
  obtain ⟨rfl, hZ, hh⟩ := hP
  have hx := Bd.exec
  have hby := Bd.bytes
  have hml : c.maxLocals = 2 := hml0
  have hown : s.vm.findClass "java/lang/Math" = some m.cls := findClass_of_methodNamed Bd.named
  have hnm := (name_of_methodNamed Bd.named Bd.method).1
  have X0 : Stand p l e ({ frames := 0, cells := 0, slots := 0, locals := 0 } : Room) s m #[(.int p1), (.int p2)] below meth c s₁ [] 0 0 := Stand.of_body Bd
  have e0 : s₁.heap = h0 := by rw [← hh, Bd.state]; rfl
  have N0 := Fr.nil n0
  have pre0 : ∀ t, Steps p.tables e below (s₁.setTop (mkF m 0 #[.val (.int p1), .val (.int p2)] [])) t → Steps p.tables e below (s₁.setTop (entryFrame m #[(.int p1), (.int p2)] 2)) t := fun t k => castTop (ef_5_II m p1 p2) k
  obtain ⟨fs, hr, hrun, hended, hW, hsame⟩ := X0.leave (v := some (.int p1)) (fun h => by rw [Bd.returns] at h; cases h) Bd.notSynchronized
  refine ⟨_, _, pre0 _ ?_, hrun, hended, _, _, rfl, ?_, ⟨_, rfl⟩, hW, hsame.mono (by decide) (by decide)⟩
  · show Steps p.tables e below (s₁.setTop (mkF m 0 #[.val (.int p1), .val (.int p2)] [])) _
    refine XS.iloadN X0.here hx rfl (hb hby d5_0) rfl ?_
    show Steps p.tables e below (s₁.setTop (mkF m 1 #[.val (.int p1), .val (.int p2)] [(.int p1)])) _
    refine XS.iloadN X0.here hx rfl (hb hby d5_1) rfl ?_
    show Steps p.tables e below (s₁.setTop (mkF m 2 #[.val (.int p1), .val (.int p2)] [(.int p2), (.int p1)])) _
    refine XS.icmpNo X0.here hx rfl (hb hby d5_2) rfl (flt hc0).1 ?_
    show Steps p.tables e below (s₁.setTop (mkF m 5 #[.val (.int p1), .val (.int p2)] [])) _
    refine XS.iloadN X0.here hx rfl (hb hby d5_5) rfl ?_
    show Steps p.tables e below (s₁.setTop (mkF m 6 #[.val (.int p1), .val (.int p2)] [(.int p1)])) _
    refine XS.goto X0.here hx rfl (pc0 := 6) (pc' := 10) rfl (hb hby d5_6) (by decide) (by decide) ?_
    show Steps p.tables e below (s₁.setTop (mkF m 10 #[.val (.int p1), .val (.int p2)] [(.int p1)])) _
    exact retI X0 hx Bd.returns (hb hby d5_10) hr
  · show Q_maxL Z p1 p2 h0 n0 _ s₁.heap _
    rw [e0]
    exact ⟨rfl, N0, rfl⟩
theorem d5_9 : decode jdk_29_method_65_code 9 = .ok (.iload_n 1, 1) := by decide +kernel
def Q_maxR (Z : State) (p1 : Int32) (p2 : Int32) (h0 : Heap) (n0 : Nat) (v : Option Value) (h : Heap) (L : List Loc) : Prop := v = some (.int p2) ∧ Fr n0 L ∧ h = h0
set_option maxRecDepth 65536 in
set_option maxHeartbeats 40000000 in
theorem rm_maxR (l : Launch) (Z : State) (a0 : Array Value) (hw : ∀ d ∈ tables_1, d.before a0 Z = true) (ws : List Jvm.Cond) (p1 : Int32) (p2 : Int32) (h0 : Heap) (n0 : Nat) (Z0 : n0 ≤ h0.size) (hc0 : p1 < p2) :
    MetFree l (⟨"java/lang/Math", "max", "(II)I"⟩ : MethodName) (head1 (Jvm.Cond.code (⟨"java/lang/Math", "max", "(II)I"⟩ : MethodName) jdk_29_method_65_code 2 (some .int) :: ws) ({ frames := 0, cells := 0, slots := 0, locals := 0 } : Room)) (fun a U => a = #[(.int p1), (.int p2)] ∧ Z.Warmed39 U.vm ∧ U.heap = h0) (fun _ _ _ _ _ => True) (fun _ U o U' => ∃ v L, o = .returned v ∧ Q_maxR Z p1 p2 h0 n0 v U'.heap L ∧ FrameEnd U o U' L ({ frames := 0, cells := 0, slots := 0, locals := 0 } : Room).cells ({ frames := 0, cells := 0, slots := 0, locals := 0 } : Room).slots) := by
  refine MetFree.of_bodySF (Jvm.Free.JP.mathPlain rfl (by decide +kernel)) hisR ?_
  intro p e s m args below meth c s₁ Bd hml0 hP hK
  obtain ⟨rfl, hZ, hh⟩ := hP
  have hx := Bd.exec
  have hby := Bd.bytes
  have hml : c.maxLocals = 2 := hml0
  have hown : s.vm.findClass "java/lang/Math" = some m.cls := findClass_of_methodNamed Bd.named
  have hnm := (name_of_methodNamed Bd.named Bd.method).1
  have X0 : Stand p l e ({ frames := 0, cells := 0, slots := 0, locals := 0 } : Room) s m #[(.int p1), (.int p2)] below meth c s₁ [] 0 0 := Stand.of_body Bd
  have e0 : s₁.heap = h0 := by rw [← hh, Bd.state]; rfl
  have N0 := Fr.nil n0
  have pre0 : ∀ t, Steps p.tables e below (s₁.setTop (mkF m 0 #[.val (.int p1), .val (.int p2)] [])) t → Steps p.tables e below (s₁.setTop (entryFrame m #[(.int p1), (.int p2)] 2)) t := fun t k => castTop (ef_5_II m p1 p2) k
  obtain ⟨fs, hr, hrun, hended, hW, hsame⟩ := X0.leave (v := some (.int p2)) (fun h => by rw [Bd.returns] at h; cases h) Bd.notSynchronized
  refine ⟨_, _, pre0 _ ?_, hrun, hended, _, _, rfl, ?_, ⟨_, rfl⟩, hW, hsame.mono (by decide) (by decide)⟩
  · show Steps p.tables e below (s₁.setTop (mkF m 0 #[.val (.int p1), .val (.int p2)] [])) _
    refine XS.iloadN X0.here hx rfl (hb hby d5_0) rfl ?_
    show Steps p.tables e below (s₁.setTop (mkF m 1 #[.val (.int p1), .val (.int p2)] [(.int p1)])) _
    refine XS.iloadN X0.here hx rfl (hb hby d5_1) rfl ?_
    show Steps p.tables e below (s₁.setTop (mkF m 2 #[.val (.int p1), .val (.int p2)] [(.int p2), (.int p1)])) _
    refine XS.icmpYes X0.here hx rfl (pc0 := 2) (pc' := 9) rfl (hb hby d5_2) rfl (tlt hc0).1 (by decide) (by decide) ?_
    show Steps p.tables e below (s₁.setTop (mkF m 9 #[.val (.int p1), .val (.int p2)] [])) _
    refine XS.iloadN X0.here hx rfl (hb hby d5_9) rfl ?_
    show Steps p.tables e below (s₁.setTop (mkF m 10 #[.val (.int p1), .val (.int p2)] [(.int p2)])) _
    exact retI X0 hx Bd.returns (hb hby d5_10) hr
  · show Q_maxR Z p1 p2 h0 n0 _ s₁.heap _
    rw [e0]
    exact ⟨rfl, N0, rfl⟩
theorem d7_0 : decode jdk_29_method_69_code 0 = .ok (.iload_n 0, 1) := by decide +kernel
theorem d7_1 : decode jdk_29_method_69_code 1 = .ok (.iload_n 1, 1) := by decide +kernel
theorem d7_2 : decode jdk_29_method_69_code 2 = .ok (.if_icmp .gt 7, 3) := by decide +kernel
theorem d7_5 : decode jdk_29_method_69_code 5 = .ok (.iload_n 0, 1) := by decide +kernel
theorem d7_6 : decode jdk_29_method_69_code 6 = .ok (.goto 4, 3) := by decide +kernel
theorem d7_10 : decode jdk_29_method_69_code 10 = .ok (.ireturn, 1) := by decide +kernel
theorem ef_7_II (m : MethodId) (x0 : Int32) (x1 : Int32) : entryFrame m #[(.int x0), (.int x1)] 2 = mkF m 0 #[.val (.int x0), .val (.int x1)] [] := by first | (simp [entryFrame, mkF, argsToLocals, Value.category]; done) | rfl
def Q_minL (Z : State) (p1 : Int32) (p2 : Int32) (h0 : Heap) (n0 : Nat) (v : Option Value) (h : Heap) (L : List Loc) : Prop := v = some (.int p1) ∧ Fr n0 L ∧ h = h0
set_option maxRecDepth 65536 in
set_option maxHeartbeats 40000000 in
theorem rm_minL (l : Launch) (Z : State) (a0 : Array Value) (hw : ∀ d ∈ tables_1, d.before a0 Z = true) (ws : List Jvm.Cond) (p1 : Int32) (p2 : Int32) (h0 : Heap) (n0 : Nat) (Z0 : n0 ≤ h0.size) (hc0 : ¬ (p2 < p1)) :
    MetFree l (⟨"java/lang/Math", "min", "(II)I"⟩ : MethodName) (head1 (Jvm.Cond.code (⟨"java/lang/Math", "min", "(II)I"⟩ : MethodName) jdk_29_method_69_code 2 (some .int) :: ws) ({ frames := 0, cells := 0, slots := 0, locals := 0 } : Room)) (fun a U => a = #[(.int p1), (.int p2)] ∧ Z.Warmed39 U.vm ∧ U.heap = h0) (fun _ _ _ _ _ => True) (fun _ U o U' => ∃ v L, o = .returned v ∧ Q_minL Z p1 p2 h0 n0 v U'.heap L ∧ FrameEnd U o U' L ({ frames := 0, cells := 0, slots := 0, locals := 0 } : Room).cells ({ frames := 0, cells := 0, slots := 0, locals := 0 } : Room).slots) := by
  refine MetFree.of_bodySF (Jvm.Free.JP.mathPlain rfl (by decide +kernel)) hisR ?_
  intro p e s m args below meth c s₁ Bd hml0 hP hK
  obtain ⟨rfl, hZ, hh⟩ := hP
  have hx := Bd.exec
  have hby := Bd.bytes
  have hml : c.maxLocals = 2 := hml0
  have hown : s.vm.findClass "java/lang/Math" = some m.cls := findClass_of_methodNamed Bd.named
  have hnm := (name_of_methodNamed Bd.named Bd.method).1
  have X0 : Stand p l e ({ frames := 0, cells := 0, slots := 0, locals := 0 } : Room) s m #[(.int p1), (.int p2)] below meth c s₁ [] 0 0 := Stand.of_body Bd
  have e0 : s₁.heap = h0 := by rw [← hh, Bd.state]; rfl
  have N0 := Fr.nil n0
  have pre0 : ∀ t, Steps p.tables e below (s₁.setTop (mkF m 0 #[.val (.int p1), .val (.int p2)] [])) t → Steps p.tables e below (s₁.setTop (entryFrame m #[(.int p1), (.int p2)] 2)) t := fun t k => castTop (ef_7_II m p1 p2) k
  obtain ⟨fs, hr, hrun, hended, hW, hsame⟩ := X0.leave (v := some (.int p1)) (fun h => by rw [Bd.returns] at h; cases h) Bd.notSynchronized
  refine ⟨_, _, pre0 _ ?_, hrun, hended, _, _, rfl, ?_, ⟨_, rfl⟩, hW, hsame.mono (by decide) (by decide)⟩
  · show Steps p.tables e below (s₁.setTop (mkF m 0 #[.val (.int p1), .val (.int p2)] [])) _
    refine XS.iloadN X0.here hx rfl (hb hby d7_0) rfl ?_
    show Steps p.tables e below (s₁.setTop (mkF m 1 #[.val (.int p1), .val (.int p2)] [(.int p1)])) _
    refine XS.iloadN X0.here hx rfl (hb hby d7_1) rfl ?_
    show Steps p.tables e below (s₁.setTop (mkF m 2 #[.val (.int p1), .val (.int p2)] [(.int p2), (.int p1)])) _
    refine XS.icmpNo X0.here hx rfl (hb hby d7_2) rfl (flt hc0).2.2.1 ?_
    show Steps p.tables e below (s₁.setTop (mkF m 5 #[.val (.int p1), .val (.int p2)] [])) _
    refine XS.iloadN X0.here hx rfl (hb hby d7_5) rfl ?_
    show Steps p.tables e below (s₁.setTop (mkF m 6 #[.val (.int p1), .val (.int p2)] [(.int p1)])) _
    refine XS.goto X0.here hx rfl (pc0 := 6) (pc' := 10) rfl (hb hby d7_6) (by decide) (by decide) ?_
    show Steps p.tables e below (s₁.setTop (mkF m 10 #[.val (.int p1), .val (.int p2)] [(.int p1)])) _
    exact retI X0 hx Bd.returns (hb hby d7_10) hr
  · show Q_minL Z p1 p2 h0 n0 _ s₁.heap _
    rw [e0]
    exact ⟨rfl, N0, rfl⟩
theorem d7_9 : decode jdk_29_method_69_code 9 = .ok (.iload_n 1, 1) := by decide +kernel
def Q_minR (Z : State) (p1 : Int32) (p2 : Int32) (h0 : Heap) (n0 : Nat) (v : Option Value) (h : Heap) (L : List Loc) : Prop := v = some (.int p2) ∧ Fr n0 L ∧ h = h0
set_option maxRecDepth 65536 in
set_option maxHeartbeats 40000000 in
theorem rm_minR (l : Launch) (Z : State) (a0 : Array Value) (hw : ∀ d ∈ tables_1, d.before a0 Z = true) (ws : List Jvm.Cond) (p1 : Int32) (p2 : Int32) (h0 : Heap) (n0 : Nat) (Z0 : n0 ≤ h0.size) (hc0 : p2 < p1) :
    MetFree l (⟨"java/lang/Math", "min", "(II)I"⟩ : MethodName) (head1 (Jvm.Cond.code (⟨"java/lang/Math", "min", "(II)I"⟩ : MethodName) jdk_29_method_69_code 2 (some .int) :: ws) ({ frames := 0, cells := 0, slots := 0, locals := 0 } : Room)) (fun a U => a = #[(.int p1), (.int p2)] ∧ Z.Warmed39 U.vm ∧ U.heap = h0) (fun _ _ _ _ _ => True) (fun _ U o U' => ∃ v L, o = .returned v ∧ Q_minR Z p1 p2 h0 n0 v U'.heap L ∧ FrameEnd U o U' L ({ frames := 0, cells := 0, slots := 0, locals := 0 } : Room).cells ({ frames := 0, cells := 0, slots := 0, locals := 0 } : Room).slots) := by
  refine MetFree.of_bodySF (Jvm.Free.JP.mathPlain rfl (by decide +kernel)) hisR ?_
  intro p e s m args below meth c s₁ Bd hml0 hP hK
  obtain ⟨rfl, hZ, hh⟩ := hP
  have hx := Bd.exec
  have hby := Bd.bytes
  have hml : c.maxLocals = 2 := hml0
  have hown : s.vm.findClass "java/lang/Math" = some m.cls := findClass_of_methodNamed Bd.named
  have hnm := (name_of_methodNamed Bd.named Bd.method).1
  have X0 : Stand p l e ({ frames := 0, cells := 0, slots := 0, locals := 0 } : Room) s m #[(.int p1), (.int p2)] below meth c s₁ [] 0 0 := Stand.of_body Bd
  have e0 : s₁.heap = h0 := by rw [← hh, Bd.state]; rfl
  have N0 := Fr.nil n0
  have pre0 : ∀ t, Steps p.tables e below (s₁.setTop (mkF m 0 #[.val (.int p1), .val (.int p2)] [])) t → Steps p.tables e below (s₁.setTop (entryFrame m #[(.int p1), (.int p2)] 2)) t := fun t k => castTop (ef_7_II m p1 p2) k
  obtain ⟨fs, hr, hrun, hended, hW, hsame⟩ := X0.leave (v := some (.int p2)) (fun h => by rw [Bd.returns] at h; cases h) Bd.notSynchronized
  refine ⟨_, _, pre0 _ ?_, hrun, hended, _, _, rfl, ?_, ⟨_, rfl⟩, hW, hsame.mono (by decide) (by decide)⟩
  · show Steps p.tables e below (s₁.setTop (mkF m 0 #[.val (.int p1), .val (.int p2)] [])) _
    refine XS.iloadN X0.here hx rfl (hb hby d7_0) rfl ?_
    show Steps p.tables e below (s₁.setTop (mkF m 1 #[.val (.int p1), .val (.int p2)] [(.int p1)])) _
    refine XS.iloadN X0.here hx rfl (hb hby d7_1) rfl ?_
    show Steps p.tables e below (s₁.setTop (mkF m 2 #[.val (.int p1), .val (.int p2)] [(.int p2), (.int p1)])) _
    refine XS.icmpYes X0.here hx rfl (pc0 := 2) (pc' := 9) rfl (hb hby d7_2) rfl (tlt hc0).2.2.1 (by decide) (by decide) ?_
    show Steps p.tables e below (s₁.setTop (mkF m 9 #[.val (.int p1), .val (.int p2)] [])) _
    refine XS.iloadN X0.here hx rfl (hb hby d7_9) rfl ?_
    show Steps p.tables e below (s₁.setTop (mkF m 10 #[.val (.int p1), .val (.int p2)] [(.int p2)])) _
    exact retI X0 hx Bd.returns (hb hby d7_10) hr
  · show Q_minR Z p1 p2 h0 n0 _ s₁.heap _
    rw [e0]
    exact ⟨rfl, N0, rfl⟩
theorem pd_0 : parseMethodDescriptor "(II)I" = some ⟨[.int, .int], some .int⟩ := by decide +kernel
theorem d6_0 : decode jdk_65_method_121_code 0 = .ok (.iload_n 1, 1) := by decide +kernel
theorem d6_1 : decode jdk_65_method_121_code 1 = .ok (.aload_n 0, 1) := by decide +kernel
theorem d6_2 : decode jdk_65_method_121_code 2 = .ok (.arraylength, 1) := by decide +kernel
theorem d6_3 : decode jdk_65_method_121_code 3 = .ok (.if_icmp .ne 11, 3) := by decide +kernel
theorem d6_14 : decode jdk_65_method_121_code 14 = .ok (.iload_n 1, 1) := by decide +kernel
theorem d6_15 : decode jdk_65_method_121_code 15 = .ok (.newarray .byte, 2) := by decide +kernel
theorem d6_17 : decode jdk_65_method_121_code 17 = .ok (.astore_n 2, 1) := by decide +kernel
theorem d6_18 : decode jdk_65_method_121_code 18 = .ok (.aload_n 0, 1) := by decide +kernel
theorem d6_19 : decode jdk_65_method_121_code 19 = .ok (.iconst 0, 1) := by decide +kernel
theorem d6_20 : decode jdk_65_method_121_code 20 = .ok (.aload_n 2, 1) := by decide +kernel
theorem d6_21 : decode jdk_65_method_121_code 21 = .ok (.iconst 0, 1) := by decide +kernel
theorem d6_22 : decode jdk_65_method_121_code 22 = .ok (.aload_n 0, 1) := by decide +kernel
theorem d6_23 : decode jdk_65_method_121_code 23 = .ok (.arraylength, 1) := by decide +kernel
theorem d6_24 : decode jdk_65_method_121_code 24 = .ok (.iload_n 1, 1) := by decide +kernel
theorem d6_25 : decode jdk_65_method_121_code 25 = .ok (.invokestatic 304, 3) := by decide +kernel
theorem d6_28 : decode jdk_65_method_121_code 28 = .ok (.invokestatic 150, 3) := by decide +kernel
theorem d6_31 : decode jdk_65_method_121_code 31 = .ok (.aload_n 2, 1) := by decide +kernel
theorem d6_32 : decode jdk_65_method_121_code 32 = .ok (.areturn, 1) := by decide +kernel
theorem pn_java_util_Arrays : plainName "java/util/Arrays" = true := by first | (simp [plainName, overriddenIn]; done) | decide +kernel
theorem ef_6_RI (m : MethodId) (x0 : Addr) (x1 : Int32) : entryFrame m #[(.ref x0), (.int x1)] 3 = mkF m 0 #[.val (.ref x0), .val (.int x1), .unset] [] := by first | (simp [entryFrame, mkF, argsToLocals, Value.category]; done) | rfl
def Q_copyG (Z : State) (a1 : Addr) (p2 : Int32) (k_a1 : ClassId) (n_a1 : Int32) (vs_a1 : List Value) (h0 : Heap) (n0 : Nat) (v : Option Value) (h : Heap) (L : List Loc) : Prop := ∃ (o1 : Addr), ∃ (ko1 : ClassId), v = some (.ref o1) ∧ Fr n0 L ∧ n0 ≤ o1 ∧ h0.size ≤ o1 ∧ Keep h0 h [] ∧ Exa Z h o1 "[B" ∧ Arv Z h o1 ko1 .byte p2 vs_a1 (.int (0 : Int32))
set_option maxRecDepth 65536 in
set_option maxHeartbeats 40000000 in
theorem rm_copyG (l : Launch) (Z : State) (a0 : Array Value) (hw : ∀ d ∈ tables_1, d.before a0 Z = true) (ws : List Jvm.Cond) (a1 : Addr) (p2 : Int32) (k_a1 : ClassId) (n_a1 : Int32) (vs_a1 : List Value) (h0 : Heap) (n0 : Nat) (Z0 : n0 ≤ h0.size) (V_a1 : Arv Z h0 a1 k_a1 .byte n_a1 vs_a1 (.int (0 : Int32))) (hp0 : ¬ (p2 < (0 : Int32))) (hp1 : p2.toNatClampNeg ≤ 14) (hp2 : ¬ (p2 < n_a1)) (hp3 : ¬ (n_a1 < (0 : Int32))) (hp4 : (0 : Int32).toNatClampNeg + n_a1.toNatClampNeg ≤ n_a1.toNatClampNeg) (hp5 : (0 : Int32).toNatClampNeg + n_a1.toNatClampNeg ≤ p2.toNatClampNeg) (hp6 : (0 : Int32).toNatClampNeg + n_a1.toNatClampNeg ≤ (List.replicate 16 (Value.int (0 : Int32))).length) (hp7 : own_Z vs_a1 n_a1) (hp8 : n_a1.toNatClampNeg ≤ 16) (hc0 : ¬ (p2 = n_a1)) :
    MetFree l (⟨"java/util/Arrays", "copyOf", "([BI)[B"⟩ : MethodName) (head1 (Jvm.Cond.code (⟨"java/util/Arrays", "copyOf", "([BI)[B"⟩ : MethodName) jdk_65_method_121_code 3 (some (.array .byte)) :: ws) ({ frames := 1, cells := 1, slots := 14, locals := 18 } : Room)) (fun a U => a = #[(.ref a1), (.int p2)] ∧ Z.Warmed39 U.vm ∧ U.heap = h0) (fun _ _ _ _ _ => True) (fun _ U o U' => ∃ v L, o = .returned v ∧ Q_copyG Z a1 p2 k_a1 n_a1 vs_a1 h0 n0 v U'.heap L ∧ FrameEnd U o U' L ({ frames := 1, cells := 1, slots := 14, locals := 18 } : Room).cells ({ frames := 1, cells := 1, slots := 14, locals := 18 } : Room).slots) := by
  refine MetFree.of_bodySF (plainFor_of_name pn_java_util_Arrays) hisR ?_
  intro p e s m args below meth c s₁ Bd hml0 hP hK
  obtain ⟨rfl, hZ, hh⟩ := hP
  have hx := Bd.exec
  have hby := Bd.bytes
  have hml : c.maxLocals = 3 := hml0
  have hown : s.vm.findClass "java/util/Arrays" = some m.cls := findClass_of_methodNamed Bd.named
  have hnm := (name_of_methodNamed Bd.named Bd.method).1
  have X0 : Stand p l e ({ frames := 1, cells := 1, slots := 14, locals := 18 } : Room) s m #[(.ref a1), (.int p2)] below meth c s₁ [] 0 0 := Stand.of_body Bd
  have e0 : s₁.heap = h0 := by rw [← hh, Bd.state]; rfl
  have N0 := Fr.nil n0
  have pre0 : ∀ t, Steps p.tables e below (s₁.setTop (mkF m 0 #[.val (.ref a1), .val (.int p2), .unset] [])) t → Steps p.tables e below (s₁.setTop (entryFrame m #[(.ref a1), (.int p2)] 3)) t := fun t k => castTop (ef_6_RI m a1 p2) k
  obtain ⟨clo1, Aro1, -, So1, No1, -, -⟩ := id V_a1
  obtain ⟨T2, h2, k2, X2, e2, E2, A2, Ex2, st2⟩ := newPE X0 hx hZ (hw _ (List.mem_of_getElem? (i := 9) rfl)) e0 (g := (mkF m 15 #[.val (.ref a1), .val (.int p2), .unset] [(.int p2)])) rfl (hb hby d6_15) rfl hp0 (cap := 14) hp1 (by decide) (by decide) (by decide) (ad := "[B") (by decide)
  obtain ⟨b2, g2⟩ : ∃ z, z = h0.size := ⟨_, rfl⟩
  rw [← g2] at A2 Ex2 st2
  have g_b2 : n0 ≤ b2 := Nat.le_trans Z0 (Nat.le_of_eq g2.symm)
  have sz_b2 : h0.size ≤ b2 := Nat.le_trans (Keep.refl h0 []).1 (Nat.le_of_eq g2.symm)
  have ne_a1_b2 : a1 ≠ b2 := Nat.ne_of_lt (Nat.lt_of_lt_of_le V_a1.lt (Nat.le_of_eq g2.symm))
  have f3 : Arv Z h2 a1 k_a1 .byte n_a1 vs_a1 (.int (0 : Int32)) := V_a1.ext E2
  have K4 : Keep h0 h2 [] := (Keep.refl h0 []).ext E2
  have Zs5 : n0 ≤ h2.size := Nat.le_trans Z0 E2.1
  have f6 : Arv Z h2 b2 k2 .byte p2 (List.replicate 16 (Value.int (0 : Int32))) (.int (0 : Int32)) := (Arv.new A2 hp0).pad (pad_rep [] (.int (0 : Int32)) 16)
  obtain ⟨clo7, Aro7, -, So7, No7, -, -⟩ := id f3
  obtain ⟨_, _, ⟨T8, L8, k8, n8⟩, -, X8, ⟨Lc8, hQ8, l8, y8, z8⟩, st8⟩ := Jvm.LawKit.callS X2 hx (y := (⟨"java/lang/Math", "min", "(II)I"⟩ : MethodName)) hown (mvT hZ (hw _ (List.mem_of_getElem? (i := 31) rfl))) (mvT hZ (hw _ (List.mem_of_getElem? (i := 32) rfl))) (mvT hZ (hw _ (List.mem_of_getElem? (i := 25) rfl))) (mvT hZ (hw _ (List.mem_of_getElem? (i := 33) rfl))) (by decide) (backOf (W := 4) (rm_minL l Z a0 hw [] n_a1 p2 h2 n0 Zs5 hp2) hZ (hw _ (List.mem_of_getElem? (i := 33) rfl)) (hw _ (List.mem_of_getElem? (i := 25) rfl)) (by decide) (by decide)) (g := (mkF m 25 #[.val (.ref a1), .val (.int p2), .val (.ref b2)] [(.int p2), (.int n_a1), (.int (0 : Int32)), (.ref b2), (.int (0 : Int32)), (.ref a1)])) rfl (by rw [hml]; rfl) (argsL := [(.int n_a1), (.int p2)]) (rest := [(.int (0 : Int32)), (.ref b2), (.int (0 : Int32)), (.ref a1)]) (lenOf pd_0 rfl) rfl (by show 2 * 0 + _ ≤ _; exact Nat.le_of_eq rfl) (hb hby d6_25) (fun _ _ => ⟨rfl, e2, (by decide : 1 + 0 ≤ _), (by decide : 14 + 0 ≤ _)⟩)
  dsimp only [Pt.U, Pt.locs, Pt.cells, Pt.slots] at X8 l8 y8 z8 st8 hQ8
  subst l8 y8 z8
  obtain ⟨rfl, Nq8, e8⟩ := hQ8
  have N9 := Fr.app N0 Nq8
  obtain ⟨T10, h10, L10, X10, e10, N10, Kc10, V10, st10⟩ := cpA X8 hx hZ hown (hw _ (List.mem_of_getElem? (i := 34) rfl)) (hw _ (List.mem_of_getElem? (i := 37) rfl)) (hw _ (List.mem_of_getElem? (i := 35) rfl)) (hw _ (List.mem_of_getElem? (i := 36) rfl)) e8 f3 f6 (Or.inl ⟨rfl, rfl⟩) (by decide) (by decide) hp3 hp4 hp5 rfl hp6 N9 g_b2 (g := (mkF m 28 #[.val (.ref a1), .val (.int p2), .val (.ref b2)] [(.int n_a1), (.int (0 : Int32)), (.ref b2), (.int (0 : Int32)), (.ref a1)])) rfl (by rw [hml]; rfl) rfl (hb hby d6_28) (by decide) (W := 0) (by show 2 * 0 + _ ≤ _; exact Nat.le_of_eq rfl) (by decide)
  have f11 : Arv Z h10 b2 k2 .byte p2 (own_cp (List.replicate 16 (Value.int (0 : Int32))) vs_a1 (.int (0 : Int32)) (0 : Int32).toNatClampNeg (0 : Int32).toNatClampNeg n_a1.toNatClampNeg) (.int (0 : Int32)) := V10
  have f12 : Arv Z h10 a1 k_a1 .byte n_a1 vs_a1 (.int (0 : Int32)) := f3.keep Kc10 (ninS ne_a1_b2 nin0)
  have f13 : Exa Z h10 b2 "[B" := Ex2.keep Kc10
  have K14 : Keep h0 h10 [] := K4.trans Kc10 (allS (Or.inr sz_b2) all0)
  have Zs15 : n0 ≤ h10.size := Nat.le_trans Zs5 Kc10.1
  have f16 : Arv Z h10 b2 k2 .byte p2 vs_a1 (.int (0 : Int32)) := own_conv f11 (fun i _ => own_grow hp7 hp8 i)
  obtain ⟨fs, hr, hrun, hended, hW, hsame⟩ := X10.leave (v := some (.ref b2)) (fun h => by rw [Bd.returns] at h; cases h) Bd.notSynchronized
  refine ⟨_, _, pre0 _ ?_, hrun, hended, _, _, rfl, ?_, ⟨_, rfl⟩, hW, hsame.mono (by decide) (by decide)⟩
  · show Steps p.tables e below (s₁.setTop (mkF m 0 #[.val (.ref a1), .val (.int p2), .unset] [])) _
    refine XS.iloadN X0.here hx rfl (hb hby d6_0) rfl ?_
    show Steps p.tables e below (s₁.setTop (mkF m 1 #[.val (.ref a1), .val (.int p2), .unset] [(.int p2)])) _
    refine XS.aloadN X0.here hx rfl (hb hby d6_1) rfl rfl ?_
    show Steps p.tables e below (s₁.setTop (mkF m 2 #[.val (.ref a1), .val (.int p2), .unset] [(.ref a1), (.int p2)])) _
    refine X0.arraylength hx (by rw [e0]; exact Aro1.1) (State.isArrayOf_alike hZ.alike Aro1.2.1) (g := (mkF m 2 #[.val (.ref a1), .val (.int p2), .unset] [(.ref a1), (.int p2)])) rfl rfl (hb hby d6_2) _ ?_
    rw [len_of So1 No1]
    show Steps p.tables e below (s₁.setTop (mkF m 3 #[.val (.ref a1), .val (.int p2), .unset] [(.int n_a1), (.int p2)])) _
    refine XS.icmpYes X0.here hx rfl (pc0 := 3) (pc' := 14) rfl (hb hby d6_3) rfl (feq hc0).2 (by decide) (by decide) ?_
    show Steps p.tables e below (s₁.setTop (mkF m 14 #[.val (.ref a1), .val (.int p2), .unset] [])) _
    refine XS.iloadN X0.here hx rfl (hb hby d6_14) rfl ?_
    show Steps p.tables e below (s₁.setTop (mkF m 15 #[.val (.ref a1), .val (.int p2), .unset] [(.int p2)])) _
    refine st2 _ ?_
    show Steps p.tables e below (T2.setTop (mkF m 17 #[.val (.ref a1), .val (.int p2), .unset] [(.ref b2)])) _
    refine XS.astoreN X2.here hx rfl (hb hby d6_17) rfl rfl (l' := #[.val (.ref a1), .val (.int p2), .val (.ref b2)]) rfl ?_
    show Steps p.tables e below (T2.setTop (mkF m 18 #[.val (.ref a1), .val (.int p2), .val (.ref b2)] [])) _
    refine XS.aloadN X2.here hx rfl (hb hby d6_18) rfl rfl ?_
    show Steps p.tables e below (T2.setTop (mkF m 19 #[.val (.ref a1), .val (.int p2), .val (.ref b2)] [(.ref a1)])) _
    refine XS.iconst X2.here hx rfl (hb hby d6_19) ?_
    show Steps p.tables e below (T2.setTop (mkF m 20 #[.val (.ref a1), .val (.int p2), .val (.ref b2)] [(.int (0 : Int32)), (.ref a1)])) _
    refine XS.aloadN X2.here hx rfl (hb hby d6_20) rfl rfl ?_
    show Steps p.tables e below (T2.setTop (mkF m 21 #[.val (.ref a1), .val (.int p2), .val (.ref b2)] [(.ref b2), (.int (0 : Int32)), (.ref a1)])) _
    refine XS.iconst X2.here hx rfl (hb hby d6_21) ?_
    show Steps p.tables e below (T2.setTop (mkF m 22 #[.val (.ref a1), .val (.int p2), .val (.ref b2)] [(.int (0 : Int32)), (.ref b2), (.int (0 : Int32)), (.ref a1)])) _
    refine XS.aloadN X2.here hx rfl (hb hby d6_22) rfl rfl ?_
    show Steps p.tables e below (T2.setTop (mkF m 23 #[.val (.ref a1), .val (.int p2), .val (.ref b2)] [(.ref a1), (.int (0 : Int32)), (.ref b2), (.int (0 : Int32)), (.ref a1)])) _
    refine X2.arraylength hx (by rw [e2]; exact Aro7.1) (State.isArrayOf_alike hZ.alike Aro7.2.1) (g := (mkF m 23 #[.val (.ref a1), .val (.int p2), .val (.ref b2)] [(.ref a1), (.int (0 : Int32)), (.ref b2), (.int (0 : Int32)), (.ref a1)])) rfl rfl (hb hby d6_23) _ ?_
    rw [len_of So7 No7]
    show Steps p.tables e below (T2.setTop (mkF m 24 #[.val (.ref a1), .val (.int p2), .val (.ref b2)] [(.int n_a1), (.int (0 : Int32)), (.ref b2), (.int (0 : Int32)), (.ref a1)])) _
    refine XS.iloadN X2.here hx rfl (hb hby d6_24) rfl ?_
    show Steps p.tables e below (T2.setTop (mkF m 25 #[.val (.ref a1), .val (.int p2), .val (.ref b2)] [(.int p2), (.int n_a1), (.int (0 : Int32)), (.ref b2), (.int (0 : Int32)), (.ref a1)])) _
    refine st8 _ ?_
    show Steps p.tables e below (T8.setTop (mkF m 28 #[.val (.ref a1), .val (.int p2), .val (.ref b2)] [(.int n_a1), (.int (0 : Int32)), (.ref b2), (.int (0 : Int32)), (.ref a1)])) _
    refine st10 _ ?_
    show Steps p.tables e below (T10.setTop (mkF m 31 #[.val (.ref a1), .val (.int p2), .val (.ref b2)] [])) _
    refine XS.aloadN X10.here hx rfl (hb hby d6_31) rfl rfl ?_
    show Steps p.tables e below (T10.setTop (mkF m 32 #[.val (.ref a1), .val (.int p2), .val (.ref b2)] [(.ref b2)])) _
    exact retOut X10 hx (t := (.array .byte)) (i := .areturn) Bd.returns rfl (Or.inr (Or.inr (Or.inr (Or.inr ⟨rfl, rfl, rfl⟩)))) (hb hby d6_32) hr
  · show Q_copyG Z a1 p2 k_a1 n_a1 vs_a1 h0 n0 _ T10.heap _
    rw [e10]
    exact ⟨b2, k2, rfl, N10, g_b2, sz_b2, K14, f13, f16⟩
def Q_copyS (Z : State) (a1 : Addr) (p2 : Int32) (k_a1 : ClassId) (n_a1 : Int32) (vs_a1 : List Value) (h0 : Heap) (n0 : Nat) (v : Option Value) (h : Heap) (L : List Loc) : Prop := ∃ (o1 : Addr), ∃ (ko1 : ClassId), v = some (.ref o1) ∧ Fr n0 L ∧ n0 ≤ o1 ∧ h0.size ≤ o1 ∧ Keep h0 h [] ∧ Exa Z h o1 "[B" ∧ Arv Z h o1 ko1 .byte p2 vs_a1 (.int (0 : Int32))
set_option maxRecDepth 65536 in
set_option maxHeartbeats 40000000 in
theorem rm_copyS (l : Launch) (Z : State) (a0 : Array Value) (hw : ∀ d ∈ tables_1, d.before a0 Z = true) (ws : List Jvm.Cond) (a1 : Addr) (p2 : Int32) (k_a1 : ClassId) (n_a1 : Int32) (vs_a1 : List Value) (h0 : Heap) (n0 : Nat) (Z0 : n0 ≤ h0.size) (E_a1 : Exa Z h0 a1 "[B") (V_a1 : Arv Z h0 a1 k_a1 .byte n_a1 vs_a1 (.int (0 : Int32))) (hp0 : ¬ (p2 < (0 : Int32))) (hp1 : p2.toNatClampNeg ≤ 8) (hp2 : p2 < n_a1) (hp3 : (0 : Int32).toNatClampNeg + p2.toNatClampNeg ≤ n_a1.toNatClampNeg) (hp4 : (0 : Int32).toNatClampNeg + p2.toNatClampNeg ≤ p2.toNatClampNeg) (hp5 : (0 : Int32).toNatClampNeg + p2.toNatClampNeg ≤ (List.replicate 16 (Value.int (0 : Int32))).length) (hp6 : p2.toNatClampNeg ≤ 16) (hc0 : ¬ (p2 = n_a1)) :
    MetFree l (⟨"java/util/Arrays", "copyOf", "([BI)[B"⟩ : MethodName) (head1 (Jvm.Cond.code (⟨"java/util/Arrays", "copyOf", "([BI)[B"⟩ : MethodName) jdk_65_method_121_code 3 (some (.array .byte)) :: ws) ({ frames := 1, cells := 1, slots := 8, locals := 18 } : Room)) (fun a U => a = #[(.ref a1), (.int p2)] ∧ Z.Warmed39 U.vm ∧ U.heap = h0) (fun _ _ _ _ _ => True) (fun _ U o U' => ∃ v L, o = .returned v ∧ Q_copyS Z a1 p2 k_a1 n_a1 vs_a1 h0 n0 v U'.heap L ∧ FrameEnd U o U' L ({ frames := 1, cells := 1, slots := 8, locals := 18 } : Room).cells ({ frames := 1, cells := 1, slots := 8, locals := 18 } : Room).slots) := by
  refine MetFree.of_bodySF (plainFor_of_name pn_java_util_Arrays) hisR ?_
  intro p e s m args below meth c s₁ Bd hml0 hP hK
  obtain ⟨rfl, hZ, hh⟩ := hP
  have hx := Bd.exec
  have hby := Bd.bytes
  have hml : c.maxLocals = 3 := hml0
  have hown : s.vm.findClass "java/util/Arrays" = some m.cls := findClass_of_methodNamed Bd.named
  have hnm := (name_of_methodNamed Bd.named Bd.method).1
  have X0 : Stand p l e ({ frames := 1, cells := 1, slots := 8, locals := 18 } : Room) s m #[(.ref a1), (.int p2)] below meth c s₁ [] 0 0 := Stand.of_body Bd
  have e0 : s₁.heap = h0 := by rw [← hh, Bd.state]; rfl
  have N0 := Fr.nil n0
  have pre0 : ∀ t, Steps p.tables e below (s₁.setTop (mkF m 0 #[.val (.ref a1), .val (.int p2), .unset] [])) t → Steps p.tables e below (s₁.setTop (entryFrame m #[(.ref a1), (.int p2)] 3)) t := fun t k => castTop (ef_6_RI m a1 p2) k
  obtain ⟨clo1, Aro1, -, So1, No1, -, -⟩ := id V_a1
  obtain ⟨T2, h2, k2, X2, e2, E2, A2, Ex2, st2⟩ := newPE X0 hx hZ (hw _ (List.mem_of_getElem? (i := 9) rfl)) e0 (g := (mkF m 15 #[.val (.ref a1), .val (.int p2), .unset] [(.int p2)])) rfl (hb hby d6_15) rfl hp0 (cap := 8) hp1 (by decide) (by decide) (by decide) (ad := "[B") (by decide)
  obtain ⟨b2, g2⟩ : ∃ z, z = h0.size := ⟨_, rfl⟩
  rw [← g2] at A2 Ex2 st2
  have g_b2 : n0 ≤ b2 := Nat.le_trans Z0 (Nat.le_of_eq g2.symm)
  have sz_b2 : h0.size ≤ b2 := Nat.le_trans (Keep.refl h0 []).1 (Nat.le_of_eq g2.symm)
  have ne_a1_b2 : a1 ≠ b2 := Nat.ne_of_lt (Nat.lt_of_lt_of_le E_a1.lt (Nat.le_of_eq g2.symm))
  have f3 : Exa Z h2 a1 "[B" := E_a1.ext E2
  have f4 : Arv Z h2 a1 k_a1 .byte n_a1 vs_a1 (.int (0 : Int32)) := V_a1.ext E2
  have K5 : Keep h0 h2 [] := (Keep.refl h0 []).ext E2
  have Zs6 : n0 ≤ h2.size := Nat.le_trans Z0 E2.1
  have f7 : Arv Z h2 b2 k2 .byte p2 (List.replicate 16 (Value.int (0 : Int32))) (.int (0 : Int32)) := (Arv.new A2 hp0).pad (pad_rep [] (.int (0 : Int32)) 16)
  obtain ⟨clo8, Aro8, -, So8, No8, -, -⟩ := id f4
  obtain ⟨_, _, ⟨T9, L9, k9, n9⟩, -, X9, ⟨Lc9, hQ9, l9, y9, z9⟩, st9⟩ := Jvm.LawKit.callS X2 hx (y := (⟨"java/lang/Math", "min", "(II)I"⟩ : MethodName)) hown (mvT hZ (hw _ (List.mem_of_getElem? (i := 31) rfl))) (mvT hZ (hw _ (List.mem_of_getElem? (i := 32) rfl))) (mvT hZ (hw _ (List.mem_of_getElem? (i := 25) rfl))) (mvT hZ (hw _ (List.mem_of_getElem? (i := 33) rfl))) (by decide) (backOf (W := 4) (rm_minR l Z a0 hw [] n_a1 p2 h2 n0 Zs6 hp2) hZ (hw _ (List.mem_of_getElem? (i := 33) rfl)) (hw _ (List.mem_of_getElem? (i := 25) rfl)) (by decide) (by decide)) (g := (mkF m 25 #[.val (.ref a1), .val (.int p2), .val (.ref b2)] [(.int p2), (.int n_a1), (.int (0 : Int32)), (.ref b2), (.int (0 : Int32)), (.ref a1)])) rfl (by rw [hml]; rfl) (argsL := [(.int n_a1), (.int p2)]) (rest := [(.int (0 : Int32)), (.ref b2), (.int (0 : Int32)), (.ref a1)]) (lenOf pd_0 rfl) rfl (by show 2 * 0 + _ ≤ _; exact Nat.le_of_eq rfl) (hb hby d6_25) (fun _ _ => ⟨rfl, e2, (by decide : 1 + 0 ≤ _), (by decide : 8 + 0 ≤ _)⟩)
  dsimp only [Pt.U, Pt.locs, Pt.cells, Pt.slots] at X9 l9 y9 z9 st9 hQ9
  subst l9 y9 z9
  obtain ⟨rfl, Nq9, e9⟩ := hQ9
  have N10 := Fr.app N0 Nq9
  obtain ⟨T11, h11, L11, X11, e11, N11, Kc11, V11, st11⟩ := cpA X9 hx hZ hown (hw _ (List.mem_of_getElem? (i := 34) rfl)) (hw _ (List.mem_of_getElem? (i := 37) rfl)) (hw _ (List.mem_of_getElem? (i := 35) rfl)) (hw _ (List.mem_of_getElem? (i := 36) rfl)) e9 f4 f7 (Or.inl ⟨rfl, rfl⟩) (by decide) (by decide) hp0 hp3 hp4 rfl hp5 N10 g_b2 (g := (mkF m 28 #[.val (.ref a1), .val (.int p2), .val (.ref b2)] [(.int p2), (.int (0 : Int32)), (.ref b2), (.int (0 : Int32)), (.ref a1)])) rfl (by rw [hml]; rfl) rfl (hb hby d6_28) (by decide) (W := 0) (by show 2 * 0 + _ ≤ _; exact Nat.le_of_eq rfl) (by decide)
  have f12 : Arv Z h11 b2 k2 .byte p2 (own_cp (List.replicate 16 (Value.int (0 : Int32))) vs_a1 (.int (0 : Int32)) (0 : Int32).toNatClampNeg (0 : Int32).toNatClampNeg p2.toNatClampNeg) (.int (0 : Int32)) := V11
  have f13 : Exa Z h11 a1 "[B" := f3.keep Kc11
  have f14 : Arv Z h11 a1 k_a1 .byte n_a1 vs_a1 (.int (0 : Int32)) := f4.keep Kc11 (ninS ne_a1_b2 nin0)
  have f15 : Exa Z h11 b2 "[B" := Ex2.keep Kc11
  have K16 : Keep h0 h11 [] := K5.trans Kc11 (allS (Or.inr sz_b2) all0)
  have Zs17 : n0 ≤ h11.size := Nat.le_trans Zs6 Kc11.1
  have f18 : Arv Z h11 b2 k2 .byte p2 vs_a1 (.int (0 : Int32)) := own_conv f12 (fun i hi => own_shrink hp6 i hi)
  obtain ⟨fs, hr, hrun, hended, hW, hsame⟩ := X11.leave (v := some (.ref b2)) (fun h => by rw [Bd.returns] at h; cases h) Bd.notSynchronized
  refine ⟨_, _, pre0 _ ?_, hrun, hended, _, _, rfl, ?_, ⟨_, rfl⟩, hW, hsame.mono (by decide) (by decide)⟩
  · show Steps p.tables e below (s₁.setTop (mkF m 0 #[.val (.ref a1), .val (.int p2), .unset] [])) _
    refine XS.iloadN X0.here hx rfl (hb hby d6_0) rfl ?_
    show Steps p.tables e below (s₁.setTop (mkF m 1 #[.val (.ref a1), .val (.int p2), .unset] [(.int p2)])) _
    refine XS.aloadN X0.here hx rfl (hb hby d6_1) rfl rfl ?_
    show Steps p.tables e below (s₁.setTop (mkF m 2 #[.val (.ref a1), .val (.int p2), .unset] [(.ref a1), (.int p2)])) _
    refine X0.arraylength hx (by rw [e0]; exact Aro1.1) (State.isArrayOf_alike hZ.alike Aro1.2.1) (g := (mkF m 2 #[.val (.ref a1), .val (.int p2), .unset] [(.ref a1), (.int p2)])) rfl rfl (hb hby d6_2) _ ?_
    rw [len_of So1 No1]
    show Steps p.tables e below (s₁.setTop (mkF m 3 #[.val (.ref a1), .val (.int p2), .unset] [(.int n_a1), (.int p2)])) _
    refine XS.icmpYes X0.here hx rfl (pc0 := 3) (pc' := 14) rfl (hb hby d6_3) rfl (feq hc0).2 (by decide) (by decide) ?_
    show Steps p.tables e below (s₁.setTop (mkF m 14 #[.val (.ref a1), .val (.int p2), .unset] [])) _
    refine XS.iloadN X0.here hx rfl (hb hby d6_14) rfl ?_
    show Steps p.tables e below (s₁.setTop (mkF m 15 #[.val (.ref a1), .val (.int p2), .unset] [(.int p2)])) _
    refine st2 _ ?_
    show Steps p.tables e below (T2.setTop (mkF m 17 #[.val (.ref a1), .val (.int p2), .unset] [(.ref b2)])) _
    refine XS.astoreN X2.here hx rfl (hb hby d6_17) rfl rfl (l' := #[.val (.ref a1), .val (.int p2), .val (.ref b2)]) rfl ?_
    show Steps p.tables e below (T2.setTop (mkF m 18 #[.val (.ref a1), .val (.int p2), .val (.ref b2)] [])) _
    refine XS.aloadN X2.here hx rfl (hb hby d6_18) rfl rfl ?_
    show Steps p.tables e below (T2.setTop (mkF m 19 #[.val (.ref a1), .val (.int p2), .val (.ref b2)] [(.ref a1)])) _
    refine XS.iconst X2.here hx rfl (hb hby d6_19) ?_
    show Steps p.tables e below (T2.setTop (mkF m 20 #[.val (.ref a1), .val (.int p2), .val (.ref b2)] [(.int (0 : Int32)), (.ref a1)])) _
    refine XS.aloadN X2.here hx rfl (hb hby d6_20) rfl rfl ?_
    show Steps p.tables e below (T2.setTop (mkF m 21 #[.val (.ref a1), .val (.int p2), .val (.ref b2)] [(.ref b2), (.int (0 : Int32)), (.ref a1)])) _
    refine XS.iconst X2.here hx rfl (hb hby d6_21) ?_
    show Steps p.tables e below (T2.setTop (mkF m 22 #[.val (.ref a1), .val (.int p2), .val (.ref b2)] [(.int (0 : Int32)), (.ref b2), (.int (0 : Int32)), (.ref a1)])) _
    refine XS.aloadN X2.here hx rfl (hb hby d6_22) rfl rfl ?_
    show Steps p.tables e below (T2.setTop (mkF m 23 #[.val (.ref a1), .val (.int p2), .val (.ref b2)] [(.ref a1), (.int (0 : Int32)), (.ref b2), (.int (0 : Int32)), (.ref a1)])) _
    refine X2.arraylength hx (by rw [e2]; exact Aro8.1) (State.isArrayOf_alike hZ.alike Aro8.2.1) (g := (mkF m 23 #[.val (.ref a1), .val (.int p2), .val (.ref b2)] [(.ref a1), (.int (0 : Int32)), (.ref b2), (.int (0 : Int32)), (.ref a1)])) rfl rfl (hb hby d6_23) _ ?_
    rw [len_of So8 No8]
    show Steps p.tables e below (T2.setTop (mkF m 24 #[.val (.ref a1), .val (.int p2), .val (.ref b2)] [(.int n_a1), (.int (0 : Int32)), (.ref b2), (.int (0 : Int32)), (.ref a1)])) _
    refine XS.iloadN X2.here hx rfl (hb hby d6_24) rfl ?_
    show Steps p.tables e below (T2.setTop (mkF m 25 #[.val (.ref a1), .val (.int p2), .val (.ref b2)] [(.int p2), (.int n_a1), (.int (0 : Int32)), (.ref b2), (.int (0 : Int32)), (.ref a1)])) _
    refine st9 _ ?_
    show Steps p.tables e below (T9.setTop (mkF m 28 #[.val (.ref a1), .val (.int p2), .val (.ref b2)] [(.int p2), (.int (0 : Int32)), (.ref b2), (.int (0 : Int32)), (.ref a1)])) _
    refine st11 _ ?_
    show Steps p.tables e below (T11.setTop (mkF m 31 #[.val (.ref a1), .val (.int p2), .val (.ref b2)] [])) _
    refine XS.aloadN X11.here hx rfl (hb hby d6_31) rfl rfl ?_
    show Steps p.tables e below (T11.setTop (mkF m 32 #[.val (.ref a1), .val (.int p2), .val (.ref b2)] [(.ref b2)])) _
    exact retOut X11 hx (t := (.array .byte)) (i := .areturn) Bd.returns rfl (Or.inr (Or.inr (Or.inr (Or.inr ⟨rfl, rfl, rfl⟩)))) (hb hby d6_32) hr
  · show Q_copyS Z a1 p2 k_a1 n_a1 vs_a1 h0 n0 _ T11.heap _
    rw [e11]
    exact ⟨b2, k2, rfl, N11, g_b2, sz_b2, K16, f15, f18⟩
theorem d6_6 : decode jdk_65_method_121_code 6 = .ok (.aload_n 0, 1) := by decide +kernel
theorem d6_7 : decode jdk_65_method_121_code 7 = .ok (.invokevirtual 310, 3) := by decide +kernel
theorem d6_10 : decode jdk_65_method_121_code 10 = .ok (.checkcast 311, 3) := by decide +kernel
theorem d6_13 : decode jdk_65_method_121_code 13 = .ok (.areturn, 1) := by decide +kernel
def Q_copyC (Z : State) (a1 : Addr) (p2 : Int32) (k_a1 : ClassId) (n_a1 : Int32) (vs_a1 : List Value) (h0 : Heap) (n0 : Nat) (v : Option Value) (h : Heap) (L : List Loc) : Prop := ∃ (o1 : Addr), v = some (.ref o1) ∧ Fr n0 L ∧ n0 ≤ o1 ∧ h0.size ≤ o1 ∧ Keep h0 h [] ∧ Exa Z h o1 "[B" ∧ Arv Z h o1 k_a1 .byte p2 vs_a1 (.int (0 : Int32))
set_option maxRecDepth 65536 in
set_option maxHeartbeats 40000000 in
theorem rm_copyC (l : Launch) (Z : State) (a0 : Array Value) (hw : ∀ d ∈ tables_1, d.before a0 Z = true) (ws : List Jvm.Cond) (a1 : Addr) (p2 : Int32) (k_a1 : ClassId) (n_a1 : Int32) (vs_a1 : List Value) (h0 : Heap) (n0 : Nat) (Z0 : n0 ≤ h0.size) (E_a1 : Exa Z h0 a1 "[B") (V_a1 : Arv Z h0 a1 k_a1 .byte n_a1 vs_a1 (.int (0 : Int32))) (hp0 : n_a1.toNatClampNeg ≤ 8) (hc0 : p2 = n_a1) :
    MetFree l (⟨"java/util/Arrays", "copyOf", "([BI)[B"⟩ : MethodName) (head1 (Jvm.Cond.code (⟨"java/util/Arrays", "copyOf", "([BI)[B"⟩ : MethodName) jdk_65_method_121_code 3 (some (.array .byte)) :: ws) ({ frames := 1, cells := 1, slots := 8, locals := 18 } : Room)) (fun a U => a = #[(.ref a1), (.int p2)] ∧ Z.Warmed39 U.vm ∧ U.heap = h0) (fun _ _ _ _ _ => True) (fun _ U o U' => ∃ v L, o = .returned v ∧ Q_copyC Z a1 p2 k_a1 n_a1 vs_a1 h0 n0 v U'.heap L ∧ FrameEnd U o U' L ({ frames := 1, cells := 1, slots := 8, locals := 18 } : Room).cells ({ frames := 1, cells := 1, slots := 8, locals := 18 } : Room).slots) := by
  refine MetFree.of_bodySF (plainFor_of_name pn_java_util_Arrays) hisR ?_
  intro p e s m args below meth c s₁ Bd hml0 hP hK
  obtain ⟨rfl, hZ, hh⟩ := hP
  have hx := Bd.exec
  have hby := Bd.bytes
  have hml : c.maxLocals = 3 := hml0
  have hown : s.vm.findClass "java/util/Arrays" = some m.cls := findClass_of_methodNamed Bd.named
  have hnm := (name_of_methodNamed Bd.named Bd.method).1
  have X0 : Stand p l e ({ frames := 1, cells := 1, slots := 8, locals := 18 } : Room) s m #[(.ref a1), (.int p2)] below meth c s₁ [] 0 0 := Stand.of_body Bd
  have e0 : s₁.heap = h0 := by rw [← hh, Bd.state]; rfl
  have N0 := Fr.nil n0
  have pre0 : ∀ t, Steps p.tables e below (s₁.setTop (mkF m 0 #[.val (.ref a1), .val (.int p2), .unset] [])) t → Steps p.tables e below (s₁.setTop (entryFrame m #[(.ref a1), (.int p2)] 3)) t := fun t k => castTop (ef_6_RI m a1 p2) k
  obtain ⟨clo1, Aro1, -, So1, No1, -, -⟩ := id V_a1
  obtain ⟨T2, h2, X2, e2, E2, A2, Ex2, st2⟩ := cloneH X0 hx hZ hown (hw _ (List.mem_of_getElem? (i := 54) rfl)) (hw _ (List.mem_of_getElem? (i := 55) rfl)) (hw _ (List.mem_of_getElem? (i := 59) rfl)) (hw _ (List.mem_of_getElem? (i := 57) rfl)) (hw _ (List.mem_of_getElem? (i := 58) rfl)) (hw _ (List.mem_of_getElem? (i := 60) rfl)) e0 (Arv.arh V_a1) E_a1 (g := (mkF m 7 #[.val (.ref a1), .val (.int p2), .unset] [(.ref a1)])) rfl (by rw [hml]; rfl) rfl (hb hby d6_7) (by decide) (W := 0) (cap := 8) (by show 2 * 0 + _ ≤ _; exact Nat.le_of_eq rfl) (by decide) hp0 (by decide) (by decide)
  obtain ⟨b2, g2⟩ : ∃ z, z = h0.size := ⟨_, rfl⟩
  rw [← g2] at A2 Ex2 st2
  have g_b2 : n0 ≤ b2 := Nat.le_trans Z0 (Nat.le_of_eq g2.symm)
  have sz_b2 : h0.size ≤ b2 := Nat.le_trans (Keep.refl h0 []).1 (Nat.le_of_eq g2.symm)
  have ne_a1_b2 : a1 ≠ b2 := Nat.ne_of_lt (Nat.lt_of_lt_of_le E_a1.lt (Nat.le_of_eq g2.symm))
  have f3 : Exa Z h2 a1 "[B" := E_a1.ext E2
  have f4 : Arv Z h2 a1 k_a1 .byte n_a1 vs_a1 (.int (0 : Int32)) := V_a1.ext E2
  have K5 : Keep h0 h2 [] := (Keep.refl h0 []).ext E2
  have Zs6 : n0 ≤ h2.size := Nat.le_trans Z0 E2.1
  have f7 : Arv Z h2 b2 k_a1 .byte n_a1 vs_a1 (.int (0 : Int32)) := A2
  obtain ⟨T8, X8, e8, st8⟩ := castY X2 hx hZ hown (hw _ (List.mem_of_getElem? (i := 61) rfl)) e2 (Ins.self Ex2) (g := (mkF m 10 #[.val (.ref a1), .val (.int p2), .unset] [(.ref b2)])) rfl rfl (hb hby d6_10)
  have f9 : Arv Z h2 b2 k_a1 .byte p2 vs_a1 (.int (0 : Int32)) := by rw [hc0]; exact f7
  obtain ⟨fs, hr, hrun, hended, hW, hsame⟩ := X8.leave (v := some (.ref b2)) (fun h => by rw [Bd.returns] at h; cases h) Bd.notSynchronized
  refine ⟨_, _, pre0 _ ?_, hrun, hended, _, _, rfl, ?_, ⟨_, rfl⟩, hW, hsame.mono (by decide) (by decide)⟩
  · show Steps p.tables e below (s₁.setTop (mkF m 0 #[.val (.ref a1), .val (.int p2), .unset] [])) _
    refine XS.iloadN X0.here hx rfl (hb hby d6_0) rfl ?_
    show Steps p.tables e below (s₁.setTop (mkF m 1 #[.val (.ref a1), .val (.int p2), .unset] [(.int p2)])) _
    refine XS.aloadN X0.here hx rfl (hb hby d6_1) rfl rfl ?_
    show Steps p.tables e below (s₁.setTop (mkF m 2 #[.val (.ref a1), .val (.int p2), .unset] [(.ref a1), (.int p2)])) _
    refine X0.arraylength hx (by rw [e0]; exact Aro1.1) (State.isArrayOf_alike hZ.alike Aro1.2.1) (g := (mkF m 2 #[.val (.ref a1), .val (.int p2), .unset] [(.ref a1), (.int p2)])) rfl rfl (hb hby d6_2) _ ?_
    rw [len_of So1 No1]
    show Steps p.tables e below (s₁.setTop (mkF m 3 #[.val (.ref a1), .val (.int p2), .unset] [(.int n_a1), (.int p2)])) _
    refine XS.icmpNo X0.here hx rfl (hb hby d6_3) rfl (teq hc0).2 ?_
    show Steps p.tables e below (s₁.setTop (mkF m 6 #[.val (.ref a1), .val (.int p2), .unset] [])) _
    refine XS.aloadN X0.here hx rfl (hb hby d6_6) rfl rfl ?_
    show Steps p.tables e below (s₁.setTop (mkF m 7 #[.val (.ref a1), .val (.int p2), .unset] [(.ref a1)])) _
    refine st2 _ ?_
    show Steps p.tables e below (T2.setTop (mkF m 10 #[.val (.ref a1), .val (.int p2), .unset] [(.ref b2)])) _
    refine st8 _ ?_
    show Steps p.tables e below (T8.setTop (mkF m 13 #[.val (.ref a1), .val (.int p2), .unset] [(.ref b2)])) _
    exact retOut X8 hx (t := (.array .byte)) (i := .areturn) Bd.returns rfl (Or.inr (Or.inr (Or.inr (Or.inr ⟨rfl, rfl, rfl⟩)))) (hb hby d6_13) hr
  · show Q_copyC Z a1 p2 k_a1 n_a1 vs_a1 h0 n0 _ T8.heap _
    rw [e8]
    exact ⟨b2, rfl, N0, g_b2, sz_b2, K5, Ex2, f9⟩
theorem d9_0 : decode prog_1_method_2_code 0 = .ok (.aload_n 0, 1) := by decide +kernel
theorem d9_1 : decode prog_1_method_2_code 1 = .ok (.getfield 13, 3) := by decide +kernel
theorem d9_4 : decode prog_1_method_2_code 4 = .ok (.ireturn, 1) := by decide +kernel
theorem pn_com_example_herald_herald_bytecode_Bytes : plainName "com/example/herald/herald/bytecode/Bytes" = true := by first | (simp [plainName, overriddenIn]; done) | decide +kernel
theorem ef_9_R (m : MethodId) (x0 : Addr) : entryFrame m #[(.ref x0)] 1 = mkF m 0 #[.val (.ref x0)] [] := by first | (simp [entryFrame, mkF, argsToLocals, Value.category]; done) | rfl
def Q_length (Z : State) (a1 : Addr) (w_length_a1 : Int32) (h0 : Heap) (n0 : Nat) (v : Option Value) (h : Heap) (L : List Loc) : Prop := v = some (.int w_length_a1) ∧ Fr n0 L ∧ h = h0
set_option maxRecDepth 65536 in
set_option maxHeartbeats 40000000 in
theorem rm_length (l : Launch) (Z : State) (a0 : Array Value) (hw : ∀ d ∈ tables_1, d.before a0 Z = true) (ws : List Jvm.Cond) (a1 : Addr) (w_length_a1 : Int32) (h0 : Heap) (n0 : Nat) (Z0 : n0 ≤ h0.size) (F_length_a1 : Fld Z h0 a1 "com/example/herald/herald/bytecode/Bytes" "length" "I" (.int w_length_a1)) :
    MetFree l (⟨"com/example/herald/herald/bytecode/Bytes", "length", "()I"⟩ : MethodName) (head1 (Jvm.Cond.code (⟨"com/example/herald/herald/bytecode/Bytes", "length", "()I"⟩ : MethodName) prog_1_method_2_code 1 (some .int) :: ws) ({ frames := 0, cells := 0, slots := 0, locals := 0 } : Room)) (fun a U => a = #[(.ref a1)] ∧ Z.Warmed39 U.vm ∧ U.heap = h0) (fun _ _ _ _ _ => True) (fun _ U o U' => ∃ v L, o = .returned v ∧ Q_length Z a1 w_length_a1 h0 n0 v U'.heap L ∧ FrameEnd U o U' L ({ frames := 0, cells := 0, slots := 0, locals := 0 } : Room).cells ({ frames := 0, cells := 0, slots := 0, locals := 0 } : Room).slots) := by
  refine MetFree.of_bodySF (plainFor_of_name pn_com_example_herald_herald_bytecode_Bytes) hisR ?_
  intro p e s m args below meth c s₁ Bd hml0 hP hK
  obtain ⟨rfl, hZ, hh⟩ := hP
  have hx := Bd.exec
  have hby := Bd.bytes
  have hml : c.maxLocals = 1 := hml0
  have hown : s.vm.findClass "com/example/herald/herald/bytecode/Bytes" = some m.cls := findClass_of_methodNamed Bd.named
  have hnm := (name_of_methodNamed Bd.named Bd.method).1
  have X0 : Stand p l e ({ frames := 0, cells := 0, slots := 0, locals := 0 } : Room) s m #[(.ref a1)] below meth c s₁ [] 0 0 := Stand.of_body Bd
  have e0 : s₁.heap = h0 := by rw [← hh, Bd.state]; rfl
  have N0 := Fr.nil n0
  have pre0 : ∀ t, Steps p.tables e below (s₁.setTop (mkF m 0 #[.val (.ref a1)] [])) t → Steps p.tables e below (s₁.setTop (entryFrame m #[(.ref a1)] 1)) t := fun t k => castTop (ef_9_R m a1) k
  obtain ⟨T1, X1, e1, st1⟩ := getF X0 hx hZ hown (host := "") (Or.inl (hw _ (List.mem_of_getElem? (i := 21) rfl))) Via.refl e0 F_length_a1 (g := (mkF m 1 #[.val (.ref a1)] [(.ref a1)])) rfl rfl (hb hby d9_1)
  obtain ⟨fs, hr, hrun, hended, hW, hsame⟩ := X1.leave (v := some (.int w_length_a1)) (fun h => by rw [Bd.returns] at h; cases h) Bd.notSynchronized
  refine ⟨_, _, pre0 _ ?_, hrun, hended, _, _, rfl, ?_, ⟨_, rfl⟩, hW, hsame.mono (by decide) (by decide)⟩
  · show Steps p.tables e below (s₁.setTop (mkF m 0 #[.val (.ref a1)] [])) _
    refine XS.aloadN X0.here hx rfl (hb hby d9_0) rfl rfl ?_
    show Steps p.tables e below (s₁.setTop (mkF m 1 #[.val (.ref a1)] [(.ref a1)])) _
    refine st1 _ ?_
    show Steps p.tables e below (T1.setTop (mkF m 4 #[.val (.ref a1)] [(.int w_length_a1)])) _
    exact retI X1 hx Bd.returns (hb hby d9_4) hr
  · show Q_length Z a1 w_length_a1 h0 n0 _ T1.heap _
    rw [e1]
    exact ⟨rfl, N0, rfl⟩
theorem d4_0 : decode prog_1_method_11_code 0 = .ok (.aload_n 0, 1) := by decide +kernel
theorem d4_1 : decode prog_1_method_11_code 1 = .ok (.getfield 13, 3) := by decide +kernel
theorem d4_4 : decode prog_1_method_11_code 4 = .ok (.iload_n 1, 1) := by decide +kernel
theorem d4_5 : decode prog_1_method_11_code 5 = .ok (.iadd, 1) := by decide +kernel
theorem d4_6 : decode prog_1_method_11_code 6 = .ok (.aload_n 0, 1) := by decide +kernel
theorem d4_7 : decode prog_1_method_11_code 7 = .ok (.getfield 7, 3) := by decide +kernel
theorem d4_10 : decode prog_1_method_11_code 10 = .ok (.arraylength, 1) := by decide +kernel
theorem d4_11 : decode prog_1_method_11_code 11 = .ok (.if_icmp .le 30, 3) := by decide +kernel
theorem d4_41 : decode prog_1_method_11_code 41 = .ok (.return_, 1) := by decide +kernel
theorem ef_4_RI (m : MethodId) (x0 : Addr) (x1 : Int32) : entryFrame m #[(.ref x0), (.int x1)] 2 = mkF m 0 #[.val (.ref x0), .val (.int x1)] [] := by first | (simp [entryFrame, mkF, argsToLocals, Value.category]; done) | rfl
def Q_roomF (Z : State) (a1 : Addr) (p2 : Int32) (w_length_a1 : Int32) (w_bytes_a1 : Addr) (k_w_bytes_a1 : ClassId) (n_w_bytes_a1 : Int32) (vs_w_bytes_a1 : List Value) (h0 : Heap) (n0 : Nat) (v : Option Value) (h : Heap) (L : List Loc) : Prop := v = none ∧ Fr n0 L ∧ h = h0
set_option maxRecDepth 65536 in
set_option maxHeartbeats 40000000 in
theorem rm_roomF (l : Launch) (Z : State) (a0 : Array Value) (hw : ∀ d ∈ tables_1, d.before a0 Z = true) (ws : List Jvm.Cond) (a1 : Addr) (p2 : Int32) (w_length_a1 : Int32) (w_bytes_a1 : Addr) (k_w_bytes_a1 : ClassId) (n_w_bytes_a1 : Int32) (vs_w_bytes_a1 : List Value) (h0 : Heap) (n0 : Nat) (Z0 : n0 ≤ h0.size) (F_length_a1 : Fld Z h0 a1 "com/example/herald/herald/bytecode/Bytes" "length" "I" (.int w_length_a1)) (F_bytes_a1 : Fld Z h0 a1 "com/example/herald/herald/bytecode/Bytes" "bytes" "[B" (.ref w_bytes_a1)) (V_w_bytes_a1 : Arv Z h0 w_bytes_a1 k_w_bytes_a1 .byte n_w_bytes_a1 vs_w_bytes_a1 (.int (0 : Int32))) (hc0 : ¬ (n_w_bytes_a1 < (w_length_a1 + p2))) :
    MetFree l (⟨"com/example/herald/herald/bytecode/Bytes", "room", "(I)V"⟩ : MethodName) (head1 (Jvm.Cond.code (⟨"com/example/herald/herald/bytecode/Bytes", "room", "(I)V"⟩ : MethodName) prog_1_method_11_code 2 none :: ws) ({ frames := 0, cells := 0, slots := 0, locals := 0 } : Room)) (fun a U => a = #[(.ref a1), (.int p2)] ∧ Z.Warmed39 U.vm ∧ U.heap = h0) (fun _ _ _ _ _ => True) (fun _ U o U' => ∃ v L, o = .returned v ∧ Q_roomF Z a1 p2 w_length_a1 w_bytes_a1 k_w_bytes_a1 n_w_bytes_a1 vs_w_bytes_a1 h0 n0 v U'.heap L ∧ FrameEnd U o U' L ({ frames := 0, cells := 0, slots := 0, locals := 0 } : Room).cells ({ frames := 0, cells := 0, slots := 0, locals := 0 } : Room).slots) := by
  refine MetFree.of_bodySF (plainFor_of_name pn_com_example_herald_herald_bytecode_Bytes) hisR ?_
  intro p e s m args below meth c s₁ Bd hml0 hP hK
  obtain ⟨rfl, hZ, hh⟩ := hP
  have hx := Bd.exec
  have hby := Bd.bytes
  have hml : c.maxLocals = 2 := hml0
  have hown : s.vm.findClass "com/example/herald/herald/bytecode/Bytes" = some m.cls := findClass_of_methodNamed Bd.named
  have hnm := (name_of_methodNamed Bd.named Bd.method).1
  have X0 : Stand p l e ({ frames := 0, cells := 0, slots := 0, locals := 0 } : Room) s m #[(.ref a1), (.int p2)] below meth c s₁ [] 0 0 := Stand.of_body Bd
  have e0 : s₁.heap = h0 := by rw [← hh, Bd.state]; rfl
  have N0 := Fr.nil n0
  have pre0 : ∀ t, Steps p.tables e below (s₁.setTop (mkF m 0 #[.val (.ref a1), .val (.int p2)] [])) t → Steps p.tables e below (s₁.setTop (entryFrame m #[(.ref a1), (.int p2)] 2)) t := fun t k => castTop (ef_4_RI m a1 p2) k
  obtain ⟨T1, X1, e1, st1⟩ := getF X0 hx hZ hown (host := "") (Or.inl (hw _ (List.mem_of_getElem? (i := 21) rfl))) Via.refl e0 F_length_a1 (g := (mkF m 1 #[.val (.ref a1), .val (.int p2)] [(.ref a1)])) rfl rfl (hb hby d4_1)
  obtain ⟨T2, X2, e2, st2⟩ := getF X1 hx hZ hown (host := "") (Or.inl (hw _ (List.mem_of_getElem? (i := 10) rfl))) Via.refl e1 F_bytes_a1 (g := (mkF m 7 #[.val (.ref a1), .val (.int p2)] [(.ref a1), (.int (w_length_a1 + p2))])) rfl rfl (hb hby d4_7)
  obtain ⟨clo3, Aro3, -, So3, No3, -, -⟩ := id V_w_bytes_a1
  obtain ⟨fs, hr, hrun, hended, hW, hsame⟩ := X2.leave (v := none) (fun _ => rfl) Bd.notSynchronized
  refine ⟨_, _, pre0 _ ?_, hrun, hended, _, _, rfl, ?_, ⟨_, rfl⟩, hW, hsame.mono (by decide) (by decide)⟩
  · show Steps p.tables e below (s₁.setTop (mkF m 0 #[.val (.ref a1), .val (.int p2)] [])) _
    refine XS.aloadN X0.here hx rfl (hb hby d4_0) rfl rfl ?_
    show Steps p.tables e below (s₁.setTop (mkF m 1 #[.val (.ref a1), .val (.int p2)] [(.ref a1)])) _
    refine st1 _ ?_
    show Steps p.tables e below (T1.setTop (mkF m 4 #[.val (.ref a1), .val (.int p2)] [(.int w_length_a1)])) _
    refine XS.iloadN X1.here hx rfl (hb hby d4_4) rfl ?_
    show Steps p.tables e below (T1.setTop (mkF m 5 #[.val (.ref a1), .val (.int p2)] [(.int p2), (.int w_length_a1)])) _
    refine XS.iadd X1.here hx rfl (hb hby d4_5) rfl ?_
    show Steps p.tables e below (T1.setTop (mkF m 6 #[.val (.ref a1), .val (.int p2)] [(.int (w_length_a1 + p2))])) _
    refine XS.aloadN X1.here hx rfl (hb hby d4_6) rfl rfl ?_
    show Steps p.tables e below (T1.setTop (mkF m 7 #[.val (.ref a1), .val (.int p2)] [(.ref a1), (.int (w_length_a1 + p2))])) _
    refine st2 _ ?_
    show Steps p.tables e below (T2.setTop (mkF m 10 #[.val (.ref a1), .val (.int p2)] [(.ref w_bytes_a1), (.int (w_length_a1 + p2))])) _
    refine X2.arraylength hx (by rw [e2]; exact Aro3.1) (State.isArrayOf_alike hZ.alike Aro3.2.1) (g := (mkF m 10 #[.val (.ref a1), .val (.int p2)] [(.ref w_bytes_a1), (.int (w_length_a1 + p2))])) rfl rfl (hb hby d4_10) _ ?_
    rw [len_of So3 No3]
    show Steps p.tables e below (T2.setTop (mkF m 11 #[.val (.ref a1), .val (.int p2)] [(.int n_w_bytes_a1), (.int (w_length_a1 + p2))])) _
    refine XS.icmpYes X2.here hx rfl (pc0 := 11) (pc' := 41) rfl (hb hby d4_11) rfl (flt hc0).2.2.2 (by decide) (by decide) ?_
    show Steps p.tables e below (T2.setTop (mkF m 41 #[.val (.ref a1), .val (.int p2)] [])) _
    exact X2.returnOut hx Bd.returns (hb hby d4_41) hr
  · show Q_roomF Z a1 p2 w_length_a1 w_bytes_a1 k_w_bytes_a1 n_w_bytes_a1 vs_w_bytes_a1 h0 n0 _ T2.heap _
    rw [e2]
    exact ⟨rfl, N0, rfl⟩
theorem pd_1 : parseMethodDescriptor "([BI)[B" = some ⟨[(.array .byte), .int], some (.array .byte)⟩ := by decide +kernel
theorem d4_14 : decode prog_1_method_11_code 14 = .ok (.aload_n 0, 1) := by decide +kernel
theorem d4_15 : decode prog_1_method_11_code 15 = .ok (.aload_n 0, 1) := by decide +kernel
theorem d4_16 : decode prog_1_method_11_code 16 = .ok (.getfield 7, 3) := by decide +kernel
theorem d4_19 : decode prog_1_method_11_code 19 = .ok (.aload_n 0, 1) := by decide +kernel
theorem d4_20 : decode prog_1_method_11_code 20 = .ok (.getfield 7, 3) := by decide +kernel
theorem d4_23 : decode prog_1_method_11_code 23 = .ok (.arraylength, 1) := by decide +kernel
theorem d4_24 : decode prog_1_method_11_code 24 = .ok (.iconst 2, 1) := by decide +kernel
theorem d4_25 : decode prog_1_method_11_code 25 = .ok (.imul, 1) := by decide +kernel
theorem d4_26 : decode prog_1_method_11_code 26 = .ok (.aload_n 0, 1) := by decide +kernel
theorem d4_27 : decode prog_1_method_11_code 27 = .ok (.getfield 13, 3) := by decide +kernel
theorem d4_30 : decode prog_1_method_11_code 30 = .ok (.iload_n 1, 1) := by decide +kernel
theorem d4_31 : decode prog_1_method_11_code 31 = .ok (.iadd, 1) := by decide +kernel
theorem d4_32 : decode prog_1_method_11_code 32 = .ok (.invokestatic 33, 3) := by decide +kernel
theorem d4_35 : decode prog_1_method_11_code 35 = .ok (.invokestatic 27, 3) := by decide +kernel
theorem d4_38 : decode prog_1_method_11_code 38 = .ok (.putfield 7, 3) := by decide +kernel
def Q_roomL (Z : State) (a1 : Addr) (p2 : Int32) (w_length_a1 : Int32) (w_bytes_a1 : Addr) (k_w_bytes_a1 : ClassId) (n_w_bytes_a1 : Int32) (vs_w_bytes_a1 : List Value) (h0 : Heap) (n0 : Nat) (v : Option Value) (h : Heap) (L : List Loc) : Prop := ∃ (o1 : Addr), ∃ (ko1 : ClassId), v = none ∧ Fr n0 L ∧ n0 ≤ o1 ∧ h0.size ≤ o1 ∧ Keep h0 h [a1] ∧ Fld Z h a1 "com/example/herald/herald/bytecode/Bytes" "length" "I" (.int w_length_a1) ∧ Fld Z h a1 "com/example/herald/herald/bytecode/Bytes" "bytes" "[B" (.ref o1) ∧ Exa Z h a1 "com/example/herald/herald/bytecode/Bytes" ∧ Exa Z h o1 "[B" ∧ Arv Z h o1 ko1 .byte (n_w_bytes_a1 * (2 : Int32)) vs_w_bytes_a1 (.int (0 : Int32))
set_option maxRecDepth 65536 in
set_option maxHeartbeats 40000000 in
theorem rm_roomL (l : Launch) (Z : State) (a0 : Array Value) (hw : ∀ d ∈ tables_1, d.before a0 Z = true) (ws : List Jvm.Cond) (a1 : Addr) (p2 : Int32) (w_length_a1 : Int32) (w_bytes_a1 : Addr) (k_w_bytes_a1 : ClassId) (n_w_bytes_a1 : Int32) (vs_w_bytes_a1 : List Value) (h0 : Heap) (n0 : Nat) (Z0 : n0 ≤ h0.size) (F_length_a1 : Fld Z h0 a1 "com/example/herald/herald/bytecode/Bytes" "length" "I" (.int w_length_a1)) (F_bytes_a1 : Fld Z h0 a1 "com/example/herald/herald/bytecode/Bytes" "bytes" "[B" (.ref w_bytes_a1)) (V_w_bytes_a1 : Arv Z h0 w_bytes_a1 k_w_bytes_a1 .byte n_w_bytes_a1 vs_w_bytes_a1 (.int (0 : Int32))) (E_a1 : Exa Z h0 a1 "com/example/herald/herald/bytecode/Bytes") (g_a1 : n0 ≤ a1) (ne_w_bytes_a1_a1 : w_bytes_a1 ≠ a1) (hp0 : ¬ ((n_w_bytes_a1 * (2 : Int32)) < (w_length_a1 + p2))) (hp1 : ¬ ((n_w_bytes_a1 * (2 : Int32)) < (0 : Int32))) (hp2 : (n_w_bytes_a1 * (2 : Int32)).toNatClampNeg ≤ 14) (hp3 : ¬ ((n_w_bytes_a1 * (2 : Int32)) < n_w_bytes_a1)) (hp4 : ¬ (n_w_bytes_a1 < (0 : Int32))) (hp5 : (0 : Int32).toNatClampNeg + n_w_bytes_a1.toNatClampNeg ≤ n_w_bytes_a1.toNatClampNeg) (hp6 : (0 : Int32).toNatClampNeg + n_w_bytes_a1.toNatClampNeg ≤ (n_w_bytes_a1 * (2 : Int32)).toNatClampNeg) (hp7 : (0 : Int32).toNatClampNeg + n_w_bytes_a1.toNatClampNeg ≤ (List.replicate 16 (Value.int (0 : Int32))).length) (hp8 : own_Z vs_w_bytes_a1 n_w_bytes_a1) (hp9 : n_w_bytes_a1.toNatClampNeg ≤ 16) (hp10 : ¬ ((n_w_bytes_a1 * (2 : Int32)) = n_w_bytes_a1)) (hc0 : n_w_bytes_a1 < (w_length_a1 + p2)) :
    MetFree l (⟨"com/example/herald/herald/bytecode/Bytes", "room", "(I)V"⟩ : MethodName) (head1 (Jvm.Cond.code (⟨"com/example/herald/herald/bytecode/Bytes", "room", "(I)V"⟩ : MethodName) prog_1_method_11_code 2 none :: ws) ({ frames := 2, cells := 1, slots := 14, locals := 33 } : Room)) (fun a U => a = #[(.ref a1), (.int p2)] ∧ Z.Warmed39 U.vm ∧ U.heap = h0) (fun _ _ _ _ _ => True) (fun _ U o U' => ∃ v L, o = .returned v ∧ Q_roomL Z a1 p2 w_length_a1 w_bytes_a1 k_w_bytes_a1 n_w_bytes_a1 vs_w_bytes_a1 h0 n0 v U'.heap L ∧ FrameEnd U o U' L ({ frames := 2, cells := 1, slots := 14, locals := 33 } : Room).cells ({ frames := 2, cells := 1, slots := 14, locals := 33 } : Room).slots) := by
  refine MetFree.of_bodySF (plainFor_of_name pn_com_example_herald_herald_bytecode_Bytes) hisR ?_
  intro p e s m args below meth c s₁ Bd hml0 hP hK
  obtain ⟨rfl, hZ, hh⟩ := hP
  have hx := Bd.exec
  have hby := Bd.bytes
  have hml : c.maxLocals = 2 := hml0
  have hown : s.vm.findClass "com/example/herald/herald/bytecode/Bytes" = some m.cls := findClass_of_methodNamed Bd.named
  have hnm := (name_of_methodNamed Bd.named Bd.method).1
  have X0 : Stand p l e ({ frames := 2, cells := 1, slots := 14, locals := 33 } : Room) s m #[(.ref a1), (.int p2)] below meth c s₁ [] 0 0 := Stand.of_body Bd
  have e0 : s₁.heap = h0 := by rw [← hh, Bd.state]; rfl
  have N0 := Fr.nil n0
  have pre0 : ∀ t, Steps p.tables e below (s₁.setTop (mkF m 0 #[.val (.ref a1), .val (.int p2)] [])) t → Steps p.tables e below (s₁.setTop (entryFrame m #[(.ref a1), (.int p2)] 2)) t := fun t k => castTop (ef_4_RI m a1 p2) k
  obtain ⟨T1, X1, e1, st1⟩ := getF X0 hx hZ hown (host := "") (Or.inl (hw _ (List.mem_of_getElem? (i := 21) rfl))) Via.refl e0 F_length_a1 (g := (mkF m 1 #[.val (.ref a1), .val (.int p2)] [(.ref a1)])) rfl rfl (hb hby d4_1)
  obtain ⟨T2, X2, e2, st2⟩ := getF X1 hx hZ hown (host := "") (Or.inl (hw _ (List.mem_of_getElem? (i := 10) rfl))) Via.refl e1 F_bytes_a1 (g := (mkF m 7 #[.val (.ref a1), .val (.int p2)] [(.ref a1), (.int (w_length_a1 + p2))])) rfl rfl (hb hby d4_7)
  obtain ⟨clo3, Aro3, -, So3, No3, -, -⟩ := id V_w_bytes_a1
  obtain ⟨T4, X4, e4, st4⟩ := getF X2 hx hZ hown (host := "") (Or.inl (hw _ (List.mem_of_getElem? (i := 10) rfl))) Via.refl e2 F_bytes_a1 (g := (mkF m 16 #[.val (.ref a1), .val (.int p2)] [(.ref a1), (.ref a1)])) rfl rfl (hb hby d4_16)
  obtain ⟨T5, X5, e5, st5⟩ := getF X4 hx hZ hown (host := "") (Or.inl (hw _ (List.mem_of_getElem? (i := 10) rfl))) Via.refl e4 F_bytes_a1 (g := (mkF m 20 #[.val (.ref a1), .val (.int p2)] [(.ref a1), (.ref w_bytes_a1), (.ref a1)])) rfl rfl (hb hby d4_20)
  obtain ⟨clo6, Aro6, -, So6, No6, -, -⟩ := id V_w_bytes_a1
  obtain ⟨T7, X7, e7, st7⟩ := getF X5 hx hZ hown (host := "") (Or.inl (hw _ (List.mem_of_getElem? (i := 21) rfl))) Via.refl e5 F_length_a1 (g := (mkF m 27 #[.val (.ref a1), .val (.int p2)] [(.ref a1), (.int (n_w_bytes_a1 * (2 : Int32))), (.ref w_bytes_a1), (.ref a1)])) rfl rfl (hb hby d4_27)
  obtain ⟨_, _, ⟨T8, L8, k8, n8⟩, -, X8, ⟨Lc8, hQ8, l8, y8, z8⟩, st8⟩ := Jvm.LawKit.callS X7 hx (y := (⟨"java/lang/Math", "max", "(II)I"⟩ : MethodName)) hown (mvT hZ (hw _ (List.mem_of_getElem? (i := 23) rfl))) (mvT hZ (hw _ (List.mem_of_getElem? (i := 24) rfl))) (mvT hZ (hw _ (List.mem_of_getElem? (i := 25) rfl))) (mvT hZ (hw _ (List.mem_of_getElem? (i := 26) rfl))) (by decide) (backOf (W := 2) (rm_maxL l Z a0 hw [] (n_w_bytes_a1 * (2 : Int32)) (w_length_a1 + p2) h0 n0 Z0 hp0) hZ (hw _ (List.mem_of_getElem? (i := 26) rfl)) (hw _ (List.mem_of_getElem? (i := 25) rfl)) (by decide) (by decide)) (g := (mkF m 32 #[.val (.ref a1), .val (.int p2)] [(.int (w_length_a1 + p2)), (.int (n_w_bytes_a1 * (2 : Int32))), (.ref w_bytes_a1), (.ref a1)])) rfl (by rw [hml]; rfl) (argsL := [(.int (n_w_bytes_a1 * (2 : Int32))), (.int (w_length_a1 + p2))]) (rest := [(.ref w_bytes_a1), (.ref a1)]) (lenOf pd_0 rfl) rfl (by show 2 * 0 + _ ≤ _; exact Nat.le_of_eq rfl) (hb hby d4_32) (fun _ _ => ⟨rfl, e7, (by decide : 0 + 0 ≤ _), (by decide : 0 + 0 ≤ _)⟩)
  dsimp only [Pt.U, Pt.locs, Pt.cells, Pt.slots] at X8 l8 y8 z8 st8 hQ8
  subst l8 y8 z8
  obtain ⟨rfl, Nq8, e8⟩ := hQ8
  have N9 := Fr.app N0 Nq8
  obtain ⟨_, _, ⟨T10, L10, k10, n10⟩, -, X10, ⟨Lc10, hQ10, l10, y10, z10⟩, st10⟩ := Jvm.LawKit.callS X8 hx (y := (⟨"java/util/Arrays", "copyOf", "([BI)[B"⟩ : MethodName)) hown (mvT hZ (hw _ (List.mem_of_getElem? (i := 27) rfl))) (mvT hZ (hw _ (List.mem_of_getElem? (i := 28) rfl))) (mvT hZ (hw _ (List.mem_of_getElem? (i := 29) rfl))) (mvT hZ (hw _ (List.mem_of_getElem? (i := 30) rfl))) (by decide) (backOf (W := 1) (rm_copyG l Z a0 hw [] w_bytes_a1 (n_w_bytes_a1 * (2 : Int32)) k_w_bytes_a1 n_w_bytes_a1 vs_w_bytes_a1 h0 n0 Z0 V_w_bytes_a1 hp1 hp2 hp3 hp4 hp5 hp6 hp7 hp8 hp9 hp10) hZ (hw _ (List.mem_of_getElem? (i := 30) rfl)) (hw _ (List.mem_of_getElem? (i := 29) rfl)) (by decide) (by decide)) (g := (mkF m 35 #[.val (.ref a1), .val (.int p2)] [(.int (n_w_bytes_a1 * (2 : Int32))), (.ref w_bytes_a1), (.ref a1)])) rfl (by rw [hml]; rfl) (argsL := [(.ref w_bytes_a1), (.int (n_w_bytes_a1 * (2 : Int32)))]) (rest := [(.ref a1)]) (lenOf pd_1 rfl) rfl (by show 2 * 0 + _ ≤ _; exact Nat.le_of_eq rfl) (hb hby d4_35) (fun _ _ => ⟨rfl, e8, (by decide : 0 + 1 ≤ _), (by decide : 0 + 14 ≤ _)⟩)
  dsimp only [Pt.U, Pt.locs, Pt.cells, Pt.slots] at X10 l10 y10 z10 st10 hQ10
  subst l10 y10 z10
  obtain ⟨b10_1, k10_2, rfl, Nq10, g_b10_1, szq_b10_1, Kc10, fq10_0, fq10_1⟩ := hQ10
  have sz_b10_1 : h0.size ≤ b10_1 := Nat.le_trans (Keep.refl h0 [a1]).1 szq_b10_1
  have ne_a1_b10_1 : a1 ≠ b10_1 := Nat.ne_of_lt (Nat.lt_of_lt_of_le F_length_a1.lt szq_b10_1)
  have ne_w_bytes_a1_b10_1 : w_bytes_a1 ≠ b10_1 := Nat.ne_of_lt (Nat.lt_of_lt_of_le V_w_bytes_a1.lt szq_b10_1)
  have f12 : Fld Z T10.heap a1 "com/example/herald/herald/bytecode/Bytes" "length" "I" (.int w_length_a1) := F_length_a1.keep Kc10 nin0
  have f13 : Fld Z T10.heap a1 "com/example/herald/herald/bytecode/Bytes" "bytes" "[B" (.ref w_bytes_a1) := F_bytes_a1.keep Kc10 nin0
  have f14 : Arv Z T10.heap w_bytes_a1 k_w_bytes_a1 .byte n_w_bytes_a1 vs_w_bytes_a1 (.int (0 : Int32)) := V_w_bytes_a1.keep Kc10 nin0
  have f15 : Exa Z T10.heap a1 "com/example/herald/herald/bytecode/Bytes" := E_a1.keep Kc10
  have f16 : Arv Z T10.heap b10_1 k10_2 .byte (n_w_bytes_a1 * (2 : Int32)) vs_w_bytes_a1 (.int (0 : Int32)) := fq10_1
  have K17 : Keep h0 T10.heap [a1] := (Keep.refl h0 [a1]).trans Kc10 all0
  have Zs18 : n0 ≤ T10.heap.size := Nat.le_trans Z0 Kc10.1
  have N11 := Fr.app N9 Nq10
  obtain ⟨T19, h19, X19, e19, W19, st19⟩ := putF X10 hx hZ hown (host := "") (Or.inl (hw _ (List.mem_of_getElem? (i := 10) rfl))) Via.refl rfl f13 f15 (Or.inl (hw _ (List.mem_of_getElem? (i := 11) rfl))) (hw _ (List.mem_of_getElem? (i := 1) rfl)) (ty := (.array .byte)) (by decide) rfl rfl (g := (mkF m 38 #[.val (.ref a1), .val (.int p2)] [(.ref b10_1), (.ref a1)])) rfl rfl (hb hby d4_38)
  have f20 : Fld Z h19 a1 "com/example/herald/herald/bytecode/Bytes" "length" "I" (.int w_length_a1) := f12.other W19 (Or.inr (slot_ne (Or.inl (hw _ (List.mem_of_getElem? (i := 22) rfl))) (Or.inl (hw _ (List.mem_of_getElem? (i := 11) rfl))) (by decide) (t := .int) (t' := (.array .byte)) (by decide) (by decide)))
  have f21 : Fld Z h19 a1 "com/example/herald/herald/bytecode/Bytes" "bytes" "[B" (.ref b10_1) := f13.same W19
  have f22 : Arv Z h19 w_bytes_a1 k_w_bytes_a1 .byte n_w_bytes_a1 vs_w_bytes_a1 (.int (0 : Int32)) := f14.other W19 ne_w_bytes_a1_a1
  have f23 : Exa Z h19 a1 "com/example/herald/herald/bytecode/Bytes" := f15.wr W19
  have f24 : Exa Z h19 b10_1 "[B" := fq10_0.wr W19
  have f25 : Arv Z h19 b10_1 k10_2 .byte (n_w_bytes_a1 * (2 : Int32)) vs_w_bytes_a1 (.int (0 : Int32)) := f16.other W19 (Ne.symm ne_a1_b10_1)
  have K26 : Keep h0 h19 [a1] := K17.wr W19 (Or.inl (List.mem_of_getElem? (i := 0) rfl))
  have N27 := Fr.snoc X19 N11 g_a1
  have Zs28 : n0 ≤ h19.size := Nat.le_trans Zs18 (Keep.of_wr W19).1
  obtain ⟨fs, hr, hrun, hended, hW, hsame⟩ := X19.leave (v := none) (fun _ => rfl) Bd.notSynchronized
  refine ⟨_, _, pre0 _ ?_, hrun, hended, _, _, rfl, ?_, ⟨_, rfl⟩, hW, hsame.mono (by decide) (by decide)⟩
  · show Steps p.tables e below (s₁.setTop (mkF m 0 #[.val (.ref a1), .val (.int p2)] [])) _
    refine XS.aloadN X0.here hx rfl (hb hby d4_0) rfl rfl ?_
    show Steps p.tables e below (s₁.setTop (mkF m 1 #[.val (.ref a1), .val (.int p2)] [(.ref a1)])) _
    refine st1 _ ?_
    show Steps p.tables e below (T1.setTop (mkF m 4 #[.val (.ref a1), .val (.int p2)] [(.int w_length_a1)])) _
    refine XS.iloadN X1.here hx rfl (hb hby d4_4) rfl ?_
    show Steps p.tables e below (T1.setTop (mkF m 5 #[.val (.ref a1), .val (.int p2)] [(.int p2), (.int w_length_a1)])) _
    refine XS.iadd X1.here hx rfl (hb hby d4_5) rfl ?_
    show Steps p.tables e below (T1.setTop (mkF m 6 #[.val (.ref a1), .val (.int p2)] [(.int (w_length_a1 + p2))])) _
    refine XS.aloadN X1.here hx rfl (hb hby d4_6) rfl rfl ?_
    show Steps p.tables e below (T1.setTop (mkF m 7 #[.val (.ref a1), .val (.int p2)] [(.ref a1), (.int (w_length_a1 + p2))])) _
    refine st2 _ ?_
    show Steps p.tables e below (T2.setTop (mkF m 10 #[.val (.ref a1), .val (.int p2)] [(.ref w_bytes_a1), (.int (w_length_a1 + p2))])) _
    refine X2.arraylength hx (by rw [e2]; exact Aro3.1) (State.isArrayOf_alike hZ.alike Aro3.2.1) (g := (mkF m 10 #[.val (.ref a1), .val (.int p2)] [(.ref w_bytes_a1), (.int (w_length_a1 + p2))])) rfl rfl (hb hby d4_10) _ ?_
    rw [len_of So3 No3]
    show Steps p.tables e below (T2.setTop (mkF m 11 #[.val (.ref a1), .val (.int p2)] [(.int n_w_bytes_a1), (.int (w_length_a1 + p2))])) _
    refine XS.icmpNo X2.here hx rfl (hb hby d4_11) rfl (tlt hc0).2.2.2 ?_
    show Steps p.tables e below (T2.setTop (mkF m 14 #[.val (.ref a1), .val (.int p2)] [])) _
    refine XS.aloadN X2.here hx rfl (hb hby d4_14) rfl rfl ?_
    show Steps p.tables e below (T2.setTop (mkF m 15 #[.val (.ref a1), .val (.int p2)] [(.ref a1)])) _
    refine XS.aloadN X2.here hx rfl (hb hby d4_15) rfl rfl ?_
    show Steps p.tables e below (T2.setTop (mkF m 16 #[.val (.ref a1), .val (.int p2)] [(.ref a1), (.ref a1)])) _
    refine st4 _ ?_
    show Steps p.tables e below (T4.setTop (mkF m 19 #[.val (.ref a1), .val (.int p2)] [(.ref w_bytes_a1), (.ref a1)])) _
    refine XS.aloadN X4.here hx rfl (hb hby d4_19) rfl rfl ?_
    show Steps p.tables e below (T4.setTop (mkF m 20 #[.val (.ref a1), .val (.int p2)] [(.ref a1), (.ref w_bytes_a1), (.ref a1)])) _
    refine st5 _ ?_
    show Steps p.tables e below (T5.setTop (mkF m 23 #[.val (.ref a1), .val (.int p2)] [(.ref w_bytes_a1), (.ref w_bytes_a1), (.ref a1)])) _
    refine X5.arraylength hx (by rw [e5]; exact Aro6.1) (State.isArrayOf_alike hZ.alike Aro6.2.1) (g := (mkF m 23 #[.val (.ref a1), .val (.int p2)] [(.ref w_bytes_a1), (.ref w_bytes_a1), (.ref a1)])) rfl rfl (hb hby d4_23) _ ?_
    rw [len_of So6 No6]
    show Steps p.tables e below (T5.setTop (mkF m 24 #[.val (.ref a1), .val (.int p2)] [(.int n_w_bytes_a1), (.ref w_bytes_a1), (.ref a1)])) _
    refine XS.iconst X5.here hx rfl (hb hby d4_24) ?_
    show Steps p.tables e below (T5.setTop (mkF m 25 #[.val (.ref a1), .val (.int p2)] [(.int (2 : Int32)), (.int n_w_bytes_a1), (.ref w_bytes_a1), (.ref a1)])) _
    refine XS.imul X5.here hx rfl (hb hby d4_25) rfl ?_
    show Steps p.tables e below (T5.setTop (mkF m 26 #[.val (.ref a1), .val (.int p2)] [(.int (n_w_bytes_a1 * (2 : Int32))), (.ref w_bytes_a1), (.ref a1)])) _
    refine XS.aloadN X5.here hx rfl (hb hby d4_26) rfl rfl ?_
    show Steps p.tables e below (T5.setTop (mkF m 27 #[.val (.ref a1), .val (.int p2)] [(.ref a1), (.int (n_w_bytes_a1 * (2 : Int32))), (.ref w_bytes_a1), (.ref a1)])) _
    refine st7 _ ?_
    show Steps p.tables e below (T7.setTop (mkF m 30 #[.val (.ref a1), .val (.int p2)] [(.int w_length_a1), (.int (n_w_bytes_a1 * (2 : Int32))), (.ref w_bytes_a1), (.ref a1)])) _
    refine XS.iloadN X7.here hx rfl (hb hby d4_30) rfl ?_
    show Steps p.tables e below (T7.setTop (mkF m 31 #[.val (.ref a1), .val (.int p2)] [(.int p2), (.int w_length_a1), (.int (n_w_bytes_a1 * (2 : Int32))), (.ref w_bytes_a1), (.ref a1)])) _
    refine XS.iadd X7.here hx rfl (hb hby d4_31) rfl ?_
    show Steps p.tables e below (T7.setTop (mkF m 32 #[.val (.ref a1), .val (.int p2)] [(.int (w_length_a1 + p2)), (.int (n_w_bytes_a1 * (2 : Int32))), (.ref w_bytes_a1), (.ref a1)])) _
    refine st8 _ ?_
    show Steps p.tables e below (T8.setTop (mkF m 35 #[.val (.ref a1), .val (.int p2)] [(.int (n_w_bytes_a1 * (2 : Int32))), (.ref w_bytes_a1), (.ref a1)])) _
    refine st10 _ ?_
    show Steps p.tables e below (T10.setTop (mkF m 38 #[.val (.ref a1), .val (.int p2)] [(.ref b10_1), (.ref a1)])) _
    refine st19 _ ?_
    show Steps p.tables e below (T19.setTop (mkF m 41 #[.val (.ref a1), .val (.int p2)] [])) _
    exact X19.returnOut hx Bd.returns (hb hby d4_41) hr
  · show Q_roomL Z a1 p2 w_length_a1 w_bytes_a1 k_w_bytes_a1 n_w_bytes_a1 vs_w_bytes_a1 h0 n0 _ T19.heap _
    rw [e19]
    exact ⟨b10_1, k10_2, rfl, N27, g_b10_1, sz_b10_1, K26, f20, f21, f23, f24, f25⟩
def Q_roomR (Z : State) (a1 : Addr) (p2 : Int32) (w_length_a1 : Int32) (w_bytes_a1 : Addr) (k_w_bytes_a1 : ClassId) (n_w_bytes_a1 : Int32) (vs_w_bytes_a1 : List Value) (h0 : Heap) (n0 : Nat) (v : Option Value) (h : Heap) (L : List Loc) : Prop := ∃ (o1 : Addr), ∃ (ko1 : ClassId), v = none ∧ Fr n0 L ∧ n0 ≤ o1 ∧ h0.size ≤ o1 ∧ Keep h0 h [a1] ∧ Fld Z h a1 "com/example/herald/herald/bytecode/Bytes" "length" "I" (.int w_length_a1) ∧ Fld Z h a1 "com/example/herald/herald/bytecode/Bytes" "bytes" "[B" (.ref o1) ∧ Exa Z h a1 "com/example/herald/herald/bytecode/Bytes" ∧ Exa Z h o1 "[B" ∧ Arv Z h o1 ko1 .byte (w_length_a1 + p2) vs_w_bytes_a1 (.int (0 : Int32))
set_option maxRecDepth 65536 in
set_option maxHeartbeats 40000000 in
theorem rm_roomR (l : Launch) (Z : State) (a0 : Array Value) (hw : ∀ d ∈ tables_1, d.before a0 Z = true) (ws : List Jvm.Cond) (a1 : Addr) (p2 : Int32) (w_length_a1 : Int32) (w_bytes_a1 : Addr) (k_w_bytes_a1 : ClassId) (n_w_bytes_a1 : Int32) (vs_w_bytes_a1 : List Value) (h0 : Heap) (n0 : Nat) (Z0 : n0 ≤ h0.size) (F_length_a1 : Fld Z h0 a1 "com/example/herald/herald/bytecode/Bytes" "length" "I" (.int w_length_a1)) (F_bytes_a1 : Fld Z h0 a1 "com/example/herald/herald/bytecode/Bytes" "bytes" "[B" (.ref w_bytes_a1)) (V_w_bytes_a1 : Arv Z h0 w_bytes_a1 k_w_bytes_a1 .byte n_w_bytes_a1 vs_w_bytes_a1 (.int (0 : Int32))) (E_a1 : Exa Z h0 a1 "com/example/herald/herald/bytecode/Bytes") (g_a1 : n0 ≤ a1) (ne_w_bytes_a1_a1 : w_bytes_a1 ≠ a1) (hp0 : (n_w_bytes_a1 * (2 : Int32)) < (w_length_a1 + p2)) (hp1 : ¬ ((w_length_a1 + p2) < (0 : Int32))) (hp2 : (w_length_a1 + p2).toNatClampNeg ≤ 14) (hp3 : ¬ ((w_length_a1 + p2) < n_w_bytes_a1)) (hp4 : ¬ (n_w_bytes_a1 < (0 : Int32))) (hp5 : (0 : Int32).toNatClampNeg + n_w_bytes_a1.toNatClampNeg ≤ n_w_bytes_a1.toNatClampNeg) (hp6 : (0 : Int32).toNatClampNeg + n_w_bytes_a1.toNatClampNeg ≤ (w_length_a1 + p2).toNatClampNeg) (hp7 : (0 : Int32).toNatClampNeg + n_w_bytes_a1.toNatClampNeg ≤ (List.replicate 16 (Value.int (0 : Int32))).length) (hp8 : own_Z vs_w_bytes_a1 n_w_bytes_a1) (hp9 : n_w_bytes_a1.toNatClampNeg ≤ 16) (hp10 : ¬ ((w_length_a1 + p2) = n_w_bytes_a1)) (hc0 : n_w_bytes_a1 < (w_length_a1 + p2)) :
    MetFree l (⟨"com/example/herald/herald/bytecode/Bytes", "room", "(I)V"⟩ : MethodName) (head1 (Jvm.Cond.code (⟨"com/example/herald/herald/bytecode/Bytes", "room", "(I)V"⟩ : MethodName) prog_1_method_11_code 2 none :: ws) ({ frames := 2, cells := 1, slots := 14, locals := 33 } : Room)) (fun a U => a = #[(.ref a1), (.int p2)] ∧ Z.Warmed39 U.vm ∧ U.heap = h0) (fun _ _ _ _ _ => True) (fun _ U o U' => ∃ v L, o = .returned v ∧ Q_roomR Z a1 p2 w_length_a1 w_bytes_a1 k_w_bytes_a1 n_w_bytes_a1 vs_w_bytes_a1 h0 n0 v U'.heap L ∧ FrameEnd U o U' L ({ frames := 2, cells := 1, slots := 14, locals := 33 } : Room).cells ({ frames := 2, cells := 1, slots := 14, locals := 33 } : Room).slots) := by
  refine MetFree.of_bodySF (plainFor_of_name pn_com_example_herald_herald_bytecode_Bytes) hisR ?_
  intro p e s m args below meth c s₁ Bd hml0 hP hK
  obtain ⟨rfl, hZ, hh⟩ := hP
  have hx := Bd.exec
  have hby := Bd.bytes
  have hml : c.maxLocals = 2 := hml0
  have hown : s.vm.findClass "com/example/herald/herald/bytecode/Bytes" = some m.cls := findClass_of_methodNamed Bd.named
  have hnm := (name_of_methodNamed Bd.named Bd.method).1
  have X0 : Stand p l e ({ frames := 2, cells := 1, slots := 14, locals := 33 } : Room) s m #[(.ref a1), (.int p2)] below meth c s₁ [] 0 0 := Stand.of_body Bd
  have e0 : s₁.heap = h0 := by rw [← hh, Bd.state]; rfl
  have N0 := Fr.nil n0
  have pre0 : ∀ t, Steps p.tables e below (s₁.setTop (mkF m 0 #[.val (.ref a1), .val (.int p2)] [])) t → Steps p.tables e below (s₁.setTop (entryFrame m #[(.ref a1), (.int p2)] 2)) t := fun t k => castTop (ef_4_RI m a1 p2) k
  obtain ⟨T1, X1, e1, st1⟩ := getF X0 hx hZ hown (host := "") (Or.inl (hw _ (List.mem_of_getElem? (i := 21) rfl))) Via.refl e0 F_length_a1 (g := (mkF m 1 #[.val (.ref a1), .val (.int p2)] [(.ref a1)])) rfl rfl (hb hby d4_1)
  obtain ⟨T2, X2, e2, st2⟩ := getF X1 hx hZ hown (host := "") (Or.inl (hw _ (List.mem_of_getElem? (i := 10) rfl))) Via.refl e1 F_bytes_a1 (g := (mkF m 7 #[.val (.ref a1), .val (.int p2)] [(.ref a1), (.int (w_length_a1 + p2))])) rfl rfl (hb hby d4_7)
  obtain ⟨clo3, Aro3, -, So3, No3, -, -⟩ := id V_w_bytes_a1
  obtain ⟨T4, X4, e4, st4⟩ := getF X2 hx hZ hown (host := "") (Or.inl (hw _ (List.mem_of_getElem? (i := 10) rfl))) Via.refl e2 F_bytes_a1 (g := (mkF m 16 #[.val (.ref a1), .val (.int p2)] [(.ref a1), (.ref a1)])) rfl rfl (hb hby d4_16)
  obtain ⟨T5, X5, e5, st5⟩ := getF X4 hx hZ hown (host := "") (Or.inl (hw _ (List.mem_of_getElem? (i := 10) rfl))) Via.refl e4 F_bytes_a1 (g := (mkF m 20 #[.val (.ref a1), .val (.int p2)] [(.ref a1), (.ref w_bytes_a1), (.ref a1)])) rfl rfl (hb hby d4_20)
  obtain ⟨clo6, Aro6, -, So6, No6, -, -⟩ := id V_w_bytes_a1
  obtain ⟨T7, X7, e7, st7⟩ := getF X5 hx hZ hown (host := "") (Or.inl (hw _ (List.mem_of_getElem? (i := 21) rfl))) Via.refl e5 F_length_a1 (g := (mkF m 27 #[.val (.ref a1), .val (.int p2)] [(.ref a1), (.int (n_w_bytes_a1 * (2 : Int32))), (.ref w_bytes_a1), (.ref a1)])) rfl rfl (hb hby d4_27)
  obtain ⟨_, _, ⟨T8, L8, k8, n8⟩, -, X8, ⟨Lc8, hQ8, l8, y8, z8⟩, st8⟩ := Jvm.LawKit.callS X7 hx (y := (⟨"java/lang/Math", "max", "(II)I"⟩ : MethodName)) hown (mvT hZ (hw _ (List.mem_of_getElem? (i := 23) rfl))) (mvT hZ (hw _ (List.mem_of_getElem? (i := 24) rfl))) (mvT hZ (hw _ (List.mem_of_getElem? (i := 25) rfl))) (mvT hZ (hw _ (List.mem_of_getElem? (i := 26) rfl))) (by decide) (backOf (W := 2) (rm_maxR l Z a0 hw [] (n_w_bytes_a1 * (2 : Int32)) (w_length_a1 + p2) h0 n0 Z0 hp0) hZ (hw _ (List.mem_of_getElem? (i := 26) rfl)) (hw _ (List.mem_of_getElem? (i := 25) rfl)) (by decide) (by decide)) (g := (mkF m 32 #[.val (.ref a1), .val (.int p2)] [(.int (w_length_a1 + p2)), (.int (n_w_bytes_a1 * (2 : Int32))), (.ref w_bytes_a1), (.ref a1)])) rfl (by rw [hml]; rfl) (argsL := [(.int (n_w_bytes_a1 * (2 : Int32))), (.int (w_length_a1 + p2))]) (rest := [(.ref w_bytes_a1), (.ref a1)]) (lenOf pd_0 rfl) rfl (by show 2 * 0 + _ ≤ _; exact Nat.le_of_eq rfl) (hb hby d4_32) (fun _ _ => ⟨rfl, e7, (by decide : 0 + 0 ≤ _), (by decide : 0 + 0 ≤ _)⟩)
  dsimp only [Pt.U, Pt.locs, Pt.cells, Pt.slots] at X8 l8 y8 z8 st8 hQ8
  subst l8 y8 z8
  obtain ⟨rfl, Nq8, e8⟩ := hQ8
  have N9 := Fr.app N0 Nq8
  obtain ⟨_, _, ⟨T10, L10, k10, n10⟩, -, X10, ⟨Lc10, hQ10, l10, y10, z10⟩, st10⟩ := Jvm.LawKit.callS X8 hx (y := (⟨"java/util/Arrays", "copyOf", "([BI)[B"⟩ : MethodName)) hown (mvT hZ (hw _ (List.mem_of_getElem? (i := 27) rfl))) (mvT hZ (hw _ (List.mem_of_getElem? (i := 28) rfl))) (mvT hZ (hw _ (List.mem_of_getElem? (i := 29) rfl))) (mvT hZ (hw _ (List.mem_of_getElem? (i := 30) rfl))) (by decide) (backOf (W := 1) (rm_copyG l Z a0 hw [] w_bytes_a1 (w_length_a1 + p2) k_w_bytes_a1 n_w_bytes_a1 vs_w_bytes_a1 h0 n0 Z0 V_w_bytes_a1 hp1 hp2 hp3 hp4 hp5 hp6 hp7 hp8 hp9 hp10) hZ (hw _ (List.mem_of_getElem? (i := 30) rfl)) (hw _ (List.mem_of_getElem? (i := 29) rfl)) (by decide) (by decide)) (g := (mkF m 35 #[.val (.ref a1), .val (.int p2)] [(.int (w_length_a1 + p2)), (.ref w_bytes_a1), (.ref a1)])) rfl (by rw [hml]; rfl) (argsL := [(.ref w_bytes_a1), (.int (w_length_a1 + p2))]) (rest := [(.ref a1)]) (lenOf pd_1 rfl) rfl (by show 2 * 0 + _ ≤ _; exact Nat.le_of_eq rfl) (hb hby d4_35) (fun _ _ => ⟨rfl, e8, (by decide : 0 + 1 ≤ _), (by decide : 0 + 14 ≤ _)⟩)
  dsimp only [Pt.U, Pt.locs, Pt.cells, Pt.slots] at X10 l10 y10 z10 st10 hQ10
  subst l10 y10 z10
  obtain ⟨b10_1, k10_2, rfl, Nq10, g_b10_1, szq_b10_1, Kc10, fq10_0, fq10_1⟩ := hQ10
  have sz_b10_1 : h0.size ≤ b10_1 := Nat.le_trans (Keep.refl h0 [a1]).1 szq_b10_1
  have ne_a1_b10_1 : a1 ≠ b10_1 := Nat.ne_of_lt (Nat.lt_of_lt_of_le F_length_a1.lt szq_b10_1)
  have ne_w_bytes_a1_b10_1 : w_bytes_a1 ≠ b10_1 := Nat.ne_of_lt (Nat.lt_of_lt_of_le V_w_bytes_a1.lt szq_b10_1)
  have f12 : Fld Z T10.heap a1 "com/example/herald/herald/bytecode/Bytes" "length" "I" (.int w_length_a1) := F_length_a1.keep Kc10 nin0
  have f13 : Fld Z T10.heap a1 "com/example/herald/herald/bytecode/Bytes" "bytes" "[B" (.ref w_bytes_a1) := F_bytes_a1.keep Kc10 nin0
  have f14 : Arv Z T10.heap w_bytes_a1 k_w_bytes_a1 .byte n_w_bytes_a1 vs_w_bytes_a1 (.int (0 : Int32)) := V_w_bytes_a1.keep Kc10 nin0
  have f15 : Exa Z T10.heap a1 "com/example/herald/herald/bytecode/Bytes" := E_a1.keep Kc10
  have f16 : Arv Z T10.heap b10_1 k10_2 .byte (w_length_a1 + p2) vs_w_bytes_a1 (.int (0 : Int32)) := fq10_1
  have K17 : Keep h0 T10.heap [a1] := (Keep.refl h0 [a1]).trans Kc10 all0
  have Zs18 : n0 ≤ T10.heap.size := Nat.le_trans Z0 Kc10.1
  have N11 := Fr.app N9 Nq10
  obtain ⟨T19, h19, X19, e19, W19, st19⟩ := putF X10 hx hZ hown (host := "") (Or.inl (hw _ (List.mem_of_getElem? (i := 10) rfl))) Via.refl rfl f13 f15 (Or.inl (hw _ (List.mem_of_getElem? (i := 11) rfl))) (hw _ (List.mem_of_getElem? (i := 1) rfl)) (ty := (.array .byte)) (by decide) rfl rfl (g := (mkF m 38 #[.val (.ref a1), .val (.int p2)] [(.ref b10_1), (.ref a1)])) rfl rfl (hb hby d4_38)
  have f20 : Fld Z h19 a1 "com/example/herald/herald/bytecode/Bytes" "length" "I" (.int w_length_a1) := f12.other W19 (Or.inr (slot_ne (Or.inl (hw _ (List.mem_of_getElem? (i := 22) rfl))) (Or.inl (hw _ (List.mem_of_getElem? (i := 11) rfl))) (by decide) (t := .int) (t' := (.array .byte)) (by decide) (by decide)))
  have f21 : Fld Z h19 a1 "com/example/herald/herald/bytecode/Bytes" "bytes" "[B" (.ref b10_1) := f13.same W19
  have f22 : Arv Z h19 w_bytes_a1 k_w_bytes_a1 .byte n_w_bytes_a1 vs_w_bytes_a1 (.int (0 : Int32)) := f14.other W19 ne_w_bytes_a1_a1
  have f23 : Exa Z h19 a1 "com/example/herald/herald/bytecode/Bytes" := f15.wr W19
  have f24 : Exa Z h19 b10_1 "[B" := fq10_0.wr W19
  have f25 : Arv Z h19 b10_1 k10_2 .byte (w_length_a1 + p2) vs_w_bytes_a1 (.int (0 : Int32)) := f16.other W19 (Ne.symm ne_a1_b10_1)
  have K26 : Keep h0 h19 [a1] := K17.wr W19 (Or.inl (List.mem_of_getElem? (i := 0) rfl))
  have N27 := Fr.snoc X19 N11 g_a1
  have Zs28 : n0 ≤ h19.size := Nat.le_trans Zs18 (Keep.of_wr W19).1
  obtain ⟨fs, hr, hrun, hended, hW, hsame⟩ := X19.leave (v := none) (fun _ => rfl) Bd.notSynchronized
  refine ⟨_, _, pre0 _ ?_, hrun, hended, _, _, rfl, ?_, ⟨_, rfl⟩, hW, hsame.mono (by decide) (by decide)⟩
  · show Steps p.tables e below (s₁.setTop (mkF m 0 #[.val (.ref a1), .val (.int p2)] [])) _
    refine XS.aloadN X0.here hx rfl (hb hby d4_0) rfl rfl ?_
    show Steps p.tables e below (s₁.setTop (mkF m 1 #[.val (.ref a1), .val (.int p2)] [(.ref a1)])) _
    refine st1 _ ?_
    show Steps p.tables e below (T1.setTop (mkF m 4 #[.val (.ref a1), .val (.int p2)] [(.int w_length_a1)])) _
    refine XS.iloadN X1.here hx rfl (hb hby d4_4) rfl ?_
    show Steps p.tables e below (T1.setTop (mkF m 5 #[.val (.ref a1), .val (.int p2)] [(.int p2), (.int w_length_a1)])) _
    refine XS.iadd X1.here hx rfl (hb hby d4_5) rfl ?_
    show Steps p.tables e below (T1.setTop (mkF m 6 #[.val (.ref a1), .val (.int p2)] [(.int (w_length_a1 + p2))])) _
    refine XS.aloadN X1.here hx rfl (hb hby d4_6) rfl rfl ?_
    show Steps p.tables e below (T1.setTop (mkF m 7 #[.val (.ref a1), .val (.int p2)] [(.ref a1), (.int (w_length_a1 + p2))])) _
    refine st2 _ ?_
    show Steps p.tables e below (T2.setTop (mkF m 10 #[.val (.ref a1), .val (.int p2)] [(.ref w_bytes_a1), (.int (w_length_a1 + p2))])) _
    refine X2.arraylength hx (by rw [e2]; exact Aro3.1) (State.isArrayOf_alike hZ.alike Aro3.2.1) (g := (mkF m 10 #[.val (.ref a1), .val (.int p2)] [(.ref w_bytes_a1), (.int (w_length_a1 + p2))])) rfl rfl (hb hby d4_10) _ ?_
    rw [len_of So3 No3]
    show Steps p.tables e below (T2.setTop (mkF m 11 #[.val (.ref a1), .val (.int p2)] [(.int n_w_bytes_a1), (.int (w_length_a1 + p2))])) _
    refine XS.icmpNo X2.here hx rfl (hb hby d4_11) rfl (tlt hc0).2.2.2 ?_
    show Steps p.tables e below (T2.setTop (mkF m 14 #[.val (.ref a1), .val (.int p2)] [])) _
    refine XS.aloadN X2.here hx rfl (hb hby d4_14) rfl rfl ?_
    show Steps p.tables e below (T2.setTop (mkF m 15 #[.val (.ref a1), .val (.int p2)] [(.ref a1)])) _
    refine XS.aloadN X2.here hx rfl (hb hby d4_15) rfl rfl ?_
    show Steps p.tables e below (T2.setTop (mkF m 16 #[.val (.ref a1), .val (.int p2)] [(.ref a1), (.ref a1)])) _
    refine st4 _ ?_
    show Steps p.tables e below (T4.setTop (mkF m 19 #[.val (.ref a1), .val (.int p2)] [(.ref w_bytes_a1), (.ref a1)])) _
    refine XS.aloadN X4.here hx rfl (hb hby d4_19) rfl rfl ?_
    show Steps p.tables e below (T4.setTop (mkF m 20 #[.val (.ref a1), .val (.int p2)] [(.ref a1), (.ref w_bytes_a1), (.ref a1)])) _
    refine st5 _ ?_
    show Steps p.tables e below (T5.setTop (mkF m 23 #[.val (.ref a1), .val (.int p2)] [(.ref w_bytes_a1), (.ref w_bytes_a1), (.ref a1)])) _
    refine X5.arraylength hx (by rw [e5]; exact Aro6.1) (State.isArrayOf_alike hZ.alike Aro6.2.1) (g := (mkF m 23 #[.val (.ref a1), .val (.int p2)] [(.ref w_bytes_a1), (.ref w_bytes_a1), (.ref a1)])) rfl rfl (hb hby d4_23) _ ?_
    rw [len_of So6 No6]
    show Steps p.tables e below (T5.setTop (mkF m 24 #[.val (.ref a1), .val (.int p2)] [(.int n_w_bytes_a1), (.ref w_bytes_a1), (.ref a1)])) _
    refine XS.iconst X5.here hx rfl (hb hby d4_24) ?_
    show Steps p.tables e below (T5.setTop (mkF m 25 #[.val (.ref a1), .val (.int p2)] [(.int (2 : Int32)), (.int n_w_bytes_a1), (.ref w_bytes_a1), (.ref a1)])) _
    refine XS.imul X5.here hx rfl (hb hby d4_25) rfl ?_
    show Steps p.tables e below (T5.setTop (mkF m 26 #[.val (.ref a1), .val (.int p2)] [(.int (n_w_bytes_a1 * (2 : Int32))), (.ref w_bytes_a1), (.ref a1)])) _
    refine XS.aloadN X5.here hx rfl (hb hby d4_26) rfl rfl ?_
    show Steps p.tables e below (T5.setTop (mkF m 27 #[.val (.ref a1), .val (.int p2)] [(.ref a1), (.int (n_w_bytes_a1 * (2 : Int32))), (.ref w_bytes_a1), (.ref a1)])) _
    refine st7 _ ?_
    show Steps p.tables e below (T7.setTop (mkF m 30 #[.val (.ref a1), .val (.int p2)] [(.int w_length_a1), (.int (n_w_bytes_a1 * (2 : Int32))), (.ref w_bytes_a1), (.ref a1)])) _
    refine XS.iloadN X7.here hx rfl (hb hby d4_30) rfl ?_
    show Steps p.tables e below (T7.setTop (mkF m 31 #[.val (.ref a1), .val (.int p2)] [(.int p2), (.int w_length_a1), (.int (n_w_bytes_a1 * (2 : Int32))), (.ref w_bytes_a1), (.ref a1)])) _
    refine XS.iadd X7.here hx rfl (hb hby d4_31) rfl ?_
    show Steps p.tables e below (T7.setTop (mkF m 32 #[.val (.ref a1), .val (.int p2)] [(.int (w_length_a1 + p2)), (.int (n_w_bytes_a1 * (2 : Int32))), (.ref w_bytes_a1), (.ref a1)])) _
    refine st8 _ ?_
    show Steps p.tables e below (T8.setTop (mkF m 35 #[.val (.ref a1), .val (.int p2)] [(.int (w_length_a1 + p2)), (.ref w_bytes_a1), (.ref a1)])) _
    refine st10 _ ?_
    show Steps p.tables e below (T10.setTop (mkF m 38 #[.val (.ref a1), .val (.int p2)] [(.ref b10_1), (.ref a1)])) _
    refine st19 _ ?_
    show Steps p.tables e below (T19.setTop (mkF m 41 #[.val (.ref a1), .val (.int p2)] [])) _
    exact X19.returnOut hx Bd.returns (hb hby d4_41) hr
  · show Q_roomR Z a1 p2 w_length_a1 w_bytes_a1 k_w_bytes_a1 n_w_bytes_a1 vs_w_bytes_a1 h0 n0 _ T19.heap _
    rw [e19]
    exact ⟨b10_1, k10_2, rfl, N27, g_b10_1, sz_b10_1, K26, f20, f21, f23, f24, f25⟩
theorem pd_2 : parseMethodDescriptor "(I)V" = some ⟨[.int], none⟩ := by decide +kernel
theorem d3_0 : decode prog_1_method_5_code 0 = .ok (.aload_n 0, 1) := by decide +kernel
theorem d3_1 : decode prog_1_method_5_code 1 = .ok (.iconst 4, 1) := by decide +kernel
theorem d3_2 : decode prog_1_method_5_code 2 = .ok (.invokevirtual 17, 3) := by decide +kernel
theorem d3_5 : decode prog_1_method_5_code 5 = .ok (.aload_n 0, 1) := by decide +kernel
theorem d3_6 : decode prog_1_method_5_code 6 = .ok (.getfield 7, 3) := by decide +kernel
theorem d3_9 : decode prog_1_method_5_code 9 = .ok (.aload_n 0, 1) := by decide +kernel
theorem d3_10 : decode prog_1_method_5_code 10 = .ok (.getfield 13, 3) := by decide +kernel
theorem d3_13 : decode prog_1_method_5_code 13 = .ok (.iload_n 1, 1) := by decide +kernel
theorem d3_14 : decode prog_1_method_5_code 14 = .ok (.bipush 24, 2) := by decide +kernel
theorem d3_16 : decode prog_1_method_5_code 16 = .ok (.iushr, 1) := by decide +kernel
theorem d3_17 : decode prog_1_method_5_code 17 = .ok (.i2b, 1) := by decide +kernel
theorem d3_18 : decode prog_1_method_5_code 18 = .ok (.bastore, 1) := by decide +kernel
theorem d3_19 : decode prog_1_method_5_code 19 = .ok (.aload_n 0, 1) := by decide +kernel
theorem d3_20 : decode prog_1_method_5_code 20 = .ok (.getfield 7, 3) := by decide +kernel
theorem d3_23 : decode prog_1_method_5_code 23 = .ok (.aload_n 0, 1) := by decide +kernel
theorem d3_24 : decode prog_1_method_5_code 24 = .ok (.getfield 13, 3) := by decide +kernel
theorem d3_27 : decode prog_1_method_5_code 27 = .ok (.iconst 1, 1) := by decide +kernel
theorem d3_28 : decode prog_1_method_5_code 28 = .ok (.iadd, 1) := by decide +kernel
theorem d3_29 : decode prog_1_method_5_code 29 = .ok (.iload_n 1, 1) := by decide +kernel
theorem d3_30 : decode prog_1_method_5_code 30 = .ok (.bipush 16, 2) := by decide +kernel
theorem d3_32 : decode prog_1_method_5_code 32 = .ok (.iushr, 1) := by decide +kernel
theorem d3_33 : decode prog_1_method_5_code 33 = .ok (.i2b, 1) := by decide +kernel
theorem d3_34 : decode prog_1_method_5_code 34 = .ok (.bastore, 1) := by decide +kernel
theorem d3_35 : decode prog_1_method_5_code 35 = .ok (.aload_n 0, 1) := by decide +kernel
theorem d3_36 : decode prog_1_method_5_code 36 = .ok (.getfield 7, 3) := by decide +kernel
theorem d3_39 : decode prog_1_method_5_code 39 = .ok (.aload_n 0, 1) := by decide +kernel
theorem d3_40 : decode prog_1_method_5_code 40 = .ok (.getfield 13, 3) := by decide +kernel
theorem d3_43 : decode prog_1_method_5_code 43 = .ok (.iconst 2, 1) := by decide +kernel
theorem d3_44 : decode prog_1_method_5_code 44 = .ok (.iadd, 1) := by decide +kernel
theorem d3_45 : decode prog_1_method_5_code 45 = .ok (.iload_n 1, 1) := by decide +kernel
theorem d3_46 : decode prog_1_method_5_code 46 = .ok (.bipush 8, 2) := by decide +kernel
theorem d3_48 : decode prog_1_method_5_code 48 = .ok (.iushr, 1) := by decide +kernel
theorem d3_49 : decode prog_1_method_5_code 49 = .ok (.i2b, 1) := by decide +kernel
theorem d3_50 : decode prog_1_method_5_code 50 = .ok (.bastore, 1) := by decide +kernel
theorem d3_51 : decode prog_1_method_5_code 51 = .ok (.aload_n 0, 1) := by decide +kernel
theorem d3_52 : decode prog_1_method_5_code 52 = .ok (.getfield 7, 3) := by decide +kernel
theorem d3_55 : decode prog_1_method_5_code 55 = .ok (.aload_n 0, 1) := by decide +kernel
theorem d3_56 : decode prog_1_method_5_code 56 = .ok (.getfield 13, 3) := by decide +kernel
theorem d3_59 : decode prog_1_method_5_code 59 = .ok (.iconst 3, 1) := by decide +kernel
theorem d3_60 : decode prog_1_method_5_code 60 = .ok (.iadd, 1) := by decide +kernel
theorem d3_61 : decode prog_1_method_5_code 61 = .ok (.iload_n 1, 1) := by decide +kernel
theorem d3_62 : decode prog_1_method_5_code 62 = .ok (.i2b, 1) := by decide +kernel
theorem d3_63 : decode prog_1_method_5_code 63 = .ok (.bastore, 1) := by decide +kernel
theorem d3_64 : decode prog_1_method_5_code 64 = .ok (.aload_n 0, 1) := by decide +kernel
theorem d3_65 : decode prog_1_method_5_code 65 = .ok (.dup, 1) := by decide +kernel
theorem d3_66 : decode prog_1_method_5_code 66 = .ok (.getfield 13, 3) := by decide +kernel
theorem d3_69 : decode prog_1_method_5_code 69 = .ok (.iconst 4, 1) := by decide +kernel
theorem d3_70 : decode prog_1_method_5_code 70 = .ok (.iadd, 1) := by decide +kernel
theorem d3_71 : decode prog_1_method_5_code 71 = .ok (.putfield 13, 3) := by decide +kernel
theorem d3_74 : decode prog_1_method_5_code 74 = .ok (.return_, 1) := by decide +kernel
theorem ef_3_RI (m : MethodId) (x0 : Addr) (x1 : Int32) : entryFrame m #[(.ref x0), (.int x1)] 2 = mkF m 0 #[.val (.ref x0), .val (.int x1)] [] := by first | (simp [entryFrame, mkF, argsToLocals, Value.category]; done) | rfl
def Q_u4L (Z : State) (a1 : Addr) (p2 : Int32) (w_bytes_a1 : Addr) (k_w_bytes_a1 : ClassId) (n_w_bytes_a1 : Int32) (vs_w_bytes_a1 : List Value) (w_length_a1 : Int32) (h0 : Heap) (n0 : Nat) (v : Option Value) (h : Heap) (L : List Loc) : Prop := ∃ (o1 : Addr), ∃ (ko1 : ClassId), v = none ∧ Fr n0 L ∧ n0 ≤ o1 ∧ h0.size ≤ o1 ∧ Keep h0 h [a1] ∧ Fld Z h a1 "com/example/herald/herald/bytecode/Bytes" "bytes" "[B" (.ref o1) ∧ Fld Z h a1 "com/example/herald/herald/bytecode/Bytes" "length" "I" (.int (w_length_a1 + (4 : Int32))) ∧ Exa Z h a1 "com/example/herald/herald/bytecode/Bytes" ∧ Exa Z h o1 "[B" ∧ Arv Z h o1 ko1 .byte (n_w_bytes_a1 * (2 : Int32)) ((((vs_w_bytes_a1.set w_length_a1.toNatClampNeg (.int ((((p2.toUInt32 >>> ((24 : Int32) &&& 31).toUInt32).toInt32).toInt8.toInt32).toInt8.toInt32))).set (w_length_a1 + (1 : Int32)).toNatClampNeg (.int ((((p2.toUInt32 >>> ((16 : Int32) &&& 31).toUInt32).toInt32).toInt8.toInt32).toInt8.toInt32))).set (w_length_a1 + (2 : Int32)).toNatClampNeg (.int ((((p2.toUInt32 >>> ((8 : Int32) &&& 31).toUInt32).toInt32).toInt8.toInt32).toInt8.toInt32))).set (w_length_a1 + (3 : Int32)).toNatClampNeg (.int ((p2.toInt8.toInt32).toInt8.toInt32))) (.int (0 : Int32))
set_option maxRecDepth 65536 in
set_option maxHeartbeats 40000000 in
theorem rm_u4L (l : Launch) (Z : State) (a0 : Array Value) (hw : ∀ d ∈ tables_1, d.before a0 Z = true) (ws : List Jvm.Cond) (a1 : Addr) (p2 : Int32) (w_bytes_a1 : Addr) (k_w_bytes_a1 : ClassId) (n_w_bytes_a1 : Int32) (vs_w_bytes_a1 : List Value) (w_length_a1 : Int32) (h0 : Heap) (n0 : Nat) (Z0 : n0 ≤ h0.size) (F_bytes_a1 : Fld Z h0 a1 "com/example/herald/herald/bytecode/Bytes" "bytes" "[B" (.ref w_bytes_a1)) (E_w_bytes_a1 : Exa Z h0 w_bytes_a1 "[B") (V_w_bytes_a1 : Arv Z h0 w_bytes_a1 k_w_bytes_a1 .byte n_w_bytes_a1 vs_w_bytes_a1 (.int (0 : Int32))) (F_length_a1 : Fld Z h0 a1 "com/example/herald/herald/bytecode/Bytes" "length" "I" (.int w_length_a1)) (E_a1 : Exa Z h0 a1 "com/example/herald/herald/bytecode/Bytes") (g_a1 : n0 ≤ a1) (g_w_bytes_a1 : n0 ≤ w_bytes_a1) (hp0 : ¬ ((n_w_bytes_a1 * (2 : Int32)) < (w_length_a1 + (4 : Int32)))) (hp1 : ¬ ((n_w_bytes_a1 * (2 : Int32)) < (0 : Int32))) (hp2 : (n_w_bytes_a1 * (2 : Int32)).toNatClampNeg ≤ 14) (hp3 : ¬ ((n_w_bytes_a1 * (2 : Int32)) < n_w_bytes_a1)) (hp4 : ¬ (n_w_bytes_a1 < (0 : Int32))) (hp5 : (0 : Int32).toNatClampNeg + n_w_bytes_a1.toNatClampNeg ≤ n_w_bytes_a1.toNatClampNeg) (hp6 : (0 : Int32).toNatClampNeg + n_w_bytes_a1.toNatClampNeg ≤ (n_w_bytes_a1 * (2 : Int32)).toNatClampNeg) (hp7 : (0 : Int32).toNatClampNeg + n_w_bytes_a1.toNatClampNeg ≤ (List.replicate 16 (Value.int (0 : Int32))).length) (hp8 : own_Z vs_w_bytes_a1 n_w_bytes_a1) (hp9 : n_w_bytes_a1.toNatClampNeg ≤ 16) (hp10 : ¬ ((n_w_bytes_a1 * (2 : Int32)) = n_w_bytes_a1)) (hp11 : n_w_bytes_a1 < (w_length_a1 + (4 : Int32))) (hp12 : ¬ (w_length_a1 < (0 : Int32))) (hp13 : w_length_a1 < (n_w_bytes_a1 * (2 : Int32))) (hp14 : w_length_a1.toNatClampNeg < vs_w_bytes_a1.length) (hp15 : ¬ ((w_length_a1 + (1 : Int32)) < (0 : Int32))) (hp16 : (w_length_a1 + (1 : Int32)) < (n_w_bytes_a1 * (2 : Int32))) (hp17 : (w_length_a1 + (1 : Int32)).toNatClampNeg < (vs_w_bytes_a1.set w_length_a1.toNatClampNeg (.int ((((p2.toUInt32 >>> ((24 : Int32) &&& 31).toUInt32).toInt32).toInt8.toInt32).toInt8.toInt32))).length) (hp18 : ¬ ((w_length_a1 + (2 : Int32)) < (0 : Int32))) (hp19 : (w_length_a1 + (2 : Int32)) < (n_w_bytes_a1 * (2 : Int32))) (hp20 : (w_length_a1 + (2 : Int32)).toNatClampNeg < ((vs_w_bytes_a1.set w_length_a1.toNatClampNeg (.int ((((p2.toUInt32 >>> ((24 : Int32) &&& 31).toUInt32).toInt32).toInt8.toInt32).toInt8.toInt32))).set (w_length_a1 + (1 : Int32)).toNatClampNeg (.int ((((p2.toUInt32 >>> ((16 : Int32) &&& 31).toUInt32).toInt32).toInt8.toInt32).toInt8.toInt32))).length) (hp21 : ¬ ((w_length_a1 + (3 : Int32)) < (0 : Int32))) (hp22 : (w_length_a1 + (3 : Int32)) < (n_w_bytes_a1 * (2 : Int32))) (hp23 : (w_length_a1 + (3 : Int32)).toNatClampNeg < (((vs_w_bytes_a1.set w_length_a1.toNatClampNeg (.int ((((p2.toUInt32 >>> ((24 : Int32) &&& 31).toUInt32).toInt32).toInt8.toInt32).toInt8.toInt32))).set (w_length_a1 + (1 : Int32)).toNatClampNeg (.int ((((p2.toUInt32 >>> ((16 : Int32) &&& 31).toUInt32).toInt32).toInt8.toInt32).toInt8.toInt32))).set (w_length_a1 + (2 : Int32)).toNatClampNeg (.int ((((p2.toUInt32 >>> ((8 : Int32) &&& 31).toUInt32).toInt32).toInt8.toInt32).toInt8.toInt32))).length) :
    MetFree l (⟨"com/example/herald/herald/bytecode/Bytes", "u4", "(I)V"⟩ : MethodName) (head1 (Jvm.Cond.code (⟨"com/example/herald/herald/bytecode/Bytes", "u4", "(I)V"⟩ : MethodName) prog_1_method_5_code 2 none :: ws) ({ frames := 3, cells := 1, slots := 14, locals := 46 } : Room)) (fun a U => a = #[(.ref a1), (.int p2)] ∧ Z.Warmed39 U.vm ∧ U.heap = h0) (fun _ _ _ _ _ => True) (fun _ U o U' => ∃ v L, o = .returned v ∧ Q_u4L Z a1 p2 w_bytes_a1 k_w_bytes_a1 n_w_bytes_a1 vs_w_bytes_a1 w_length_a1 h0 n0 v U'.heap L ∧ FrameEnd U o U' L ({ frames := 3, cells := 1, slots := 14, locals := 46 } : Room).cells ({ frames := 3, cells := 1, slots := 14, locals := 46 } : Room).slots) := by
  refine MetFree.of_bodySF (plainFor_of_name pn_com_example_herald_herald_bytecode_Bytes) hisR ?_
  intro p e s m args below meth c s₁ Bd hml0 hP hK
  obtain ⟨rfl, hZ, hh⟩ := hP
  have hx := Bd.exec
  have hby := Bd.bytes
  have hml : c.maxLocals = 2 := hml0
  have hown : s.vm.findClass "com/example/herald/herald/bytecode/Bytes" = some m.cls := findClass_of_methodNamed Bd.named
  have hnm := (name_of_methodNamed Bd.named Bd.method).1
  have X0 : Stand p l e ({ frames := 3, cells := 1, slots := 14, locals := 46 } : Room) s m #[(.ref a1), (.int p2)] below meth c s₁ [] 0 0 := Stand.of_body Bd
  have e0 : s₁.heap = h0 := by rw [← hh, Bd.state]; rfl
  have N0 := Fr.nil n0
  have pre0 : ∀ t, Steps p.tables e below (s₁.setTop (mkF m 0 #[.val (.ref a1), .val (.int p2)] [])) t → Steps p.tables e below (s₁.setTop (entryFrame m #[(.ref a1), (.int p2)] 2)) t := fun t k => castTop (ef_3_RI m a1 p2) k
  obtain ⟨cq1, q1, q1'⟩ := E_a1.cell
  obtain ⟨_, _, ⟨T1, L1, k1, n1⟩, -, X1, ⟨Lc1, hQ1, l1, y1, z1⟩, st1⟩ := X0.privateBack hx (y := (⟨"com/example/herald/herald/bytecode/Bytes", "room", "(I)V"⟩ : MethodName)) hown (mvT hZ (hw _ (List.mem_of_getElem? (i := 17) rfl))) (mvT hZ (hw _ (List.mem_of_getElem? (i := 18) rfl))) (own_sel hZ (hw _ (List.mem_of_getElem? (i := 19) rfl)) (hw _ (List.mem_of_getElem? (i := 18) rfl)) (hw _ (List.mem_of_getElem? (i := 1) rfl)) (by decide)) (Cond.privateMethod_at (mvP hZ (hw _ (List.mem_of_getElem? (i := 19) rfl)) (args := #[]))) (mvT hZ (hw _ (List.mem_of_getElem? (i := 20) rfl))) (by decide) (backOf (W := 0) (rm_roomL l Z a0 hw [] a1 (4 : Int32) w_length_a1 w_bytes_a1 k_w_bytes_a1 n_w_bytes_a1 vs_w_bytes_a1 h0 n0 Z0 F_length_a1 F_bytes_a1 V_w_bytes_a1 E_a1 g_a1 (ne_exa E_w_bytes_a1 E_a1 (by decide)) hp0 hp1 hp2 hp3 hp4 hp5 hp6 hp7 hp8 hp9 hp10 hp11) hZ (hw _ (List.mem_of_getElem? (i := 20) rfl)) (hw _ (List.mem_of_getElem? (i := 2) rfl)) (by decide) (by decide)) (g := (mkF m 2 #[.val (.ref a1), .val (.int p2)] [(.int (4 : Int32)), (.ref a1)])) rfl (by rw [hml]; rfl) (Steps.refl _) (a := a1) (by rw [e0]; exact q1) q1' (argsL := [(.int (4 : Int32))]) (rest := []) (lenOf pd_2 rfl) rfl (by show 2 * 0 + _ ≤ _; exact Nat.le_of_eq rfl) (hb hby d3_2) (fun _ _ => ⟨rfl, e0, (by decide : 0 + 1 ≤ _), (by decide : 0 + 14 ≤ _)⟩)
  dsimp only [Pt.U, Pt.locs, Pt.cells, Pt.slots] at X1 l1 y1 z1 st1 hQ1
  subst l1 y1 z1
  obtain ⟨b1_1, k1_2, rfl, Nq1, g_b1_1, szq_b1_1, Kc1, fq1_0, fq1_1, fq1_2, fq1_3, fq1_4⟩ := hQ1
  have sz_b1_1 : h0.size ≤ b1_1 := Nat.le_trans (Keep.refl h0 [a1]).1 szq_b1_1
  have ne_a1_b1_1 : a1 ≠ b1_1 := Nat.ne_of_lt (Nat.lt_of_lt_of_le F_bytes_a1.lt szq_b1_1)
  have ne_w_bytes_a1_b1_1 : w_bytes_a1 ≠ b1_1 := Nat.ne_of_lt (Nat.lt_of_lt_of_le E_w_bytes_a1.lt szq_b1_1)
  have ne_w_bytes_a1_a1 : w_bytes_a1 ≠ a1 := ne_exa E_w_bytes_a1 E_a1 (by decide)
  have f3 : Exa Z T1.heap w_bytes_a1 "[B" := E_w_bytes_a1.keep Kc1
  have f4 : Arv Z T1.heap w_bytes_a1 k_w_bytes_a1 .byte n_w_bytes_a1 vs_w_bytes_a1 (.int (0 : Int32)) := V_w_bytes_a1.keep Kc1 (ninS ne_w_bytes_a1_a1 nin0)
  have f5 : Fld Z T1.heap a1 "com/example/herald/herald/bytecode/Bytes" "length" "I" (.int w_length_a1) := fq1_0
  have f6 : Fld Z T1.heap a1 "com/example/herald/herald/bytecode/Bytes" "bytes" "[B" (.ref b1_1) := fq1_1
  have f7 : Arv Z T1.heap b1_1 k1_2 .byte (n_w_bytes_a1 * (2 : Int32)) vs_w_bytes_a1 (.int (0 : Int32)) := fq1_4
  have K8 : Keep h0 T1.heap [a1] := (Keep.refl h0 [a1]).trans Kc1 (allS (Or.inl (List.mem_of_getElem? (i := 0) rfl)) all0)
  have Zs9 : n0 ≤ T1.heap.size := Nat.le_trans Z0 Kc1.1
  have N2 := Fr.app N0 Nq1
  obtain ⟨T10, X10, e10, st10⟩ := getF X1 hx hZ hown (host := "") (Or.inl (hw _ (List.mem_of_getElem? (i := 10) rfl))) Via.refl rfl f6 (g := (mkF m 6 #[.val (.ref a1), .val (.int p2)] [(.ref a1)])) rfl rfl (hb hby d3_6)
  obtain ⟨T11, X11, e11, st11⟩ := getF X10 hx hZ hown (host := "") (Or.inl (hw _ (List.mem_of_getElem? (i := 21) rfl))) Via.refl e10 f5 (g := (mkF m 10 #[.val (.ref a1), .val (.int p2)] [(.ref a1), (.ref b1_1)])) rfl rfl (hb hby d3_10)
  obtain ⟨clo12, Aro12, qo12, So12, No12, Ho12, Go12⟩ := id f7
  have hino12 : ¬ (w_length_a1 < 0 ∨ clo12.slots.size ≤ (w_length_a1).toNatClampNeg) := inb_of So12 ⟨hp12, hp13⟩
  obtain ⟨T13, h13, X13, e13, W13, st13⟩ := stB X11 hx hZ e11 Aro12 (j := w_length_a1) hino12 (g := (mkF m 18 #[.val (.ref a1), .val (.int p2)] [(.int (((p2.toUInt32 >>> ((24 : Int32) &&& 31).toUInt32).toInt32).toInt8.toInt32)), (.int w_length_a1), (.ref b1_1)])) rfl rfl (hb hby d3_18)
  have f14 : Arv Z h13 b1_1 k1_2 .byte (n_w_bytes_a1 * (2 : Int32)) (vs_w_bytes_a1.set w_length_a1.toNatClampNeg (.int ((((p2.toUInt32 >>> ((24 : Int32) &&& 31).toUInt32).toInt32).toInt8.toInt32).toInt8.toInt32))) (.int (0 : Int32)) := Arv.set Aro12 qo12 So12 No12 Ho12 Go12 (fits_nar_byte _) W13 _ rfl hp14
  have f15 : Fld Z h13 a1 "com/example/herald/herald/bytecode/Bytes" "bytes" "[B" (.ref b1_1) := f6.other W13 (Or.inl ne_a1_b1_1)
  have f16 : Exa Z h13 w_bytes_a1 "[B" := f3.wr W13
  have f17 : Arv Z h13 w_bytes_a1 k_w_bytes_a1 .byte n_w_bytes_a1 vs_w_bytes_a1 (.int (0 : Int32)) := f4.other W13 ne_w_bytes_a1_b1_1
  have f18 : Fld Z h13 a1 "com/example/herald/herald/bytecode/Bytes" "length" "I" (.int w_length_a1) := f5.other W13 (Or.inl ne_a1_b1_1)
  have f19 : Exa Z h13 a1 "com/example/herald/herald/bytecode/Bytes" := fq1_2.wr W13
  have f20 : Exa Z h13 b1_1 "[B" := fq1_3.wr W13
  have K21 : Keep h0 h13 [a1] := K8.wr W13 (Or.inr sz_b1_1)
  have N22 := Fr.snoc X13 N2 g_b1_1
  have Zs23 : n0 ≤ h13.size := Nat.le_trans Zs9 (Keep.of_wr W13).1
  obtain ⟨T24, X24, e24, st24⟩ := getF X13 hx hZ hown (host := "") (Or.inl (hw _ (List.mem_of_getElem? (i := 10) rfl))) Via.refl e13 f15 (g := (mkF m 20 #[.val (.ref a1), .val (.int p2)] [(.ref a1)])) rfl rfl (hb hby d3_20)
  obtain ⟨T25, X25, e25, st25⟩ := getF X24 hx hZ hown (host := "") (Or.inl (hw _ (List.mem_of_getElem? (i := 21) rfl))) Via.refl e24 f18 (g := (mkF m 24 #[.val (.ref a1), .val (.int p2)] [(.ref a1), (.ref b1_1)])) rfl rfl (hb hby d3_24)
  obtain ⟨clo26, Aro26, qo26, So26, No26, Ho26, Go26⟩ := id f14
  have hino26 : ¬ ((w_length_a1 + (1 : Int32)) < 0 ∨ clo26.slots.size ≤ ((w_length_a1 + (1 : Int32))).toNatClampNeg) := inb_of So26 ⟨hp15, hp16⟩
  obtain ⟨T27, h27, X27, e27, W27, st27⟩ := stB X25 hx hZ e25 Aro26 (j := (w_length_a1 + (1 : Int32))) hino26 (g := (mkF m 34 #[.val (.ref a1), .val (.int p2)] [(.int (((p2.toUInt32 >>> ((16 : Int32) &&& 31).toUInt32).toInt32).toInt8.toInt32)), (.int (w_length_a1 + (1 : Int32))), (.ref b1_1)])) rfl rfl (hb hby d3_34)
  have f28 : Arv Z h27 b1_1 k1_2 .byte (n_w_bytes_a1 * (2 : Int32)) ((vs_w_bytes_a1.set w_length_a1.toNatClampNeg (.int ((((p2.toUInt32 >>> ((24 : Int32) &&& 31).toUInt32).toInt32).toInt8.toInt32).toInt8.toInt32))).set (w_length_a1 + (1 : Int32)).toNatClampNeg (.int ((((p2.toUInt32 >>> ((16 : Int32) &&& 31).toUInt32).toInt32).toInt8.toInt32).toInt8.toInt32))) (.int (0 : Int32)) := Arv.set Aro26 qo26 So26 No26 Ho26 Go26 (fits_nar_byte _) W27 _ rfl hp17
  have f29 : Fld Z h27 a1 "com/example/herald/herald/bytecode/Bytes" "bytes" "[B" (.ref b1_1) := f15.other W27 (Or.inl ne_a1_b1_1)
  have f30 : Exa Z h27 w_bytes_a1 "[B" := f16.wr W27
  have f31 : Arv Z h27 w_bytes_a1 k_w_bytes_a1 .byte n_w_bytes_a1 vs_w_bytes_a1 (.int (0 : Int32)) := f17.other W27 ne_w_bytes_a1_b1_1
  have f32 : Fld Z h27 a1 "com/example/herald/herald/bytecode/Bytes" "length" "I" (.int w_length_a1) := f18.other W27 (Or.inl ne_a1_b1_1)
  have f33 : Exa Z h27 a1 "com/example/herald/herald/bytecode/Bytes" := f19.wr W27
  have f34 : Exa Z h27 b1_1 "[B" := f20.wr W27
  have K35 : Keep h0 h27 [a1] := K21.wr W27 (Or.inr sz_b1_1)
  have N36 := Fr.snoc X27 N22 g_b1_1
  have Zs37 : n0 ≤ h27.size := Nat.le_trans Zs23 (Keep.of_wr W27).1
  obtain ⟨T38, X38, e38, st38⟩ := getF X27 hx hZ hown (host := "") (Or.inl (hw _ (List.mem_of_getElem? (i := 10) rfl))) Via.refl e27 f29 (g := (mkF m 36 #[.val (.ref a1), .val (.int p2)] [(.ref a1)])) rfl rfl (hb hby d3_36)
  obtain ⟨T39, X39, e39, st39⟩ := getF X38 hx hZ hown (host := "") (Or.inl (hw _ (List.mem_of_getElem? (i := 21) rfl))) Via.refl e38 f32 (g := (mkF m 40 #[.val (.ref a1), .val (.int p2)] [(.ref a1), (.ref b1_1)])) rfl rfl (hb hby d3_40)
  obtain ⟨clo40, Aro40, qo40, So40, No40, Ho40, Go40⟩ := id f28
  have hino40 : ¬ ((w_length_a1 + (2 : Int32)) < 0 ∨ clo40.slots.size ≤ ((w_length_a1 + (2 : Int32))).toNatClampNeg) := inb_of So40 ⟨hp18, hp19⟩
  obtain ⟨T41, h41, X41, e41, W41, st41⟩ := stB X39 hx hZ e39 Aro40 (j := (w_length_a1 + (2 : Int32))) hino40 (g := (mkF m 50 #[.val (.ref a1), .val (.int p2)] [(.int (((p2.toUInt32 >>> ((8 : Int32) &&& 31).toUInt32).toInt32).toInt8.toInt32)), (.int (w_length_a1 + (2 : Int32))), (.ref b1_1)])) rfl rfl (hb hby d3_50)
  have f42 : Arv Z h41 b1_1 k1_2 .byte (n_w_bytes_a1 * (2 : Int32)) (((vs_w_bytes_a1.set w_length_a1.toNatClampNeg (.int ((((p2.toUInt32 >>> ((24 : Int32) &&& 31).toUInt32).toInt32).toInt8.toInt32).toInt8.toInt32))).set (w_length_a1 + (1 : Int32)).toNatClampNeg (.int ((((p2.toUInt32 >>> ((16 : Int32) &&& 31).toUInt32).toInt32).toInt8.toInt32).toInt8.toInt32))).set (w_length_a1 + (2 : Int32)).toNatClampNeg (.int ((((p2.toUInt32 >>> ((8 : Int32) &&& 31).toUInt32).toInt32).toInt8.toInt32).toInt8.toInt32))) (.int (0 : Int32)) := Arv.set Aro40 qo40 So40 No40 Ho40 Go40 (fits_nar_byte _) W41 _ rfl hp20
  have f43 : Fld Z h41 a1 "com/example/herald/herald/bytecode/Bytes" "bytes" "[B" (.ref b1_1) := f29.other W41 (Or.inl ne_a1_b1_1)
  have f44 : Exa Z h41 w_bytes_a1 "[B" := f30.wr W41
  have f45 : Arv Z h41 w_bytes_a1 k_w_bytes_a1 .byte n_w_bytes_a1 vs_w_bytes_a1 (.int (0 : Int32)) := f31.other W41 ne_w_bytes_a1_b1_1
  have f46 : Fld Z h41 a1 "com/example/herald/herald/bytecode/Bytes" "length" "I" (.int w_length_a1) := f32.other W41 (Or.inl ne_a1_b1_1)
  have f47 : Exa Z h41 a1 "com/example/herald/herald/bytecode/Bytes" := f33.wr W41
  have f48 : Exa Z h41 b1_1 "[B" := f34.wr W41
  have K49 : Keep h0 h41 [a1] := K35.wr W41 (Or.inr sz_b1_1)
  have N50 := Fr.snoc X41 N36 g_b1_1
  have Zs51 : n0 ≤ h41.size := Nat.le_trans Zs37 (Keep.of_wr W41).1
  obtain ⟨T52, X52, e52, st52⟩ := getF X41 hx hZ hown (host := "") (Or.inl (hw _ (List.mem_of_getElem? (i := 10) rfl))) Via.refl e41 f43 (g := (mkF m 52 #[.val (.ref a1), .val (.int p2)] [(.ref a1)])) rfl rfl (hb hby d3_52)
  obtain ⟨T53, X53, e53, st53⟩ := getF X52 hx hZ hown (host := "") (Or.inl (hw _ (List.mem_of_getElem? (i := 21) rfl))) Via.refl e52 f46 (g := (mkF m 56 #[.val (.ref a1), .val (.int p2)] [(.ref a1), (.ref b1_1)])) rfl rfl (hb hby d3_56)
  obtain ⟨clo54, Aro54, qo54, So54, No54, Ho54, Go54⟩ := id f42
  have hino54 : ¬ ((w_length_a1 + (3 : Int32)) < 0 ∨ clo54.slots.size ≤ ((w_length_a1 + (3 : Int32))).toNatClampNeg) := inb_of So54 ⟨hp21, hp22⟩
  obtain ⟨T55, h55, X55, e55, W55, st55⟩ := stB X53 hx hZ e53 Aro54 (j := (w_length_a1 + (3 : Int32))) hino54 (g := (mkF m 63 #[.val (.ref a1), .val (.int p2)] [(.int (p2.toInt8.toInt32)), (.int (w_length_a1 + (3 : Int32))), (.ref b1_1)])) rfl rfl (hb hby d3_63)
  have f56 : Arv Z h55 b1_1 k1_2 .byte (n_w_bytes_a1 * (2 : Int32)) ((((vs_w_bytes_a1.set w_length_a1.toNatClampNeg (.int ((((p2.toUInt32 >>> ((24 : Int32) &&& 31).toUInt32).toInt32).toInt8.toInt32).toInt8.toInt32))).set (w_length_a1 + (1 : Int32)).toNatClampNeg (.int ((((p2.toUInt32 >>> ((16 : Int32) &&& 31).toUInt32).toInt32).toInt8.toInt32).toInt8.toInt32))).set (w_length_a1 + (2 : Int32)).toNatClampNeg (.int ((((p2.toUInt32 >>> ((8 : Int32) &&& 31).toUInt32).toInt32).toInt8.toInt32).toInt8.toInt32))).set (w_length_a1 + (3 : Int32)).toNatClampNeg (.int ((p2.toInt8.toInt32).toInt8.toInt32))) (.int (0 : Int32)) := Arv.set Aro54 qo54 So54 No54 Ho54 Go54 (fits_nar_byte _) W55 _ rfl hp23
  have f57 : Fld Z h55 a1 "com/example/herald/herald/bytecode/Bytes" "bytes" "[B" (.ref b1_1) := f43.other W55 (Or.inl ne_a1_b1_1)
  have f58 : Exa Z h55 w_bytes_a1 "[B" := f44.wr W55
  have f59 : Arv Z h55 w_bytes_a1 k_w_bytes_a1 .byte n_w_bytes_a1 vs_w_bytes_a1 (.int (0 : Int32)) := f45.other W55 ne_w_bytes_a1_b1_1
  have f60 : Fld Z h55 a1 "com/example/herald/herald/bytecode/Bytes" "length" "I" (.int w_length_a1) := f46.other W55 (Or.inl ne_a1_b1_1)
  have f61 : Exa Z h55 a1 "com/example/herald/herald/bytecode/Bytes" := f47.wr W55
  have f62 : Exa Z h55 b1_1 "[B" := f48.wr W55
  have K63 : Keep h0 h55 [a1] := K49.wr W55 (Or.inr sz_b1_1)
  have N64 := Fr.snoc X55 N50 g_b1_1
  have Zs65 : n0 ≤ h55.size := Nat.le_trans Zs51 (Keep.of_wr W55).1
  obtain ⟨T66, X66, e66, st66⟩ := getF X55 hx hZ hown (host := "") (Or.inl (hw _ (List.mem_of_getElem? (i := 21) rfl))) Via.refl e55 f60 (g := (mkF m 66 #[.val (.ref a1), .val (.int p2)] [(.ref a1), (.ref a1)])) rfl rfl (hb hby d3_66)
  obtain ⟨T67, h67, X67, e67, W67, st67⟩ := putF X66 hx hZ hown (host := "") (Or.inl (hw _ (List.mem_of_getElem? (i := 21) rfl))) Via.refl e66 f60 f61 (Or.inl (hw _ (List.mem_of_getElem? (i := 22) rfl))) (hw _ (List.mem_of_getElem? (i := 1) rfl)) (ty := .int) (by decide) rfl rfl (g := (mkF m 71 #[.val (.ref a1), .val (.int p2)] [(.int (w_length_a1 + (4 : Int32))), (.ref a1)])) rfl rfl (hb hby d3_71)
  have f68 : Fld Z h67 a1 "com/example/herald/herald/bytecode/Bytes" "bytes" "[B" (.ref b1_1) := f57.other W67 (Or.inr (slot_ne (Or.inl (hw _ (List.mem_of_getElem? (i := 11) rfl))) (Or.inl (hw _ (List.mem_of_getElem? (i := 22) rfl))) (by decide) (t := (.array .byte)) (t' := .int) (by decide) (by decide)))
  have f69 : Exa Z h67 w_bytes_a1 "[B" := f58.wr W67
  have f70 : Arv Z h67 w_bytes_a1 k_w_bytes_a1 .byte n_w_bytes_a1 vs_w_bytes_a1 (.int (0 : Int32)) := f59.other W67 ne_w_bytes_a1_a1
  have f71 : Fld Z h67 a1 "com/example/herald/herald/bytecode/Bytes" "length" "I" (.int (w_length_a1 + (4 : Int32))) := f60.same W67
  have f72 : Exa Z h67 a1 "com/example/herald/herald/bytecode/Bytes" := f61.wr W67
  have f73 : Exa Z h67 b1_1 "[B" := f62.wr W67
  have f74 : Arv Z h67 b1_1 k1_2 .byte (n_w_bytes_a1 * (2 : Int32)) ((((vs_w_bytes_a1.set w_length_a1.toNatClampNeg (.int ((((p2.toUInt32 >>> ((24 : Int32) &&& 31).toUInt32).toInt32).toInt8.toInt32).toInt8.toInt32))).set (w_length_a1 + (1 : Int32)).toNatClampNeg (.int ((((p2.toUInt32 >>> ((16 : Int32) &&& 31).toUInt32).toInt32).toInt8.toInt32).toInt8.toInt32))).set (w_length_a1 + (2 : Int32)).toNatClampNeg (.int ((((p2.toUInt32 >>> ((8 : Int32) &&& 31).toUInt32).toInt32).toInt8.toInt32).toInt8.toInt32))).set (w_length_a1 + (3 : Int32)).toNatClampNeg (.int ((p2.toInt8.toInt32).toInt8.toInt32))) (.int (0 : Int32)) := f56.other W67 (Ne.symm ne_a1_b1_1)
  have K75 : Keep h0 h67 [a1] := K63.wr W67 (Or.inl (List.mem_of_getElem? (i := 0) rfl))
  have N76 := Fr.snoc X67 N64 g_a1
  have Zs77 : n0 ≤ h67.size := Nat.le_trans Zs65 (Keep.of_wr W67).1
  obtain ⟨fs, hr, hrun, hended, hW, hsame⟩ := X67.leave (v := none) (fun _ => rfl) Bd.notSynchronized
  refine ⟨_, _, pre0 _ ?_, hrun, hended, _, _, rfl, ?_, ⟨_, rfl⟩, hW, hsame.mono (by decide) (by decide)⟩
  · show Steps p.tables e below (s₁.setTop (mkF m 0 #[.val (.ref a1), .val (.int p2)] [])) _
    refine XS.aloadN X0.here hx rfl (hb hby d3_0) rfl rfl ?_
    show Steps p.tables e below (s₁.setTop (mkF m 1 #[.val (.ref a1), .val (.int p2)] [(.ref a1)])) _
    refine XS.iconst X0.here hx rfl (hb hby d3_1) ?_
    show Steps p.tables e below (s₁.setTop (mkF m 2 #[.val (.ref a1), .val (.int p2)] [(.int (4 : Int32)), (.ref a1)])) _
    refine st1.trans ?_
    show Steps p.tables e below (T1.setTop (mkF m 5 #[.val (.ref a1), .val (.int p2)] [])) _
    refine XS.aloadN X1.here hx rfl (hb hby d3_5) rfl rfl ?_
    show Steps p.tables e below (T1.setTop (mkF m 6 #[.val (.ref a1), .val (.int p2)] [(.ref a1)])) _
    refine st10 _ ?_
    show Steps p.tables e below (T10.setTop (mkF m 9 #[.val (.ref a1), .val (.int p2)] [(.ref b1_1)])) _
    refine XS.aloadN X10.here hx rfl (hb hby d3_9) rfl rfl ?_
    show Steps p.tables e below (T10.setTop (mkF m 10 #[.val (.ref a1), .val (.int p2)] [(.ref a1), (.ref b1_1)])) _
    refine st11 _ ?_
    show Steps p.tables e below (T11.setTop (mkF m 13 #[.val (.ref a1), .val (.int p2)] [(.int w_length_a1), (.ref b1_1)])) _
    refine XS.iloadN X11.here hx rfl (hb hby d3_13) rfl ?_
    show Steps p.tables e below (T11.setTop (mkF m 14 #[.val (.ref a1), .val (.int p2)] [(.int p2), (.int w_length_a1), (.ref b1_1)])) _
    refine XS.bipush X11.here hx rfl (hb hby d3_14) ?_
    show Steps p.tables e below (T11.setTop (mkF m 16 #[.val (.ref a1), .val (.int p2)] [(.int (24 : Int32)), (.int p2), (.int w_length_a1), (.ref b1_1)])) _
    refine XS.iushr X11.here hx rfl (hb hby d3_16) rfl ?_
    show Steps p.tables e below (T11.setTop (mkF m 17 #[.val (.ref a1), .val (.int p2)] [(.int ((p2.toUInt32 >>> ((24 : Int32) &&& 31).toUInt32).toInt32)), (.int w_length_a1), (.ref b1_1)])) _
    refine XS.i2b X11.here hx rfl (hb hby d3_17) rfl ?_
    show Steps p.tables e below (T11.setTop (mkF m 18 #[.val (.ref a1), .val (.int p2)] [(.int (((p2.toUInt32 >>> ((24 : Int32) &&& 31).toUInt32).toInt32).toInt8.toInt32)), (.int w_length_a1), (.ref b1_1)])) _
    refine st13 _ ?_
    show Steps p.tables e below (T13.setTop (mkF m 19 #[.val (.ref a1), .val (.int p2)] [])) _
    refine XS.aloadN X13.here hx rfl (hb hby d3_19) rfl rfl ?_
    show Steps p.tables e below (T13.setTop (mkF m 20 #[.val (.ref a1), .val (.int p2)] [(.ref a1)])) _
    refine st24 _ ?_
    show Steps p.tables e below (T24.setTop (mkF m 23 #[.val (.ref a1), .val (.int p2)] [(.ref b1_1)])) _
    refine XS.aloadN X24.here hx rfl (hb hby d3_23) rfl rfl ?_
    show Steps p.tables e below (T24.setTop (mkF m 24 #[.val (.ref a1), .val (.int p2)] [(.ref a1), (.ref b1_1)])) _
    refine st25 _ ?_
    show Steps p.tables e below (T25.setTop (mkF m 27 #[.val (.ref a1), .val (.int p2)] [(.int w_length_a1), (.ref b1_1)])) _
    refine XS.iconst X25.here hx rfl (hb hby d3_27) ?_
    show Steps p.tables e below (T25.setTop (mkF m 28 #[.val (.ref a1), .val (.int p2)] [(.int (1 : Int32)), (.int w_length_a1), (.ref b1_1)])) _
    refine XS.iadd X25.here hx rfl (hb hby d3_28) rfl ?_
    show Steps p.tables e below (T25.setTop (mkF m 29 #[.val (.ref a1), .val (.int p2)] [(.int (w_length_a1 + (1 : Int32))), (.ref b1_1)])) _
    refine XS.iloadN X25.here hx rfl (hb hby d3_29) rfl ?_
    show Steps p.tables e below (T25.setTop (mkF m 30 #[.val (.ref a1), .val (.int p2)] [(.int p2), (.int (w_length_a1 + (1 : Int32))), (.ref b1_1)])) _
    refine XS.bipush X25.here hx rfl (hb hby d3_30) ?_
    show Steps p.tables e below (T25.setTop (mkF m 32 #[.val (.ref a1), .val (.int p2)] [(.int (16 : Int32)), (.int p2), (.int (w_length_a1 + (1 : Int32))), (.ref b1_1)])) _
    refine XS.iushr X25.here hx rfl (hb hby d3_32) rfl ?_
    show Steps p.tables e below (T25.setTop (mkF m 33 #[.val (.ref a1), .val (.int p2)] [(.int ((p2.toUInt32 >>> ((16 : Int32) &&& 31).toUInt32).toInt32)), (.int (w_length_a1 + (1 : Int32))), (.ref b1_1)])) _
    refine XS.i2b X25.here hx rfl (hb hby d3_33) rfl ?_
    show Steps p.tables e below (T25.setTop (mkF m 34 #[.val (.ref a1), .val (.int p2)] [(.int (((p2.toUInt32 >>> ((16 : Int32) &&& 31).toUInt32).toInt32).toInt8.toInt32)), (.int (w_length_a1 + (1 : Int32))), (.ref b1_1)])) _
    refine st27 _ ?_
    show Steps p.tables e below (T27.setTop (mkF m 35 #[.val (.ref a1), .val (.int p2)] [])) _
    refine XS.aloadN X27.here hx rfl (hb hby d3_35) rfl rfl ?_
    show Steps p.tables e below (T27.setTop (mkF m 36 #[.val (.ref a1), .val (.int p2)] [(.ref a1)])) _
    refine st38 _ ?_
    show Steps p.tables e below (T38.setTop (mkF m 39 #[.val (.ref a1), .val (.int p2)] [(.ref b1_1)])) _
    refine XS.aloadN X38.here hx rfl (hb hby d3_39) rfl rfl ?_
    show Steps p.tables e below (T38.setTop (mkF m 40 #[.val (.ref a1), .val (.int p2)] [(.ref a1), (.ref b1_1)])) _
    refine st39 _ ?_
    show Steps p.tables e below (T39.setTop (mkF m 43 #[.val (.ref a1), .val (.int p2)] [(.int w_length_a1), (.ref b1_1)])) _
    refine XS.iconst X39.here hx rfl (hb hby d3_43) ?_
    show Steps p.tables e below (T39.setTop (mkF m 44 #[.val (.ref a1), .val (.int p2)] [(.int (2 : Int32)), (.int w_length_a1), (.ref b1_1)])) _
    refine XS.iadd X39.here hx rfl (hb hby d3_44) rfl ?_
    show Steps p.tables e below (T39.setTop (mkF m 45 #[.val (.ref a1), .val (.int p2)] [(.int (w_length_a1 + (2 : Int32))), (.ref b1_1)])) _
    refine XS.iloadN X39.here hx rfl (hb hby d3_45) rfl ?_
    show Steps p.tables e below (T39.setTop (mkF m 46 #[.val (.ref a1), .val (.int p2)] [(.int p2), (.int (w_length_a1 + (2 : Int32))), (.ref b1_1)])) _
    refine XS.bipush X39.here hx rfl (hb hby d3_46) ?_
    show Steps p.tables e below (T39.setTop (mkF m 48 #[.val (.ref a1), .val (.int p2)] [(.int (8 : Int32)), (.int p2), (.int (w_length_a1 + (2 : Int32))), (.ref b1_1)])) _
    refine XS.iushr X39.here hx rfl (hb hby d3_48) rfl ?_
    show Steps p.tables e below (T39.setTop (mkF m 49 #[.val (.ref a1), .val (.int p2)] [(.int ((p2.toUInt32 >>> ((8 : Int32) &&& 31).toUInt32).toInt32)), (.int (w_length_a1 + (2 : Int32))), (.ref b1_1)])) _
    refine XS.i2b X39.here hx rfl (hb hby d3_49) rfl ?_
    show Steps p.tables e below (T39.setTop (mkF m 50 #[.val (.ref a1), .val (.int p2)] [(.int (((p2.toUInt32 >>> ((8 : Int32) &&& 31).toUInt32).toInt32).toInt8.toInt32)), (.int (w_length_a1 + (2 : Int32))), (.ref b1_1)])) _
    refine st41 _ ?_
    show Steps p.tables e below (T41.setTop (mkF m 51 #[.val (.ref a1), .val (.int p2)] [])) _
    refine XS.aloadN X41.here hx rfl (hb hby d3_51) rfl rfl ?_
    show Steps p.tables e below (T41.setTop (mkF m 52 #[.val (.ref a1), .val (.int p2)] [(.ref a1)])) _
    refine st52 _ ?_
    show Steps p.tables e below (T52.setTop (mkF m 55 #[.val (.ref a1), .val (.int p2)] [(.ref b1_1)])) _
    refine XS.aloadN X52.here hx rfl (hb hby d3_55) rfl rfl ?_
    show Steps p.tables e below (T52.setTop (mkF m 56 #[.val (.ref a1), .val (.int p2)] [(.ref a1), (.ref b1_1)])) _
    refine st53 _ ?_
    show Steps p.tables e below (T53.setTop (mkF m 59 #[.val (.ref a1), .val (.int p2)] [(.int w_length_a1), (.ref b1_1)])) _
    refine XS.iconst X53.here hx rfl (hb hby d3_59) ?_
    show Steps p.tables e below (T53.setTop (mkF m 60 #[.val (.ref a1), .val (.int p2)] [(.int (3 : Int32)), (.int w_length_a1), (.ref b1_1)])) _
    refine XS.iadd X53.here hx rfl (hb hby d3_60) rfl ?_
    show Steps p.tables e below (T53.setTop (mkF m 61 #[.val (.ref a1), .val (.int p2)] [(.int (w_length_a1 + (3 : Int32))), (.ref b1_1)])) _
    refine XS.iloadN X53.here hx rfl (hb hby d3_61) rfl ?_
    show Steps p.tables e below (T53.setTop (mkF m 62 #[.val (.ref a1), .val (.int p2)] [(.int p2), (.int (w_length_a1 + (3 : Int32))), (.ref b1_1)])) _
    refine XS.i2b X53.here hx rfl (hb hby d3_62) rfl ?_
    show Steps p.tables e below (T53.setTop (mkF m 63 #[.val (.ref a1), .val (.int p2)] [(.int (p2.toInt8.toInt32)), (.int (w_length_a1 + (3 : Int32))), (.ref b1_1)])) _
    refine st55 _ ?_
    show Steps p.tables e below (T55.setTop (mkF m 64 #[.val (.ref a1), .val (.int p2)] [])) _
    refine XS.aloadN X55.here hx rfl (hb hby d3_64) rfl rfl ?_
    show Steps p.tables e below (T55.setTop (mkF m 65 #[.val (.ref a1), .val (.int p2)] [(.ref a1)])) _
    refine XS.dup X55.here hx rfl (hb hby d3_65) rfl rfl ?_
    show Steps p.tables e below (T55.setTop (mkF m 66 #[.val (.ref a1), .val (.int p2)] [(.ref a1), (.ref a1)])) _
    refine st66 _ ?_
    show Steps p.tables e below (T66.setTop (mkF m 69 #[.val (.ref a1), .val (.int p2)] [(.int w_length_a1), (.ref a1)])) _
    refine XS.iconst X66.here hx rfl (hb hby d3_69) ?_
    show Steps p.tables e below (T66.setTop (mkF m 70 #[.val (.ref a1), .val (.int p2)] [(.int (4 : Int32)), (.int w_length_a1), (.ref a1)])) _
    refine XS.iadd X66.here hx rfl (hb hby d3_70) rfl ?_
    show Steps p.tables e below (T66.setTop (mkF m 71 #[.val (.ref a1), .val (.int p2)] [(.int (w_length_a1 + (4 : Int32))), (.ref a1)])) _
    refine st67 _ ?_
    show Steps p.tables e below (T67.setTop (mkF m 74 #[.val (.ref a1), .val (.int p2)] [])) _
    exact X67.returnOut hx Bd.returns (hb hby d3_74) hr
  · show Q_u4L Z a1 p2 w_bytes_a1 k_w_bytes_a1 n_w_bytes_a1 vs_w_bytes_a1 w_length_a1 h0 n0 _ T67.heap _
    rw [e67]
    exact ⟨b1_1, k1_2, rfl, N76, g_b1_1, sz_b1_1, K75, f68, f71, f72, f73, f74⟩
def Q_u4R (Z : State) (a1 : Addr) (p2 : Int32) (w_bytes_a1 : Addr) (k_w_bytes_a1 : ClassId) (n_w_bytes_a1 : Int32) (vs_w_bytes_a1 : List Value) (w_length_a1 : Int32) (h0 : Heap) (n0 : Nat) (v : Option Value) (h : Heap) (L : List Loc) : Prop := ∃ (o1 : Addr), ∃ (ko1 : ClassId), v = none ∧ Fr n0 L ∧ n0 ≤ o1 ∧ h0.size ≤ o1 ∧ Keep h0 h [a1] ∧ Fld Z h a1 "com/example/herald/herald/bytecode/Bytes" "bytes" "[B" (.ref o1) ∧ Fld Z h a1 "com/example/herald/herald/bytecode/Bytes" "length" "I" (.int (w_length_a1 + (4 : Int32))) ∧ Exa Z h a1 "com/example/herald/herald/bytecode/Bytes" ∧ Exa Z h o1 "[B" ∧ Arv Z h o1 ko1 .byte (w_length_a1 + (4 : Int32)) ((((vs_w_bytes_a1.set w_length_a1.toNatClampNeg (.int ((((p2.toUInt32 >>> ((24 : Int32) &&& 31).toUInt32).toInt32).toInt8.toInt32).toInt8.toInt32))).set (w_length_a1 + (1 : Int32)).toNatClampNeg (.int ((((p2.toUInt32 >>> ((16 : Int32) &&& 31).toUInt32).toInt32).toInt8.toInt32).toInt8.toInt32))).set (w_length_a1 + (2 : Int32)).toNatClampNeg (.int ((((p2.toUInt32 >>> ((8 : Int32) &&& 31).toUInt32).toInt32).toInt8.toInt32).toInt8.toInt32))).set (w_length_a1 + (3 : Int32)).toNatClampNeg (.int ((p2.toInt8.toInt32).toInt8.toInt32))) (.int (0 : Int32))
set_option maxRecDepth 65536 in
set_option maxHeartbeats 40000000 in
theorem rm_u4R (l : Launch) (Z : State) (a0 : Array Value) (hw : ∀ d ∈ tables_1, d.before a0 Z = true) (ws : List Jvm.Cond) (a1 : Addr) (p2 : Int32) (w_bytes_a1 : Addr) (k_w_bytes_a1 : ClassId) (n_w_bytes_a1 : Int32) (vs_w_bytes_a1 : List Value) (w_length_a1 : Int32) (h0 : Heap) (n0 : Nat) (Z0 : n0 ≤ h0.size) (F_bytes_a1 : Fld Z h0 a1 "com/example/herald/herald/bytecode/Bytes" "bytes" "[B" (.ref w_bytes_a1)) (E_w_bytes_a1 : Exa Z h0 w_bytes_a1 "[B") (V_w_bytes_a1 : Arv Z h0 w_bytes_a1 k_w_bytes_a1 .byte n_w_bytes_a1 vs_w_bytes_a1 (.int (0 : Int32))) (F_length_a1 : Fld Z h0 a1 "com/example/herald/herald/bytecode/Bytes" "length" "I" (.int w_length_a1)) (E_a1 : Exa Z h0 a1 "com/example/herald/herald/bytecode/Bytes") (g_a1 : n0 ≤ a1) (g_w_bytes_a1 : n0 ≤ w_bytes_a1) (hp0 : (n_w_bytes_a1 * (2 : Int32)) < (w_length_a1 + (4 : Int32))) (hp1 : ¬ ((w_length_a1 + (4 : Int32)) < (0 : Int32))) (hp2 : (w_length_a1 + (4 : Int32)).toNatClampNeg ≤ 14) (hp3 : ¬ ((w_length_a1 + (4 : Int32)) < n_w_bytes_a1)) (hp4 : ¬ (n_w_bytes_a1 < (0 : Int32))) (hp5 : (0 : Int32).toNatClampNeg + n_w_bytes_a1.toNatClampNeg ≤ n_w_bytes_a1.toNatClampNeg) (hp6 : (0 : Int32).toNatClampNeg + n_w_bytes_a1.toNatClampNeg ≤ (w_length_a1 + (4 : Int32)).toNatClampNeg) (hp7 : (0 : Int32).toNatClampNeg + n_w_bytes_a1.toNatClampNeg ≤ (List.replicate 16 (Value.int (0 : Int32))).length) (hp8 : own_Z vs_w_bytes_a1 n_w_bytes_a1) (hp9 : n_w_bytes_a1.toNatClampNeg ≤ 16) (hp10 : ¬ ((w_length_a1 + (4 : Int32)) = n_w_bytes_a1)) (hp11 : n_w_bytes_a1 < (w_length_a1 + (4 : Int32))) (hp12 : ¬ (w_length_a1 < (0 : Int32))) (hp13 : w_length_a1 < (w_length_a1 + (4 : Int32))) (hp14 : w_length_a1.toNatClampNeg < vs_w_bytes_a1.length) (hp15 : ¬ ((w_length_a1 + (1 : Int32)) < (0 : Int32))) (hp16 : (w_length_a1 + (1 : Int32)) < (w_length_a1 + (4 : Int32))) (hp17 : (w_length_a1 + (1 : Int32)).toNatClampNeg < (vs_w_bytes_a1.set w_length_a1.toNatClampNeg (.int ((((p2.toUInt32 >>> ((24 : Int32) &&& 31).toUInt32).toInt32).toInt8.toInt32).toInt8.toInt32))).length) (hp18 : ¬ ((w_length_a1 + (2 : Int32)) < (0 : Int32))) (hp19 : (w_length_a1 + (2 : Int32)) < (w_length_a1 + (4 : Int32))) (hp20 : (w_length_a1 + (2 : Int32)).toNatClampNeg < ((vs_w_bytes_a1.set w_length_a1.toNatClampNeg (.int ((((p2.toUInt32 >>> ((24 : Int32) &&& 31).toUInt32).toInt32).toInt8.toInt32).toInt8.toInt32))).set (w_length_a1 + (1 : Int32)).toNatClampNeg (.int ((((p2.toUInt32 >>> ((16 : Int32) &&& 31).toUInt32).toInt32).toInt8.toInt32).toInt8.toInt32))).length) (hp21 : ¬ ((w_length_a1 + (3 : Int32)) < (0 : Int32))) (hp22 : (w_length_a1 + (3 : Int32)) < (w_length_a1 + (4 : Int32))) (hp23 : (w_length_a1 + (3 : Int32)).toNatClampNeg < (((vs_w_bytes_a1.set w_length_a1.toNatClampNeg (.int ((((p2.toUInt32 >>> ((24 : Int32) &&& 31).toUInt32).toInt32).toInt8.toInt32).toInt8.toInt32))).set (w_length_a1 + (1 : Int32)).toNatClampNeg (.int ((((p2.toUInt32 >>> ((16 : Int32) &&& 31).toUInt32).toInt32).toInt8.toInt32).toInt8.toInt32))).set (w_length_a1 + (2 : Int32)).toNatClampNeg (.int ((((p2.toUInt32 >>> ((8 : Int32) &&& 31).toUInt32).toInt32).toInt8.toInt32).toInt8.toInt32))).length) :
    MetFree l (⟨"com/example/herald/herald/bytecode/Bytes", "u4", "(I)V"⟩ : MethodName) (head1 (Jvm.Cond.code (⟨"com/example/herald/herald/bytecode/Bytes", "u4", "(I)V"⟩ : MethodName) prog_1_method_5_code 2 none :: ws) ({ frames := 3, cells := 1, slots := 14, locals := 46 } : Room)) (fun a U => a = #[(.ref a1), (.int p2)] ∧ Z.Warmed39 U.vm ∧ U.heap = h0) (fun _ _ _ _ _ => True) (fun _ U o U' => ∃ v L, o = .returned v ∧ Q_u4R Z a1 p2 w_bytes_a1 k_w_bytes_a1 n_w_bytes_a1 vs_w_bytes_a1 w_length_a1 h0 n0 v U'.heap L ∧ FrameEnd U o U' L ({ frames := 3, cells := 1, slots := 14, locals := 46 } : Room).cells ({ frames := 3, cells := 1, slots := 14, locals := 46 } : Room).slots) := by
  refine MetFree.of_bodySF (plainFor_of_name pn_com_example_herald_herald_bytecode_Bytes) hisR ?_
  intro p e s m args below meth c s₁ Bd hml0 hP hK
  obtain ⟨rfl, hZ, hh⟩ := hP
  have hx := Bd.exec
  have hby := Bd.bytes
  have hml : c.maxLocals = 2 := hml0
  have hown : s.vm.findClass "com/example/herald/herald/bytecode/Bytes" = some m.cls := findClass_of_methodNamed Bd.named
  have hnm := (name_of_methodNamed Bd.named Bd.method).1
  have X0 : Stand p l e ({ frames := 3, cells := 1, slots := 14, locals := 46 } : Room) s m #[(.ref a1), (.int p2)] below meth c s₁ [] 0 0 := Stand.of_body Bd
  have e0 : s₁.heap = h0 := by rw [← hh, Bd.state]; rfl
  have N0 := Fr.nil n0
  have pre0 : ∀ t, Steps p.tables e below (s₁.setTop (mkF m 0 #[.val (.ref a1), .val (.int p2)] [])) t → Steps p.tables e below (s₁.setTop (entryFrame m #[(.ref a1), (.int p2)] 2)) t := fun t k => castTop (ef_3_RI m a1 p2) k
  obtain ⟨cq1, q1, q1'⟩ := E_a1.cell
  obtain ⟨_, _, ⟨T1, L1, k1, n1⟩, -, X1, ⟨Lc1, hQ1, l1, y1, z1⟩, st1⟩ := X0.privateBack hx (y := (⟨"com/example/herald/herald/bytecode/Bytes", "room", "(I)V"⟩ : MethodName)) hown (mvT hZ (hw _ (List.mem_of_getElem? (i := 17) rfl))) (mvT hZ (hw _ (List.mem_of_getElem? (i := 18) rfl))) (own_sel hZ (hw _ (List.mem_of_getElem? (i := 19) rfl)) (hw _ (List.mem_of_getElem? (i := 18) rfl)) (hw _ (List.mem_of_getElem? (i := 1) rfl)) (by decide)) (Cond.privateMethod_at (mvP hZ (hw _ (List.mem_of_getElem? (i := 19) rfl)) (args := #[]))) (mvT hZ (hw _ (List.mem_of_getElem? (i := 20) rfl))) (by decide) (backOf (W := 0) (rm_roomR l Z a0 hw [] a1 (4 : Int32) w_length_a1 w_bytes_a1 k_w_bytes_a1 n_w_bytes_a1 vs_w_bytes_a1 h0 n0 Z0 F_length_a1 F_bytes_a1 V_w_bytes_a1 E_a1 g_a1 (ne_exa E_w_bytes_a1 E_a1 (by decide)) hp0 hp1 hp2 hp3 hp4 hp5 hp6 hp7 hp8 hp9 hp10 hp11) hZ (hw _ (List.mem_of_getElem? (i := 20) rfl)) (hw _ (List.mem_of_getElem? (i := 2) rfl)) (by decide) (by decide)) (g := (mkF m 2 #[.val (.ref a1), .val (.int p2)] [(.int (4 : Int32)), (.ref a1)])) rfl (by rw [hml]; rfl) (Steps.refl _) (a := a1) (by rw [e0]; exact q1) q1' (argsL := [(.int (4 : Int32))]) (rest := []) (lenOf pd_2 rfl) rfl (by show 2 * 0 + _ ≤ _; exact Nat.le_of_eq rfl) (hb hby d3_2) (fun _ _ => ⟨rfl, e0, (by decide : 0 + 1 ≤ _), (by decide : 0 + 14 ≤ _)⟩)
  dsimp only [Pt.U, Pt.locs, Pt.cells, Pt.slots] at X1 l1 y1 z1 st1 hQ1
  subst l1 y1 z1
  obtain ⟨b1_1, k1_2, rfl, Nq1, g_b1_1, szq_b1_1, Kc1, fq1_0, fq1_1, fq1_2, fq1_3, fq1_4⟩ := hQ1
  have sz_b1_1 : h0.size ≤ b1_1 := Nat.le_trans (Keep.refl h0 [a1]).1 szq_b1_1
  have ne_a1_b1_1 : a1 ≠ b1_1 := Nat.ne_of_lt (Nat.lt_of_lt_of_le F_bytes_a1.lt szq_b1_1)
  have ne_w_bytes_a1_b1_1 : w_bytes_a1 ≠ b1_1 := Nat.ne_of_lt (Nat.lt_of_lt_of_le E_w_bytes_a1.lt szq_b1_1)
  have ne_w_bytes_a1_a1 : w_bytes_a1 ≠ a1 := ne_exa E_w_bytes_a1 E_a1 (by decide)
  have f3 : Exa Z T1.heap w_bytes_a1 "[B" := E_w_bytes_a1.keep Kc1
  have f4 : Arv Z T1.heap w_bytes_a1 k_w_bytes_a1 .byte n_w_bytes_a1 vs_w_bytes_a1 (.int (0 : Int32)) := V_w_bytes_a1.keep Kc1 (ninS ne_w_bytes_a1_a1 nin0)
  have f5 : Fld Z T1.heap a1 "com/example/herald/herald/bytecode/Bytes" "length" "I" (.int w_length_a1) := fq1_0
  have f6 : Fld Z T1.heap a1 "com/example/herald/herald/bytecode/Bytes" "bytes" "[B" (.ref b1_1) := fq1_1
  have f7 : Arv Z T1.heap b1_1 k1_2 .byte (w_length_a1 + (4 : Int32)) vs_w_bytes_a1 (.int (0 : Int32)) := fq1_4
  have K8 : Keep h0 T1.heap [a1] := (Keep.refl h0 [a1]).trans Kc1 (allS (Or.inl (List.mem_of_getElem? (i := 0) rfl)) all0)
  have Zs9 : n0 ≤ T1.heap.size := Nat.le_trans Z0 Kc1.1
  have N2 := Fr.app N0 Nq1
  obtain ⟨T10, X10, e10, st10⟩ := getF X1 hx hZ hown (host := "") (Or.inl (hw _ (List.mem_of_getElem? (i := 10) rfl))) Via.refl rfl f6 (g := (mkF m 6 #[.val (.ref a1), .val (.int p2)] [(.ref a1)])) rfl rfl (hb hby d3_6)
  obtain ⟨T11, X11, e11, st11⟩ := getF X10 hx hZ hown (host := "") (Or.inl (hw _ (List.mem_of_getElem? (i := 21) rfl))) Via.refl e10 f5 (g := (mkF m 10 #[.val (.ref a1), .val (.int p2)] [(.ref a1), (.ref b1_1)])) rfl rfl (hb hby d3_10)
  obtain ⟨clo12, Aro12, qo12, So12, No12, Ho12, Go12⟩ := id f7
  have hino12 : ¬ (w_length_a1 < 0 ∨ clo12.slots.size ≤ (w_length_a1).toNatClampNeg) := inb_of So12 ⟨hp12, hp13⟩
  obtain ⟨T13, h13, X13, e13, W13, st13⟩ := stB X11 hx hZ e11 Aro12 (j := w_length_a1) hino12 (g := (mkF m 18 #[.val (.ref a1), .val (.int p2)] [(.int (((p2.toUInt32 >>> ((24 : Int32) &&& 31).toUInt32).toInt32).toInt8.toInt32)), (.int w_length_a1), (.ref b1_1)])) rfl rfl (hb hby d3_18)
  have f14 : Arv Z h13 b1_1 k1_2 .byte (w_length_a1 + (4 : Int32)) (vs_w_bytes_a1.set w_length_a1.toNatClampNeg (.int ((((p2.toUInt32 >>> ((24 : Int32) &&& 31).toUInt32).toInt32).toInt8.toInt32).toInt8.toInt32))) (.int (0 : Int32)) := Arv.set Aro12 qo12 So12 No12 Ho12 Go12 (fits_nar_byte _) W13 _ rfl hp14
  have f15 : Fld Z h13 a1 "com/example/herald/herald/bytecode/Bytes" "bytes" "[B" (.ref b1_1) := f6.other W13 (Or.inl ne_a1_b1_1)
  have f16 : Exa Z h13 w_bytes_a1 "[B" := f3.wr W13
  have f17 : Arv Z h13 w_bytes_a1 k_w_bytes_a1 .byte n_w_bytes_a1 vs_w_bytes_a1 (.int (0 : Int32)) := f4.other W13 ne_w_bytes_a1_b1_1
  have f18 : Fld Z h13 a1 "com/example/herald/herald/bytecode/Bytes" "length" "I" (.int w_length_a1) := f5.other W13 (Or.inl ne_a1_b1_1)
  have f19 : Exa Z h13 a1 "com/example/herald/herald/bytecode/Bytes" := fq1_2.wr W13
  have f20 : Exa Z h13 b1_1 "[B" := fq1_3.wr W13
  have K21 : Keep h0 h13 [a1] := K8.wr W13 (Or.inr sz_b1_1)
  have N22 := Fr.snoc X13 N2 g_b1_1
  have Zs23 : n0 ≤ h13.size := Nat.le_trans Zs9 (Keep.of_wr W13).1
  obtain ⟨T24, X24, e24, st24⟩ := getF X13 hx hZ hown (host := "") (Or.inl (hw _ (List.mem_of_getElem? (i := 10) rfl))) Via.refl e13 f15 (g := (mkF m 20 #[.val (.ref a1), .val (.int p2)] [(.ref a1)])) rfl rfl (hb hby d3_20)
  obtain ⟨T25, X25, e25, st25⟩ := getF X24 hx hZ hown (host := "") (Or.inl (hw _ (List.mem_of_getElem? (i := 21) rfl))) Via.refl e24 f18 (g := (mkF m 24 #[.val (.ref a1), .val (.int p2)] [(.ref a1), (.ref b1_1)])) rfl rfl (hb hby d3_24)
  obtain ⟨clo26, Aro26, qo26, So26, No26, Ho26, Go26⟩ := id f14
  have hino26 : ¬ ((w_length_a1 + (1 : Int32)) < 0 ∨ clo26.slots.size ≤ ((w_length_a1 + (1 : Int32))).toNatClampNeg) := inb_of So26 ⟨hp15, hp16⟩
  obtain ⟨T27, h27, X27, e27, W27, st27⟩ := stB X25 hx hZ e25 Aro26 (j := (w_length_a1 + (1 : Int32))) hino26 (g := (mkF m 34 #[.val (.ref a1), .val (.int p2)] [(.int (((p2.toUInt32 >>> ((16 : Int32) &&& 31).toUInt32).toInt32).toInt8.toInt32)), (.int (w_length_a1 + (1 : Int32))), (.ref b1_1)])) rfl rfl (hb hby d3_34)
  have f28 : Arv Z h27 b1_1 k1_2 .byte (w_length_a1 + (4 : Int32)) ((vs_w_bytes_a1.set w_length_a1.toNatClampNeg (.int ((((p2.toUInt32 >>> ((24 : Int32) &&& 31).toUInt32).toInt32).toInt8.toInt32).toInt8.toInt32))).set (w_length_a1 + (1 : Int32)).toNatClampNeg (.int ((((p2.toUInt32 >>> ((16 : Int32) &&& 31).toUInt32).toInt32).toInt8.toInt32).toInt8.toInt32))) (.int (0 : Int32)) := Arv.set Aro26 qo26 So26 No26 Ho26 Go26 (fits_nar_byte _) W27 _ rfl hp17
  have f29 : Fld Z h27 a1 "com/example/herald/herald/bytecode/Bytes" "bytes" "[B" (.ref b1_1) := f15.other W27 (Or.inl ne_a1_b1_1)
  have f30 : Exa Z h27 w_bytes_a1 "[B" := f16.wr W27
  have f31 : Arv Z h27 w_bytes_a1 k_w_bytes_a1 .byte n_w_bytes_a1 vs_w_bytes_a1 (.int (0 : Int32)) := f17.other W27 ne_w_bytes_a1_b1_1
  have f32 : Fld Z h27 a1 "com/example/herald/herald/bytecode/Bytes" "length" "I" (.int w_length_a1) := f18.other W27 (Or.inl ne_a1_b1_1)
  have f33 : Exa Z h27 a1 "com/example/herald/herald/bytecode/Bytes" := f19.wr W27
  have f34 : Exa Z h27 b1_1 "[B" := f20.wr W27
  have K35 : Keep h0 h27 [a1] := K21.wr W27 (Or.inr sz_b1_1)
  have N36 := Fr.snoc X27 N22 g_b1_1
  have Zs37 : n0 ≤ h27.size := Nat.le_trans Zs23 (Keep.of_wr W27).1
  obtain ⟨T38, X38, e38, st38⟩ := getF X27 hx hZ hown (host := "") (Or.inl (hw _ (List.mem_of_getElem? (i := 10) rfl))) Via.refl e27 f29 (g := (mkF m 36 #[.val (.ref a1), .val (.int p2)] [(.ref a1)])) rfl rfl (hb hby d3_36)
  obtain ⟨T39, X39, e39, st39⟩ := getF X38 hx hZ hown (host := "") (Or.inl (hw _ (List.mem_of_getElem? (i := 21) rfl))) Via.refl e38 f32 (g := (mkF m 40 #[.val (.ref a1), .val (.int p2)] [(.ref a1), (.ref b1_1)])) rfl rfl (hb hby d3_40)
  obtain ⟨clo40, Aro40, qo40, So40, No40, Ho40, Go40⟩ := id f28
  have hino40 : ¬ ((w_length_a1 + (2 : Int32)) < 0 ∨ clo40.slots.size ≤ ((w_length_a1 + (2 : Int32))).toNatClampNeg) := inb_of So40 ⟨hp18, hp19⟩
  obtain ⟨T41, h41, X41, e41, W41, st41⟩ := stB X39 hx hZ e39 Aro40 (j := (w_length_a1 + (2 : Int32))) hino40 (g := (mkF m 50 #[.val (.ref a1), .val (.int p2)] [(.int (((p2.toUInt32 >>> ((8 : Int32) &&& 31).toUInt32).toInt32).toInt8.toInt32)), (.int (w_length_a1 + (2 : Int32))), (.ref b1_1)])) rfl rfl (hb hby d3_50)
  have f42 : Arv Z h41 b1_1 k1_2 .byte (w_length_a1 + (4 : Int32)) (((vs_w_bytes_a1.set w_length_a1.toNatClampNeg (.int ((((p2.toUInt32 >>> ((24 : Int32) &&& 31).toUInt32).toInt32).toInt8.toInt32).toInt8.toInt32))).set (w_length_a1 + (1 : Int32)).toNatClampNeg (.int ((((p2.toUInt32 >>> ((16 : Int32) &&& 31).toUInt32).toInt32).toInt8.toInt32).toInt8.toInt32))).set (w_length_a1 + (2 : Int32)).toNatClampNeg (.int ((((p2.toUInt32 >>> ((8 : Int32) &&& 31).toUInt32).toInt32).toInt8.toInt32).toInt8.toInt32))) (.int (0 : Int32)) := Arv.set Aro40 qo40 So40 No40 Ho40 Go40 (fits_nar_byte _) W41 _ rfl hp20
  have f43 : Fld Z h41 a1 "com/example/herald/herald/bytecode/Bytes" "bytes" "[B" (.ref b1_1) := f29.other W41 (Or.inl ne_a1_b1_1)
  have f44 : Exa Z h41 w_bytes_a1 "[B" := f30.wr W41
  have f45 : Arv Z h41 w_bytes_a1 k_w_bytes_a1 .byte n_w_bytes_a1 vs_w_bytes_a1 (.int (0 : Int32)) := f31.other W41 ne_w_bytes_a1_b1_1
  have f46 : Fld Z h41 a1 "com/example/herald/herald/bytecode/Bytes" "length" "I" (.int w_length_a1) := f32.other W41 (Or.inl ne_a1_b1_1)
  have f47 : Exa Z h41 a1 "com/example/herald/herald/bytecode/Bytes" := f33.wr W41
  have f48 : Exa Z h41 b1_1 "[B" := f34.wr W41
  have K49 : Keep h0 h41 [a1] := K35.wr W41 (Or.inr sz_b1_1)
  have N50 := Fr.snoc X41 N36 g_b1_1
  have Zs51 : n0 ≤ h41.size := Nat.le_trans Zs37 (Keep.of_wr W41).1
  obtain ⟨T52, X52, e52, st52⟩ := getF X41 hx hZ hown (host := "") (Or.inl (hw _ (List.mem_of_getElem? (i := 10) rfl))) Via.refl e41 f43 (g := (mkF m 52 #[.val (.ref a1), .val (.int p2)] [(.ref a1)])) rfl rfl (hb hby d3_52)
  obtain ⟨T53, X53, e53, st53⟩ := getF X52 hx hZ hown (host := "") (Or.inl (hw _ (List.mem_of_getElem? (i := 21) rfl))) Via.refl e52 f46 (g := (mkF m 56 #[.val (.ref a1), .val (.int p2)] [(.ref a1), (.ref b1_1)])) rfl rfl (hb hby d3_56)
  obtain ⟨clo54, Aro54, qo54, So54, No54, Ho54, Go54⟩ := id f42
  have hino54 : ¬ ((w_length_a1 + (3 : Int32)) < 0 ∨ clo54.slots.size ≤ ((w_length_a1 + (3 : Int32))).toNatClampNeg) := inb_of So54 ⟨hp21, hp22⟩
  obtain ⟨T55, h55, X55, e55, W55, st55⟩ := stB X53 hx hZ e53 Aro54 (j := (w_length_a1 + (3 : Int32))) hino54 (g := (mkF m 63 #[.val (.ref a1), .val (.int p2)] [(.int (p2.toInt8.toInt32)), (.int (w_length_a1 + (3 : Int32))), (.ref b1_1)])) rfl rfl (hb hby d3_63)
  have f56 : Arv Z h55 b1_1 k1_2 .byte (w_length_a1 + (4 : Int32)) ((((vs_w_bytes_a1.set w_length_a1.toNatClampNeg (.int ((((p2.toUInt32 >>> ((24 : Int32) &&& 31).toUInt32).toInt32).toInt8.toInt32).toInt8.toInt32))).set (w_length_a1 + (1 : Int32)).toNatClampNeg (.int ((((p2.toUInt32 >>> ((16 : Int32) &&& 31).toUInt32).toInt32).toInt8.toInt32).toInt8.toInt32))).set (w_length_a1 + (2 : Int32)).toNatClampNeg (.int ((((p2.toUInt32 >>> ((8 : Int32) &&& 31).toUInt32).toInt32).toInt8.toInt32).toInt8.toInt32))).set (w_length_a1 + (3 : Int32)).toNatClampNeg (.int ((p2.toInt8.toInt32).toInt8.toInt32))) (.int (0 : Int32)) := Arv.set Aro54 qo54 So54 No54 Ho54 Go54 (fits_nar_byte _) W55 _ rfl hp23
  have f57 : Fld Z h55 a1 "com/example/herald/herald/bytecode/Bytes" "bytes" "[B" (.ref b1_1) := f43.other W55 (Or.inl ne_a1_b1_1)
  have f58 : Exa Z h55 w_bytes_a1 "[B" := f44.wr W55
  have f59 : Arv Z h55 w_bytes_a1 k_w_bytes_a1 .byte n_w_bytes_a1 vs_w_bytes_a1 (.int (0 : Int32)) := f45.other W55 ne_w_bytes_a1_b1_1
  have f60 : Fld Z h55 a1 "com/example/herald/herald/bytecode/Bytes" "length" "I" (.int w_length_a1) := f46.other W55 (Or.inl ne_a1_b1_1)
  have f61 : Exa Z h55 a1 "com/example/herald/herald/bytecode/Bytes" := f47.wr W55
  have f62 : Exa Z h55 b1_1 "[B" := f48.wr W55
  have K63 : Keep h0 h55 [a1] := K49.wr W55 (Or.inr sz_b1_1)
  have N64 := Fr.snoc X55 N50 g_b1_1
  have Zs65 : n0 ≤ h55.size := Nat.le_trans Zs51 (Keep.of_wr W55).1
  obtain ⟨T66, X66, e66, st66⟩ := getF X55 hx hZ hown (host := "") (Or.inl (hw _ (List.mem_of_getElem? (i := 21) rfl))) Via.refl e55 f60 (g := (mkF m 66 #[.val (.ref a1), .val (.int p2)] [(.ref a1), (.ref a1)])) rfl rfl (hb hby d3_66)
  obtain ⟨T67, h67, X67, e67, W67, st67⟩ := putF X66 hx hZ hown (host := "") (Or.inl (hw _ (List.mem_of_getElem? (i := 21) rfl))) Via.refl e66 f60 f61 (Or.inl (hw _ (List.mem_of_getElem? (i := 22) rfl))) (hw _ (List.mem_of_getElem? (i := 1) rfl)) (ty := .int) (by decide) rfl rfl (g := (mkF m 71 #[.val (.ref a1), .val (.int p2)] [(.int (w_length_a1 + (4 : Int32))), (.ref a1)])) rfl rfl (hb hby d3_71)
  have f68 : Fld Z h67 a1 "com/example/herald/herald/bytecode/Bytes" "bytes" "[B" (.ref b1_1) := f57.other W67 (Or.inr (slot_ne (Or.inl (hw _ (List.mem_of_getElem? (i := 11) rfl))) (Or.inl (hw _ (List.mem_of_getElem? (i := 22) rfl))) (by decide) (t := (.array .byte)) (t' := .int) (by decide) (by decide)))
  have f69 : Exa Z h67 w_bytes_a1 "[B" := f58.wr W67
  have f70 : Arv Z h67 w_bytes_a1 k_w_bytes_a1 .byte n_w_bytes_a1 vs_w_bytes_a1 (.int (0 : Int32)) := f59.other W67 ne_w_bytes_a1_a1
  have f71 : Fld Z h67 a1 "com/example/herald/herald/bytecode/Bytes" "length" "I" (.int (w_length_a1 + (4 : Int32))) := f60.same W67
  have f72 : Exa Z h67 a1 "com/example/herald/herald/bytecode/Bytes" := f61.wr W67
  have f73 : Exa Z h67 b1_1 "[B" := f62.wr W67
  have f74 : Arv Z h67 b1_1 k1_2 .byte (w_length_a1 + (4 : Int32)) ((((vs_w_bytes_a1.set w_length_a1.toNatClampNeg (.int ((((p2.toUInt32 >>> ((24 : Int32) &&& 31).toUInt32).toInt32).toInt8.toInt32).toInt8.toInt32))).set (w_length_a1 + (1 : Int32)).toNatClampNeg (.int ((((p2.toUInt32 >>> ((16 : Int32) &&& 31).toUInt32).toInt32).toInt8.toInt32).toInt8.toInt32))).set (w_length_a1 + (2 : Int32)).toNatClampNeg (.int ((((p2.toUInt32 >>> ((8 : Int32) &&& 31).toUInt32).toInt32).toInt8.toInt32).toInt8.toInt32))).set (w_length_a1 + (3 : Int32)).toNatClampNeg (.int ((p2.toInt8.toInt32).toInt8.toInt32))) (.int (0 : Int32)) := f56.other W67 (Ne.symm ne_a1_b1_1)
  have K75 : Keep h0 h67 [a1] := K63.wr W67 (Or.inl (List.mem_of_getElem? (i := 0) rfl))
  have N76 := Fr.snoc X67 N64 g_a1
  have Zs77 : n0 ≤ h67.size := Nat.le_trans Zs65 (Keep.of_wr W67).1
  obtain ⟨fs, hr, hrun, hended, hW, hsame⟩ := X67.leave (v := none) (fun _ => rfl) Bd.notSynchronized
  refine ⟨_, _, pre0 _ ?_, hrun, hended, _, _, rfl, ?_, ⟨_, rfl⟩, hW, hsame.mono (by decide) (by decide)⟩
  · show Steps p.tables e below (s₁.setTop (mkF m 0 #[.val (.ref a1), .val (.int p2)] [])) _
    refine XS.aloadN X0.here hx rfl (hb hby d3_0) rfl rfl ?_
    show Steps p.tables e below (s₁.setTop (mkF m 1 #[.val (.ref a1), .val (.int p2)] [(.ref a1)])) _
    refine XS.iconst X0.here hx rfl (hb hby d3_1) ?_
    show Steps p.tables e below (s₁.setTop (mkF m 2 #[.val (.ref a1), .val (.int p2)] [(.int (4 : Int32)), (.ref a1)])) _
    refine st1.trans ?_
    show Steps p.tables e below (T1.setTop (mkF m 5 #[.val (.ref a1), .val (.int p2)] [])) _
    refine XS.aloadN X1.here hx rfl (hb hby d3_5) rfl rfl ?_
    show Steps p.tables e below (T1.setTop (mkF m 6 #[.val (.ref a1), .val (.int p2)] [(.ref a1)])) _
    refine st10 _ ?_
    show Steps p.tables e below (T10.setTop (mkF m 9 #[.val (.ref a1), .val (.int p2)] [(.ref b1_1)])) _
    refine XS.aloadN X10.here hx rfl (hb hby d3_9) rfl rfl ?_
    show Steps p.tables e below (T10.setTop (mkF m 10 #[.val (.ref a1), .val (.int p2)] [(.ref a1), (.ref b1_1)])) _
    refine st11 _ ?_
    show Steps p.tables e below (T11.setTop (mkF m 13 #[.val (.ref a1), .val (.int p2)] [(.int w_length_a1), (.ref b1_1)])) _
    refine XS.iloadN X11.here hx rfl (hb hby d3_13) rfl ?_
    show Steps p.tables e below (T11.setTop (mkF m 14 #[.val (.ref a1), .val (.int p2)] [(.int p2), (.int w_length_a1), (.ref b1_1)])) _
    refine XS.bipush X11.here hx rfl (hb hby d3_14) ?_
    show Steps p.tables e below (T11.setTop (mkF m 16 #[.val (.ref a1), .val (.int p2)] [(.int (24 : Int32)), (.int p2), (.int w_length_a1), (.ref b1_1)])) _
    refine XS.iushr X11.here hx rfl (hb hby d3_16) rfl ?_
    show Steps p.tables e below (T11.setTop (mkF m 17 #[.val (.ref a1), .val (.int p2)] [(.int ((p2.toUInt32 >>> ((24 : Int32) &&& 31).toUInt32).toInt32)), (.int w_length_a1), (.ref b1_1)])) _
    refine XS.i2b X11.here hx rfl (hb hby d3_17) rfl ?_
    show Steps p.tables e below (T11.setTop (mkF m 18 #[.val (.ref a1), .val (.int p2)] [(.int (((p2.toUInt32 >>> ((24 : Int32) &&& 31).toUInt32).toInt32).toInt8.toInt32)), (.int w_length_a1), (.ref b1_1)])) _
    refine st13 _ ?_
    show Steps p.tables e below (T13.setTop (mkF m 19 #[.val (.ref a1), .val (.int p2)] [])) _
    refine XS.aloadN X13.here hx rfl (hb hby d3_19) rfl rfl ?_
    show Steps p.tables e below (T13.setTop (mkF m 20 #[.val (.ref a1), .val (.int p2)] [(.ref a1)])) _
    refine st24 _ ?_
    show Steps p.tables e below (T24.setTop (mkF m 23 #[.val (.ref a1), .val (.int p2)] [(.ref b1_1)])) _
    refine XS.aloadN X24.here hx rfl (hb hby d3_23) rfl rfl ?_
    show Steps p.tables e below (T24.setTop (mkF m 24 #[.val (.ref a1), .val (.int p2)] [(.ref a1), (.ref b1_1)])) _
    refine st25 _ ?_
    show Steps p.tables e below (T25.setTop (mkF m 27 #[.val (.ref a1), .val (.int p2)] [(.int w_length_a1), (.ref b1_1)])) _
    refine XS.iconst X25.here hx rfl (hb hby d3_27) ?_
    show Steps p.tables e below (T25.setTop (mkF m 28 #[.val (.ref a1), .val (.int p2)] [(.int (1 : Int32)), (.int w_length_a1), (.ref b1_1)])) _
    refine XS.iadd X25.here hx rfl (hb hby d3_28) rfl ?_
    show Steps p.tables e below (T25.setTop (mkF m 29 #[.val (.ref a1), .val (.int p2)] [(.int (w_length_a1 + (1 : Int32))), (.ref b1_1)])) _
    refine XS.iloadN X25.here hx rfl (hb hby d3_29) rfl ?_
    show Steps p.tables e below (T25.setTop (mkF m 30 #[.val (.ref a1), .val (.int p2)] [(.int p2), (.int (w_length_a1 + (1 : Int32))), (.ref b1_1)])) _
    refine XS.bipush X25.here hx rfl (hb hby d3_30) ?_
    show Steps p.tables e below (T25.setTop (mkF m 32 #[.val (.ref a1), .val (.int p2)] [(.int (16 : Int32)), (.int p2), (.int (w_length_a1 + (1 : Int32))), (.ref b1_1)])) _
    refine XS.iushr X25.here hx rfl (hb hby d3_32) rfl ?_
    show Steps p.tables e below (T25.setTop (mkF m 33 #[.val (.ref a1), .val (.int p2)] [(.int ((p2.toUInt32 >>> ((16 : Int32) &&& 31).toUInt32).toInt32)), (.int (w_length_a1 + (1 : Int32))), (.ref b1_1)])) _
    refine XS.i2b X25.here hx rfl (hb hby d3_33) rfl ?_
    show Steps p.tables e below (T25.setTop (mkF m 34 #[.val (.ref a1), .val (.int p2)] [(.int (((p2.toUInt32 >>> ((16 : Int32) &&& 31).toUInt32).toInt32).toInt8.toInt32)), (.int (w_length_a1 + (1 : Int32))), (.ref b1_1)])) _
    refine st27 _ ?_
    show Steps p.tables e below (T27.setTop (mkF m 35 #[.val (.ref a1), .val (.int p2)] [])) _
    refine XS.aloadN X27.here hx rfl (hb hby d3_35) rfl rfl ?_
    show Steps p.tables e below (T27.setTop (mkF m 36 #[.val (.ref a1), .val (.int p2)] [(.ref a1)])) _
    refine st38 _ ?_
    show Steps p.tables e below (T38.setTop (mkF m 39 #[.val (.ref a1), .val (.int p2)] [(.ref b1_1)])) _
    refine XS.aloadN X38.here hx rfl (hb hby d3_39) rfl rfl ?_
    show Steps p.tables e below (T38.setTop (mkF m 40 #[.val (.ref a1), .val (.int p2)] [(.ref a1), (.ref b1_1)])) _
    refine st39 _ ?_
    show Steps p.tables e below (T39.setTop (mkF m 43 #[.val (.ref a1), .val (.int p2)] [(.int w_length_a1), (.ref b1_1)])) _
    refine XS.iconst X39.here hx rfl (hb hby d3_43) ?_
    show Steps p.tables e below (T39.setTop (mkF m 44 #[.val (.ref a1), .val (.int p2)] [(.int (2 : Int32)), (.int w_length_a1), (.ref b1_1)])) _
    refine XS.iadd X39.here hx rfl (hb hby d3_44) rfl ?_
    show Steps p.tables e below (T39.setTop (mkF m 45 #[.val (.ref a1), .val (.int p2)] [(.int (w_length_a1 + (2 : Int32))), (.ref b1_1)])) _
    refine XS.iloadN X39.here hx rfl (hb hby d3_45) rfl ?_
    show Steps p.tables e below (T39.setTop (mkF m 46 #[.val (.ref a1), .val (.int p2)] [(.int p2), (.int (w_length_a1 + (2 : Int32))), (.ref b1_1)])) _
    refine XS.bipush X39.here hx rfl (hb hby d3_46) ?_
    show Steps p.tables e below (T39.setTop (mkF m 48 #[.val (.ref a1), .val (.int p2)] [(.int (8 : Int32)), (.int p2), (.int (w_length_a1 + (2 : Int32))), (.ref b1_1)])) _
    refine XS.iushr X39.here hx rfl (hb hby d3_48) rfl ?_
    show Steps p.tables e below (T39.setTop (mkF m 49 #[.val (.ref a1), .val (.int p2)] [(.int ((p2.toUInt32 >>> ((8 : Int32) &&& 31).toUInt32).toInt32)), (.int (w_length_a1 + (2 : Int32))), (.ref b1_1)])) _
    refine XS.i2b X39.here hx rfl (hb hby d3_49) rfl ?_
    show Steps p.tables e below (T39.setTop (mkF m 50 #[.val (.ref a1), .val (.int p2)] [(.int (((p2.toUInt32 >>> ((8 : Int32) &&& 31).toUInt32).toInt32).toInt8.toInt32)), (.int (w_length_a1 + (2 : Int32))), (.ref b1_1)])) _
    refine st41 _ ?_
    show Steps p.tables e below (T41.setTop (mkF m 51 #[.val (.ref a1), .val (.int p2)] [])) _
    refine XS.aloadN X41.here hx rfl (hb hby d3_51) rfl rfl ?_
    show Steps p.tables e below (T41.setTop (mkF m 52 #[.val (.ref a1), .val (.int p2)] [(.ref a1)])) _
    refine st52 _ ?_
    show Steps p.tables e below (T52.setTop (mkF m 55 #[.val (.ref a1), .val (.int p2)] [(.ref b1_1)])) _
    refine XS.aloadN X52.here hx rfl (hb hby d3_55) rfl rfl ?_
    show Steps p.tables e below (T52.setTop (mkF m 56 #[.val (.ref a1), .val (.int p2)] [(.ref a1), (.ref b1_1)])) _
    refine st53 _ ?_
    show Steps p.tables e below (T53.setTop (mkF m 59 #[.val (.ref a1), .val (.int p2)] [(.int w_length_a1), (.ref b1_1)])) _
    refine XS.iconst X53.here hx rfl (hb hby d3_59) ?_
    show Steps p.tables e below (T53.setTop (mkF m 60 #[.val (.ref a1), .val (.int p2)] [(.int (3 : Int32)), (.int w_length_a1), (.ref b1_1)])) _
    refine XS.iadd X53.here hx rfl (hb hby d3_60) rfl ?_
    show Steps p.tables e below (T53.setTop (mkF m 61 #[.val (.ref a1), .val (.int p2)] [(.int (w_length_a1 + (3 : Int32))), (.ref b1_1)])) _
    refine XS.iloadN X53.here hx rfl (hb hby d3_61) rfl ?_
    show Steps p.tables e below (T53.setTop (mkF m 62 #[.val (.ref a1), .val (.int p2)] [(.int p2), (.int (w_length_a1 + (3 : Int32))), (.ref b1_1)])) _
    refine XS.i2b X53.here hx rfl (hb hby d3_62) rfl ?_
    show Steps p.tables e below (T53.setTop (mkF m 63 #[.val (.ref a1), .val (.int p2)] [(.int (p2.toInt8.toInt32)), (.int (w_length_a1 + (3 : Int32))), (.ref b1_1)])) _
    refine st55 _ ?_
    show Steps p.tables e below (T55.setTop (mkF m 64 #[.val (.ref a1), .val (.int p2)] [])) _
    refine XS.aloadN X55.here hx rfl (hb hby d3_64) rfl rfl ?_
    show Steps p.tables e below (T55.setTop (mkF m 65 #[.val (.ref a1), .val (.int p2)] [(.ref a1)])) _
    refine XS.dup X55.here hx rfl (hb hby d3_65) rfl rfl ?_
    show Steps p.tables e below (T55.setTop (mkF m 66 #[.val (.ref a1), .val (.int p2)] [(.ref a1), (.ref a1)])) _
    refine st66 _ ?_
    show Steps p.tables e below (T66.setTop (mkF m 69 #[.val (.ref a1), .val (.int p2)] [(.int w_length_a1), (.ref a1)])) _
    refine XS.iconst X66.here hx rfl (hb hby d3_69) ?_
    show Steps p.tables e below (T66.setTop (mkF m 70 #[.val (.ref a1), .val (.int p2)] [(.int (4 : Int32)), (.int w_length_a1), (.ref a1)])) _
    refine XS.iadd X66.here hx rfl (hb hby d3_70) rfl ?_
    show Steps p.tables e below (T66.setTop (mkF m 71 #[.val (.ref a1), .val (.int p2)] [(.int (w_length_a1 + (4 : Int32))), (.ref a1)])) _
    refine st67 _ ?_
    show Steps p.tables e below (T67.setTop (mkF m 74 #[.val (.ref a1), .val (.int p2)] [])) _
    exact X67.returnOut hx Bd.returns (hb hby d3_74) hr
  · show Q_u4R Z a1 p2 w_bytes_a1 k_w_bytes_a1 n_w_bytes_a1 vs_w_bytes_a1 w_length_a1 h0 n0 _ T67.heap _
    rw [e67]
    exact ⟨b1_1, k1_2, rfl, N76, g_b1_1, sz_b1_1, K75, f68, f71, f72, f73, f74⟩
def Q_u4F (Z : State) (a1 : Addr) (p2 : Int32) (w_bytes_a1 : Addr) (k_w_bytes_a1 : ClassId) (n_w_bytes_a1 : Int32) (vs_w_bytes_a1 : List Value) (w_length_a1 : Int32) (h0 : Heap) (n0 : Nat) (v : Option Value) (h : Heap) (L : List Loc) : Prop := v = none ∧ Fr n0 L ∧ Keep h0 h [w_bytes_a1, a1] ∧ Exa Z h w_bytes_a1 "[B" ∧ Arv Z h w_bytes_a1 k_w_bytes_a1 .byte n_w_bytes_a1 ((((vs_w_bytes_a1.set w_length_a1.toNatClampNeg (.int ((((p2.toUInt32 >>> ((24 : Int32) &&& 31).toUInt32).toInt32).toInt8.toInt32).toInt8.toInt32))).set (w_length_a1 + (1 : Int32)).toNatClampNeg (.int ((((p2.toUInt32 >>> ((16 : Int32) &&& 31).toUInt32).toInt32).toInt8.toInt32).toInt8.toInt32))).set (w_length_a1 + (2 : Int32)).toNatClampNeg (.int ((((p2.toUInt32 >>> ((8 : Int32) &&& 31).toUInt32).toInt32).toInt8.toInt32).toInt8.toInt32))).set (w_length_a1 + (3 : Int32)).toNatClampNeg (.int ((p2.toInt8.toInt32).toInt8.toInt32))) (.int (0 : Int32)) ∧ Fld Z h a1 "com/example/herald/herald/bytecode/Bytes" "bytes" "[B" (.ref w_bytes_a1) ∧ Fld Z h a1 "com/example/herald/herald/bytecode/Bytes" "length" "I" (.int (w_length_a1 + (4 : Int32))) ∧ Exa Z h a1 "com/example/herald/herald/bytecode/Bytes"
set_option maxRecDepth 65536 in
set_option maxHeartbeats 40000000 in
theorem rm_u4F (l : Launch) (Z : State) (a0 : Array Value) (hw : ∀ d ∈ tables_1, d.before a0 Z = true) (ws : List Jvm.Cond) (a1 : Addr) (p2 : Int32) (w_bytes_a1 : Addr) (k_w_bytes_a1 : ClassId) (n_w_bytes_a1 : Int32) (vs_w_bytes_a1 : List Value) (w_length_a1 : Int32) (h0 : Heap) (n0 : Nat) (Z0 : n0 ≤ h0.size) (F_bytes_a1 : Fld Z h0 a1 "com/example/herald/herald/bytecode/Bytes" "bytes" "[B" (.ref w_bytes_a1)) (E_w_bytes_a1 : Exa Z h0 w_bytes_a1 "[B") (V_w_bytes_a1 : Arv Z h0 w_bytes_a1 k_w_bytes_a1 .byte n_w_bytes_a1 vs_w_bytes_a1 (.int (0 : Int32))) (F_length_a1 : Fld Z h0 a1 "com/example/herald/herald/bytecode/Bytes" "length" "I" (.int w_length_a1)) (E_a1 : Exa Z h0 a1 "com/example/herald/herald/bytecode/Bytes") (g_a1 : n0 ≤ a1) (g_w_bytes_a1 : n0 ≤ w_bytes_a1) (hp0 : ¬ (n_w_bytes_a1 < (w_length_a1 + (4 : Int32)))) (hp1 : ¬ (w_length_a1 < (0 : Int32))) (hp2 : w_length_a1 < n_w_bytes_a1) (hp3 : w_length_a1.toNatClampNeg < vs_w_bytes_a1.length) (hp4 : ¬ ((w_length_a1 + (1 : Int32)) < (0 : Int32))) (hp5 : (w_length_a1 + (1 : Int32)) < n_w_bytes_a1) (hp6 : (w_length_a1 + (1 : Int32)).toNatClampNeg < (vs_w_bytes_a1.set w_length_a1.toNatClampNeg (.int ((((p2.toUInt32 >>> ((24 : Int32) &&& 31).toUInt32).toInt32).toInt8.toInt32).toInt8.toInt32))).length) (hp7 : ¬ ((w_length_a1 + (2 : Int32)) < (0 : Int32))) (hp8 : (w_length_a1 + (2 : Int32)) < n_w_bytes_a1) (hp9 : (w_length_a1 + (2 : Int32)).toNatClampNeg < ((vs_w_bytes_a1.set w_length_a1.toNatClampNeg (.int ((((p2.toUInt32 >>> ((24 : Int32) &&& 31).toUInt32).toInt32).toInt8.toInt32).toInt8.toInt32))).set (w_length_a1 + (1 : Int32)).toNatClampNeg (.int ((((p2.toUInt32 >>> ((16 : Int32) &&& 31).toUInt32).toInt32).toInt8.toInt32).toInt8.toInt32))).length) (hp10 : ¬ ((w_length_a1 + (3 : Int32)) < (0 : Int32))) (hp11 : (w_length_a1 + (3 : Int32)) < n_w_bytes_a1) (hp12 : (w_length_a1 + (3 : Int32)).toNatClampNeg < (((vs_w_bytes_a1.set w_length_a1.toNatClampNeg (.int ((((p2.toUInt32 >>> ((24 : Int32) &&& 31).toUInt32).toInt32).toInt8.toInt32).toInt8.toInt32))).set (w_length_a1 + (1 : Int32)).toNatClampNeg (.int ((((p2.toUInt32 >>> ((16 : Int32) &&& 31).toUInt32).toInt32).toInt8.toInt32).toInt8.toInt32))).set (w_length_a1 + (2 : Int32)).toNatClampNeg (.int ((((p2.toUInt32 >>> ((8 : Int32) &&& 31).toUInt32).toInt32).toInt8.toInt32).toInt8.toInt32))).length) :
    MetFree l (⟨"com/example/herald/herald/bytecode/Bytes", "u4", "(I)V"⟩ : MethodName) (head1 (Jvm.Cond.code (⟨"com/example/herald/herald/bytecode/Bytes", "u4", "(I)V"⟩ : MethodName) prog_1_method_5_code 2 none :: ws) ({ frames := 3, cells := 1, slots := 14, locals := 46 } : Room)) (fun a U => a = #[(.ref a1), (.int p2)] ∧ Z.Warmed39 U.vm ∧ U.heap = h0) (fun _ _ _ _ _ => True) (fun _ U o U' => ∃ v L, o = .returned v ∧ Q_u4F Z a1 p2 w_bytes_a1 k_w_bytes_a1 n_w_bytes_a1 vs_w_bytes_a1 w_length_a1 h0 n0 v U'.heap L ∧ FrameEnd U o U' L ({ frames := 3, cells := 1, slots := 14, locals := 46 } : Room).cells ({ frames := 3, cells := 1, slots := 14, locals := 46 } : Room).slots) := by
  refine MetFree.of_bodySF (plainFor_of_name pn_com_example_herald_herald_bytecode_Bytes) hisR ?_
  intro p e s m args below meth c s₁ Bd hml0 hP hK
  obtain ⟨rfl, hZ, hh⟩ := hP
  have hx := Bd.exec
  have hby := Bd.bytes
  have hml : c.maxLocals = 2 := hml0
  have hown : s.vm.findClass "com/example/herald/herald/bytecode/Bytes" = some m.cls := findClass_of_methodNamed Bd.named
  have hnm := (name_of_methodNamed Bd.named Bd.method).1
  have X0 : Stand p l e ({ frames := 3, cells := 1, slots := 14, locals := 46 } : Room) s m #[(.ref a1), (.int p2)] below meth c s₁ [] 0 0 := Stand.of_body Bd
  have e0 : s₁.heap = h0 := by rw [← hh, Bd.state]; rfl
  have N0 := Fr.nil n0
  have pre0 : ∀ t, Steps p.tables e below (s₁.setTop (mkF m 0 #[.val (.ref a1), .val (.int p2)] [])) t → Steps p.tables e below (s₁.setTop (entryFrame m #[(.ref a1), (.int p2)] 2)) t := fun t k => castTop (ef_3_RI m a1 p2) k
  obtain ⟨cq1, q1, q1'⟩ := E_a1.cell
  obtain ⟨_, _, ⟨T1, L1, k1, n1⟩, -, X1, ⟨Lc1, hQ1, l1, y1, z1⟩, st1⟩ := X0.privateBack hx (y := (⟨"com/example/herald/herald/bytecode/Bytes", "room", "(I)V"⟩ : MethodName)) hown (mvT hZ (hw _ (List.mem_of_getElem? (i := 17) rfl))) (mvT hZ (hw _ (List.mem_of_getElem? (i := 18) rfl))) (own_sel hZ (hw _ (List.mem_of_getElem? (i := 19) rfl)) (hw _ (List.mem_of_getElem? (i := 18) rfl)) (hw _ (List.mem_of_getElem? (i := 1) rfl)) (by decide)) (Cond.privateMethod_at (mvP hZ (hw _ (List.mem_of_getElem? (i := 19) rfl)) (args := #[]))) (mvT hZ (hw _ (List.mem_of_getElem? (i := 20) rfl))) (by decide) (backOf (W := 0) (rm_roomF l Z a0 hw [] a1 (4 : Int32) w_length_a1 w_bytes_a1 k_w_bytes_a1 n_w_bytes_a1 vs_w_bytes_a1 h0 n0 Z0 F_length_a1 F_bytes_a1 V_w_bytes_a1 hp0) hZ (hw _ (List.mem_of_getElem? (i := 20) rfl)) (hw _ (List.mem_of_getElem? (i := 2) rfl)) (by decide) (by decide)) (g := (mkF m 2 #[.val (.ref a1), .val (.int p2)] [(.int (4 : Int32)), (.ref a1)])) rfl (by rw [hml]; rfl) (Steps.refl _) (a := a1) (by rw [e0]; exact q1) q1' (argsL := [(.int (4 : Int32))]) (rest := []) (lenOf pd_2 rfl) rfl (by show 2 * 0 + _ ≤ _; exact Nat.le_of_eq rfl) (hb hby d3_2) (fun _ _ => ⟨rfl, e0, (by decide : 0 + 0 ≤ _), (by decide : 0 + 0 ≤ _)⟩)
  dsimp only [Pt.U, Pt.locs, Pt.cells, Pt.slots] at X1 l1 y1 z1 st1 hQ1
  subst l1 y1 z1
  obtain ⟨rfl, Nq1, e1⟩ := hQ1
  have N2 := Fr.app N0 Nq1
  obtain ⟨T3, X3, e3, st3⟩ := getF X1 hx hZ hown (host := "") (Or.inl (hw _ (List.mem_of_getElem? (i := 10) rfl))) Via.refl e1 F_bytes_a1 (g := (mkF m 6 #[.val (.ref a1), .val (.int p2)] [(.ref a1)])) rfl rfl (hb hby d3_6)
  obtain ⟨T4, X4, e4, st4⟩ := getF X3 hx hZ hown (host := "") (Or.inl (hw _ (List.mem_of_getElem? (i := 21) rfl))) Via.refl e3 F_length_a1 (g := (mkF m 10 #[.val (.ref a1), .val (.int p2)] [(.ref a1), (.ref w_bytes_a1)])) rfl rfl (hb hby d3_10)
  obtain ⟨clo5, Aro5, qo5, So5, No5, Ho5, Go5⟩ := id V_w_bytes_a1
  have hino5 : ¬ (w_length_a1 < 0 ∨ clo5.slots.size ≤ (w_length_a1).toNatClampNeg) := inb_of So5 ⟨hp1, hp2⟩
  obtain ⟨T6, h6, X6, e6, W6, st6⟩ := stB X4 hx hZ e4 Aro5 (j := w_length_a1) hino5 (g := (mkF m 18 #[.val (.ref a1), .val (.int p2)] [(.int (((p2.toUInt32 >>> ((24 : Int32) &&& 31).toUInt32).toInt32).toInt8.toInt32)), (.int w_length_a1), (.ref w_bytes_a1)])) rfl rfl (hb hby d3_18)
  have f7 : Arv Z h6 w_bytes_a1 k_w_bytes_a1 .byte n_w_bytes_a1 (vs_w_bytes_a1.set w_length_a1.toNatClampNeg (.int ((((p2.toUInt32 >>> ((24 : Int32) &&& 31).toUInt32).toInt32).toInt8.toInt32).toInt8.toInt32))) (.int (0 : Int32)) := Arv.set Aro5 qo5 So5 No5 Ho5 Go5 (fits_nar_byte _) W6 _ rfl hp3
  have ne_w_bytes_a1_a1 : w_bytes_a1 ≠ a1 := ne_exa E_w_bytes_a1 E_a1 (by decide)
  have f8 : Fld Z h6 a1 "com/example/herald/herald/bytecode/Bytes" "bytes" "[B" (.ref w_bytes_a1) := F_bytes_a1.other W6 (Or.inl (Ne.symm ne_w_bytes_a1_a1))
  have f9 : Exa Z h6 w_bytes_a1 "[B" := E_w_bytes_a1.wr W6
  have f10 : Fld Z h6 a1 "com/example/herald/herald/bytecode/Bytes" "length" "I" (.int w_length_a1) := F_length_a1.other W6 (Or.inl (Ne.symm ne_w_bytes_a1_a1))
  have f11 : Exa Z h6 a1 "com/example/herald/herald/bytecode/Bytes" := E_a1.wr W6
  have K12 : Keep h0 h6 [w_bytes_a1, a1] := (Keep.refl h0 [w_bytes_a1, a1]).wr W6 (Or.inl (List.mem_of_getElem? (i := 0) rfl))
  have N13 := Fr.snoc X6 N2 g_w_bytes_a1
  have Zs14 : n0 ≤ h6.size := Nat.le_trans Z0 (Keep.of_wr W6).1
  obtain ⟨T15, X15, e15, st15⟩ := getF X6 hx hZ hown (host := "") (Or.inl (hw _ (List.mem_of_getElem? (i := 10) rfl))) Via.refl e6 f8 (g := (mkF m 20 #[.val (.ref a1), .val (.int p2)] [(.ref a1)])) rfl rfl (hb hby d3_20)
  obtain ⟨T16, X16, e16, st16⟩ := getF X15 hx hZ hown (host := "") (Or.inl (hw _ (List.mem_of_getElem? (i := 21) rfl))) Via.refl e15 f10 (g := (mkF m 24 #[.val (.ref a1), .val (.int p2)] [(.ref a1), (.ref w_bytes_a1)])) rfl rfl (hb hby d3_24)
  obtain ⟨clo17, Aro17, qo17, So17, No17, Ho17, Go17⟩ := id f7
  have hino17 : ¬ ((w_length_a1 + (1 : Int32)) < 0 ∨ clo17.slots.size ≤ ((w_length_a1 + (1 : Int32))).toNatClampNeg) := inb_of So17 ⟨hp4, hp5⟩
  obtain ⟨T18, h18, X18, e18, W18, st18⟩ := stB X16 hx hZ e16 Aro17 (j := (w_length_a1 + (1 : Int32))) hino17 (g := (mkF m 34 #[.val (.ref a1), .val (.int p2)] [(.int (((p2.toUInt32 >>> ((16 : Int32) &&& 31).toUInt32).toInt32).toInt8.toInt32)), (.int (w_length_a1 + (1 : Int32))), (.ref w_bytes_a1)])) rfl rfl (hb hby d3_34)
  have f19 : Arv Z h18 w_bytes_a1 k_w_bytes_a1 .byte n_w_bytes_a1 ((vs_w_bytes_a1.set w_length_a1.toNatClampNeg (.int ((((p2.toUInt32 >>> ((24 : Int32) &&& 31).toUInt32).toInt32).toInt8.toInt32).toInt8.toInt32))).set (w_length_a1 + (1 : Int32)).toNatClampNeg (.int ((((p2.toUInt32 >>> ((16 : Int32) &&& 31).toUInt32).toInt32).toInt8.toInt32).toInt8.toInt32))) (.int (0 : Int32)) := Arv.set Aro17 qo17 So17 No17 Ho17 Go17 (fits_nar_byte _) W18 _ rfl hp6
  have f20 : Fld Z h18 a1 "com/example/herald/herald/bytecode/Bytes" "bytes" "[B" (.ref w_bytes_a1) := f8.other W18 (Or.inl (Ne.symm ne_w_bytes_a1_a1))
  have f21 : Exa Z h18 w_bytes_a1 "[B" := f9.wr W18
  have f22 : Fld Z h18 a1 "com/example/herald/herald/bytecode/Bytes" "length" "I" (.int w_length_a1) := f10.other W18 (Or.inl (Ne.symm ne_w_bytes_a1_a1))
  have f23 : Exa Z h18 a1 "com/example/herald/herald/bytecode/Bytes" := f11.wr W18
  have K24 : Keep h0 h18 [w_bytes_a1, a1] := K12.wr W18 (Or.inl (List.mem_of_getElem? (i := 0) rfl))
  have N25 := Fr.snoc X18 N13 g_w_bytes_a1
  have Zs26 : n0 ≤ h18.size := Nat.le_trans Zs14 (Keep.of_wr W18).1
  obtain ⟨T27, X27, e27, st27⟩ := getF X18 hx hZ hown (host := "") (Or.inl (hw _ (List.mem_of_getElem? (i := 10) rfl))) Via.refl e18 f20 (g := (mkF m 36 #[.val (.ref a1), .val (.int p2)] [(.ref a1)])) rfl rfl (hb hby d3_36)
  obtain ⟨T28, X28, e28, st28⟩ := getF X27 hx hZ hown (host := "") (Or.inl (hw _ (List.mem_of_getElem? (i := 21) rfl))) Via.refl e27 f22 (g := (mkF m 40 #[.val (.ref a1), .val (.int p2)] [(.ref a1), (.ref w_bytes_a1)])) rfl rfl (hb hby d3_40)
  obtain ⟨clo29, Aro29, qo29, So29, No29, Ho29, Go29⟩ := id f19
  have hino29 : ¬ ((w_length_a1 + (2 : Int32)) < 0 ∨ clo29.slots.size ≤ ((w_length_a1 + (2 : Int32))).toNatClampNeg) := inb_of So29 ⟨hp7, hp8⟩
  obtain ⟨T30, h30, X30, e30, W30, st30⟩ := stB X28 hx hZ e28 Aro29 (j := (w_length_a1 + (2 : Int32))) hino29 (g := (mkF m 50 #[.val (.ref a1), .val (.int p2)] [(.int (((p2.toUInt32 >>> ((8 : Int32) &&& 31).toUInt32).toInt32).toInt8.toInt32)), (.int (w_length_a1 + (2 : Int32))), (.ref w_bytes_a1)])) rfl rfl (hb hby d3_50)
  have f31 : Arv Z h30 w_bytes_a1 k_w_bytes_a1 .byte n_w_bytes_a1 (((vs_w_bytes_a1.set w_length_a1.toNatClampNeg (.int ((((p2.toUInt32 >>> ((24 : Int32) &&& 31).toUInt32).toInt32).toInt8.toInt32).toInt8.toInt32))).set (w_length_a1 + (1 : Int32)).toNatClampNeg (.int ((((p2.toUInt32 >>> ((16 : Int32) &&& 31).toUInt32).toInt32).toInt8.toInt32).toInt8.toInt32))).set (w_length_a1 + (2 : Int32)).toNatClampNeg (.int ((((p2.toUInt32 >>> ((8 : Int32) &&& 31).toUInt32).toInt32).toInt8.toInt32).toInt8.toInt32))) (.int (0 : Int32)) := Arv.set Aro29 qo29 So29 No29 Ho29 Go29 (fits_nar_byte _) W30 _ rfl hp9
  have f32 : Fld Z h30 a1 "com/example/herald/herald/bytecode/Bytes" "bytes" "[B" (.ref w_bytes_a1) := f20.other W30 (Or.inl (Ne.symm ne_w_bytes_a1_a1))
  have f33 : Exa Z h30 w_bytes_a1 "[B" := f21.wr W30
  have f34 : Fld Z h30 a1 "com/example/herald/herald/bytecode/Bytes" "length" "I" (.int w_length_a1) := f22.other W30 (Or.inl (Ne.symm ne_w_bytes_a1_a1))
  have f35 : Exa Z h30 a1 "com/example/herald/herald/bytecode/Bytes" := f23.wr W30
  have K36 : Keep h0 h30 [w_bytes_a1, a1] := K24.wr W30 (Or.inl (List.mem_of_getElem? (i := 0) rfl))
  have N37 := Fr.snoc X30 N25 g_w_bytes_a1
  have Zs38 : n0 ≤ h30.size := Nat.le_trans Zs26 (Keep.of_wr W30).1
  obtain ⟨T39, X39, e39, st39⟩ := getF X30 hx hZ hown (host := "") (Or.inl (hw _ (List.mem_of_getElem? (i := 10) rfl))) Via.refl e30 f32 (g := (mkF m 52 #[.val (.ref a1), .val (.int p2)] [(.ref a1)])) rfl rfl (hb hby d3_52)
  obtain ⟨T40, X40, e40, st40⟩ := getF X39 hx hZ hown (host := "") (Or.inl (hw _ (List.mem_of_getElem? (i := 21) rfl))) Via.refl e39 f34 (g := (mkF m 56 #[.val (.ref a1), .val (.int p2)] [(.ref a1), (.ref w_bytes_a1)])) rfl rfl (hb hby d3_56)
  obtain ⟨clo41, Aro41, qo41, So41, No41, Ho41, Go41⟩ := id f31
  have hino41 : ¬ ((w_length_a1 + (3 : Int32)) < 0 ∨ clo41.slots.size ≤ ((w_length_a1 + (3 : Int32))).toNatClampNeg) := inb_of So41 ⟨hp10, hp11⟩
  obtain ⟨T42, h42, X42, e42, W42, st42⟩ := stB X40 hx hZ e40 Aro41 (j := (w_length_a1 + (3 : Int32))) hino41 (g := (mkF m 63 #[.val (.ref a1), .val (.int p2)] [(.int (p2.toInt8.toInt32)), (.int (w_length_a1 + (3 : Int32))), (.ref w_bytes_a1)])) rfl rfl (hb hby d3_63)
  have f43 : Arv Z h42 w_bytes_a1 k_w_bytes_a1 .byte n_w_bytes_a1 ((((vs_w_bytes_a1.set w_length_a1.toNatClampNeg (.int ((((p2.toUInt32 >>> ((24 : Int32) &&& 31).toUInt32).toInt32).toInt8.toInt32).toInt8.toInt32))).set (w_length_a1 + (1 : Int32)).toNatClampNeg (.int ((((p2.toUInt32 >>> ((16 : Int32) &&& 31).toUInt32).toInt32).toInt8.toInt32).toInt8.toInt32))).set (w_length_a1 + (2 : Int32)).toNatClampNeg (.int ((((p2.toUInt32 >>> ((8 : Int32) &&& 31).toUInt32).toInt32).toInt8.toInt32).toInt8.toInt32))).set (w_length_a1 + (3 : Int32)).toNatClampNeg (.int ((p2.toInt8.toInt32).toInt8.toInt32))) (.int (0 : Int32)) := Arv.set Aro41 qo41 So41 No41 Ho41 Go41 (fits_nar_byte _) W42 _ rfl hp12
  have f44 : Fld Z h42 a1 "com/example/herald/herald/bytecode/Bytes" "bytes" "[B" (.ref w_bytes_a1) := f32.other W42 (Or.inl (Ne.symm ne_w_bytes_a1_a1))
  have f45 : Exa Z h42 w_bytes_a1 "[B" := f33.wr W42
  have f46 : Fld Z h42 a1 "com/example/herald/herald/bytecode/Bytes" "length" "I" (.int w_length_a1) := f34.other W42 (Or.inl (Ne.symm ne_w_bytes_a1_a1))
  have f47 : Exa Z h42 a1 "com/example/herald/herald/bytecode/Bytes" := f35.wr W42
  have K48 : Keep h0 h42 [w_bytes_a1, a1] := K36.wr W42 (Or.inl (List.mem_of_getElem? (i := 0) rfl))
  have N49 := Fr.snoc X42 N37 g_w_bytes_a1
  have Zs50 : n0 ≤ h42.size := Nat.le_trans Zs38 (Keep.of_wr W42).1
  obtain ⟨T51, X51, e51, st51⟩ := getF X42 hx hZ hown (host := "") (Or.inl (hw _ (List.mem_of_getElem? (i := 21) rfl))) Via.refl e42 f46 (g := (mkF m 66 #[.val (.ref a1), .val (.int p2)] [(.ref a1), (.ref a1)])) rfl rfl (hb hby d3_66)
  obtain ⟨T52, h52, X52, e52, W52, st52⟩ := putF X51 hx hZ hown (host := "") (Or.inl (hw _ (List.mem_of_getElem? (i := 21) rfl))) Via.refl e51 f46 f47 (Or.inl (hw _ (List.mem_of_getElem? (i := 22) rfl))) (hw _ (List.mem_of_getElem? (i := 1) rfl)) (ty := .int) (by decide) rfl rfl (g := (mkF m 71 #[.val (.ref a1), .val (.int p2)] [(.int (w_length_a1 + (4 : Int32))), (.ref a1)])) rfl rfl (hb hby d3_71)
  have f53 : Fld Z h52 a1 "com/example/herald/herald/bytecode/Bytes" "bytes" "[B" (.ref w_bytes_a1) := f44.other W52 (Or.inr (slot_ne (Or.inl (hw _ (List.mem_of_getElem? (i := 11) rfl))) (Or.inl (hw _ (List.mem_of_getElem? (i := 22) rfl))) (by decide) (t := (.array .byte)) (t' := .int) (by decide) (by decide)))
  have f54 : Exa Z h52 w_bytes_a1 "[B" := f45.wr W52
  have f55 : Arv Z h52 w_bytes_a1 k_w_bytes_a1 .byte n_w_bytes_a1 ((((vs_w_bytes_a1.set w_length_a1.toNatClampNeg (.int ((((p2.toUInt32 >>> ((24 : Int32) &&& 31).toUInt32).toInt32).toInt8.toInt32).toInt8.toInt32))).set (w_length_a1 + (1 : Int32)).toNatClampNeg (.int ((((p2.toUInt32 >>> ((16 : Int32) &&& 31).toUInt32).toInt32).toInt8.toInt32).toInt8.toInt32))).set (w_length_a1 + (2 : Int32)).toNatClampNeg (.int ((((p2.toUInt32 >>> ((8 : Int32) &&& 31).toUInt32).toInt32).toInt8.toInt32).toInt8.toInt32))).set (w_length_a1 + (3 : Int32)).toNatClampNeg (.int ((p2.toInt8.toInt32).toInt8.toInt32))) (.int (0 : Int32)) := f43.other W52 ne_w_bytes_a1_a1
  have f56 : Fld Z h52 a1 "com/example/herald/herald/bytecode/Bytes" "length" "I" (.int (w_length_a1 + (4 : Int32))) := f46.same W52
  have f57 : Exa Z h52 a1 "com/example/herald/herald/bytecode/Bytes" := f47.wr W52
  have K58 : Keep h0 h52 [w_bytes_a1, a1] := K48.wr W52 (Or.inl (List.mem_of_getElem? (i := 1) rfl))
  have N59 := Fr.snoc X52 N49 g_a1
  have Zs60 : n0 ≤ h52.size := Nat.le_trans Zs50 (Keep.of_wr W52).1
  obtain ⟨fs, hr, hrun, hended, hW, hsame⟩ := X52.leave (v := none) (fun _ => rfl) Bd.notSynchronized
  refine ⟨_, _, pre0 _ ?_, hrun, hended, _, _, rfl, ?_, ⟨_, rfl⟩, hW, hsame.mono (by decide) (by decide)⟩
  · show Steps p.tables e below (s₁.setTop (mkF m 0 #[.val (.ref a1), .val (.int p2)] [])) _
    refine XS.aloadN X0.here hx rfl (hb hby d3_0) rfl rfl ?_
    show Steps p.tables e below (s₁.setTop (mkF m 1 #[.val (.ref a1), .val (.int p2)] [(.ref a1)])) _
    refine XS.iconst X0.here hx rfl (hb hby d3_1) ?_
    show Steps p.tables e below (s₁.setTop (mkF m 2 #[.val (.ref a1), .val (.int p2)] [(.int (4 : Int32)), (.ref a1)])) _
    refine st1.trans ?_
    show Steps p.tables e below (T1.setTop (mkF m 5 #[.val (.ref a1), .val (.int p2)] [])) _
    refine XS.aloadN X1.here hx rfl (hb hby d3_5) rfl rfl ?_
    show Steps p.tables e below (T1.setTop (mkF m 6 #[.val (.ref a1), .val (.int p2)] [(.ref a1)])) _
    refine st3 _ ?_
    show Steps p.tables e below (T3.setTop (mkF m 9 #[.val (.ref a1), .val (.int p2)] [(.ref w_bytes_a1)])) _
    refine XS.aloadN X3.here hx rfl (hb hby d3_9) rfl rfl ?_
    show Steps p.tables e below (T3.setTop (mkF m 10 #[.val (.ref a1), .val (.int p2)] [(.ref a1), (.ref w_bytes_a1)])) _
    refine st4 _ ?_
    show Steps p.tables e below (T4.setTop (mkF m 13 #[.val (.ref a1), .val (.int p2)] [(.int w_length_a1), (.ref w_bytes_a1)])) _
    refine XS.iloadN X4.here hx rfl (hb hby d3_13) rfl ?_
    show Steps p.tables e below (T4.setTop (mkF m 14 #[.val (.ref a1), .val (.int p2)] [(.int p2), (.int w_length_a1), (.ref w_bytes_a1)])) _
    refine XS.bipush X4.here hx rfl (hb hby d3_14) ?_
    show Steps p.tables e below (T4.setTop (mkF m 16 #[.val (.ref a1), .val (.int p2)] [(.int (24 : Int32)), (.int p2), (.int w_length_a1), (.ref w_bytes_a1)])) _
    refine XS.iushr X4.here hx rfl (hb hby d3_16) rfl ?_
    show Steps p.tables e below (T4.setTop (mkF m 17 #[.val (.ref a1), .val (.int p2)] [(.int ((p2.toUInt32 >>> ((24 : Int32) &&& 31).toUInt32).toInt32)), (.int w_length_a1), (.ref w_bytes_a1)])) _
    refine XS.i2b X4.here hx rfl (hb hby d3_17) rfl ?_
    show Steps p.tables e below (T4.setTop (mkF m 18 #[.val (.ref a1), .val (.int p2)] [(.int (((p2.toUInt32 >>> ((24 : Int32) &&& 31).toUInt32).toInt32).toInt8.toInt32)), (.int w_length_a1), (.ref w_bytes_a1)])) _
    refine st6 _ ?_
    show Steps p.tables e below (T6.setTop (mkF m 19 #[.val (.ref a1), .val (.int p2)] [])) _
    refine XS.aloadN X6.here hx rfl (hb hby d3_19) rfl rfl ?_
    show Steps p.tables e below (T6.setTop (mkF m 20 #[.val (.ref a1), .val (.int p2)] [(.ref a1)])) _
    refine st15 _ ?_
    show Steps p.tables e below (T15.setTop (mkF m 23 #[.val (.ref a1), .val (.int p2)] [(.ref w_bytes_a1)])) _
    refine XS.aloadN X15.here hx rfl (hb hby d3_23) rfl rfl ?_
    show Steps p.tables e below (T15.setTop (mkF m 24 #[.val (.ref a1), .val (.int p2)] [(.ref a1), (.ref w_bytes_a1)])) _
    refine st16 _ ?_
    show Steps p.tables e below (T16.setTop (mkF m 27 #[.val (.ref a1), .val (.int p2)] [(.int w_length_a1), (.ref w_bytes_a1)])) _
    refine XS.iconst X16.here hx rfl (hb hby d3_27) ?_
    show Steps p.tables e below (T16.setTop (mkF m 28 #[.val (.ref a1), .val (.int p2)] [(.int (1 : Int32)), (.int w_length_a1), (.ref w_bytes_a1)])) _
    refine XS.iadd X16.here hx rfl (hb hby d3_28) rfl ?_
    show Steps p.tables e below (T16.setTop (mkF m 29 #[.val (.ref a1), .val (.int p2)] [(.int (w_length_a1 + (1 : Int32))), (.ref w_bytes_a1)])) _
    refine XS.iloadN X16.here hx rfl (hb hby d3_29) rfl ?_
    show Steps p.tables e below (T16.setTop (mkF m 30 #[.val (.ref a1), .val (.int p2)] [(.int p2), (.int (w_length_a1 + (1 : Int32))), (.ref w_bytes_a1)])) _
    refine XS.bipush X16.here hx rfl (hb hby d3_30) ?_
    show Steps p.tables e below (T16.setTop (mkF m 32 #[.val (.ref a1), .val (.int p2)] [(.int (16 : Int32)), (.int p2), (.int (w_length_a1 + (1 : Int32))), (.ref w_bytes_a1)])) _
    refine XS.iushr X16.here hx rfl (hb hby d3_32) rfl ?_
    show Steps p.tables e below (T16.setTop (mkF m 33 #[.val (.ref a1), .val (.int p2)] [(.int ((p2.toUInt32 >>> ((16 : Int32) &&& 31).toUInt32).toInt32)), (.int (w_length_a1 + (1 : Int32))), (.ref w_bytes_a1)])) _
    refine XS.i2b X16.here hx rfl (hb hby d3_33) rfl ?_
    show Steps p.tables e below (T16.setTop (mkF m 34 #[.val (.ref a1), .val (.int p2)] [(.int (((p2.toUInt32 >>> ((16 : Int32) &&& 31).toUInt32).toInt32).toInt8.toInt32)), (.int (w_length_a1 + (1 : Int32))), (.ref w_bytes_a1)])) _
    refine st18 _ ?_
    show Steps p.tables e below (T18.setTop (mkF m 35 #[.val (.ref a1), .val (.int p2)] [])) _
    refine XS.aloadN X18.here hx rfl (hb hby d3_35) rfl rfl ?_
    show Steps p.tables e below (T18.setTop (mkF m 36 #[.val (.ref a1), .val (.int p2)] [(.ref a1)])) _
    refine st27 _ ?_
    show Steps p.tables e below (T27.setTop (mkF m 39 #[.val (.ref a1), .val (.int p2)] [(.ref w_bytes_a1)])) _
    refine XS.aloadN X27.here hx rfl (hb hby d3_39) rfl rfl ?_
    show Steps p.tables e below (T27.setTop (mkF m 40 #[.val (.ref a1), .val (.int p2)] [(.ref a1), (.ref w_bytes_a1)])) _
    refine st28 _ ?_
    show Steps p.tables e below (T28.setTop (mkF m 43 #[.val (.ref a1), .val (.int p2)] [(.int w_length_a1), (.ref w_bytes_a1)])) _
    refine XS.iconst X28.here hx rfl (hb hby d3_43) ?_
    show Steps p.tables e below (T28.setTop (mkF m 44 #[.val (.ref a1), .val (.int p2)] [(.int (2 : Int32)), (.int w_length_a1), (.ref w_bytes_a1)])) _
    refine XS.iadd X28.here hx rfl (hb hby d3_44) rfl ?_
    show Steps p.tables e below (T28.setTop (mkF m 45 #[.val (.ref a1), .val (.int p2)] [(.int (w_length_a1 + (2 : Int32))), (.ref w_bytes_a1)])) _
    refine XS.iloadN X28.here hx rfl (hb hby d3_45) rfl ?_
    show Steps p.tables e below (T28.setTop (mkF m 46 #[.val (.ref a1), .val (.int p2)] [(.int p2), (.int (w_length_a1 + (2 : Int32))), (.ref w_bytes_a1)])) _
    refine XS.bipush X28.here hx rfl (hb hby d3_46) ?_
    show Steps p.tables e below (T28.setTop (mkF m 48 #[.val (.ref a1), .val (.int p2)] [(.int (8 : Int32)), (.int p2), (.int (w_length_a1 + (2 : Int32))), (.ref w_bytes_a1)])) _
    refine XS.iushr X28.here hx rfl (hb hby d3_48) rfl ?_
    show Steps p.tables e below (T28.setTop (mkF m 49 #[.val (.ref a1), .val (.int p2)] [(.int ((p2.toUInt32 >>> ((8 : Int32) &&& 31).toUInt32).toInt32)), (.int (w_length_a1 + (2 : Int32))), (.ref w_bytes_a1)])) _
    refine XS.i2b X28.here hx rfl (hb hby d3_49) rfl ?_
    show Steps p.tables e below (T28.setTop (mkF m 50 #[.val (.ref a1), .val (.int p2)] [(.int (((p2.toUInt32 >>> ((8 : Int32) &&& 31).toUInt32).toInt32).toInt8.toInt32)), (.int (w_length_a1 + (2 : Int32))), (.ref w_bytes_a1)])) _
    refine st30 _ ?_
    show Steps p.tables e below (T30.setTop (mkF m 51 #[.val (.ref a1), .val (.int p2)] [])) _
    refine XS.aloadN X30.here hx rfl (hb hby d3_51) rfl rfl ?_
    show Steps p.tables e below (T30.setTop (mkF m 52 #[.val (.ref a1), .val (.int p2)] [(.ref a1)])) _
    refine st39 _ ?_
    show Steps p.tables e below (T39.setTop (mkF m 55 #[.val (.ref a1), .val (.int p2)] [(.ref w_bytes_a1)])) _
    refine XS.aloadN X39.here hx rfl (hb hby d3_55) rfl rfl ?_
    show Steps p.tables e below (T39.setTop (mkF m 56 #[.val (.ref a1), .val (.int p2)] [(.ref a1), (.ref w_bytes_a1)])) _
    refine st40 _ ?_
    show Steps p.tables e below (T40.setTop (mkF m 59 #[.val (.ref a1), .val (.int p2)] [(.int w_length_a1), (.ref w_bytes_a1)])) _
    refine XS.iconst X40.here hx rfl (hb hby d3_59) ?_
    show Steps p.tables e below (T40.setTop (mkF m 60 #[.val (.ref a1), .val (.int p2)] [(.int (3 : Int32)), (.int w_length_a1), (.ref w_bytes_a1)])) _
    refine XS.iadd X40.here hx rfl (hb hby d3_60) rfl ?_
    show Steps p.tables e below (T40.setTop (mkF m 61 #[.val (.ref a1), .val (.int p2)] [(.int (w_length_a1 + (3 : Int32))), (.ref w_bytes_a1)])) _
    refine XS.iloadN X40.here hx rfl (hb hby d3_61) rfl ?_
    show Steps p.tables e below (T40.setTop (mkF m 62 #[.val (.ref a1), .val (.int p2)] [(.int p2), (.int (w_length_a1 + (3 : Int32))), (.ref w_bytes_a1)])) _
    refine XS.i2b X40.here hx rfl (hb hby d3_62) rfl ?_
    show Steps p.tables e below (T40.setTop (mkF m 63 #[.val (.ref a1), .val (.int p2)] [(.int (p2.toInt8.toInt32)), (.int (w_length_a1 + (3 : Int32))), (.ref w_bytes_a1)])) _
    refine st42 _ ?_
    show Steps p.tables e below (T42.setTop (mkF m 64 #[.val (.ref a1), .val (.int p2)] [])) _
    refine XS.aloadN X42.here hx rfl (hb hby d3_64) rfl rfl ?_
    show Steps p.tables e below (T42.setTop (mkF m 65 #[.val (.ref a1), .val (.int p2)] [(.ref a1)])) _
    refine XS.dup X42.here hx rfl (hb hby d3_65) rfl rfl ?_
    show Steps p.tables e below (T42.setTop (mkF m 66 #[.val (.ref a1), .val (.int p2)] [(.ref a1), (.ref a1)])) _
    refine st51 _ ?_
    show Steps p.tables e below (T51.setTop (mkF m 69 #[.val (.ref a1), .val (.int p2)] [(.int w_length_a1), (.ref a1)])) _
    refine XS.iconst X51.here hx rfl (hb hby d3_69) ?_
    show Steps p.tables e below (T51.setTop (mkF m 70 #[.val (.ref a1), .val (.int p2)] [(.int (4 : Int32)), (.int w_length_a1), (.ref a1)])) _
    refine XS.iadd X51.here hx rfl (hb hby d3_70) rfl ?_
    show Steps p.tables e below (T51.setTop (mkF m 71 #[.val (.ref a1), .val (.int p2)] [(.int (w_length_a1 + (4 : Int32))), (.ref a1)])) _
    refine st52 _ ?_
    show Steps p.tables e below (T52.setTop (mkF m 74 #[.val (.ref a1), .val (.int p2)] [])) _
    exact X52.returnOut hx Bd.returns (hb hby d3_74) hr
  · show Q_u4F Z a1 p2 w_bytes_a1 k_w_bytes_a1 n_w_bytes_a1 vs_w_bytes_a1 w_length_a1 h0 n0 _ T52.heap _
    rw [e52]
    exact ⟨rfl, N59, K58, f54, f55, f53, f56, f57⟩
theorem d1_0 : decode prog_1_method_1_code 0 = .ok (.aload_n 0, 1) := by decide +kernel
theorem d1_1 : decode prog_1_method_1_code 1 = .ok (.invokespecial 1, 3) := by decide +kernel
theorem d1_4 : decode prog_1_method_1_code 4 = .ok (.aload_n 0, 1) := by decide +kernel
theorem d1_5 : decode prog_1_method_1_code 5 = .ok (.iload_n 1, 1) := by decide +kernel
theorem d1_6 : decode prog_1_method_1_code 6 = .ok (.newarray .byte, 2) := by decide +kernel
theorem d1_8 : decode prog_1_method_1_code 8 = .ok (.putfield 7, 3) := by decide +kernel
theorem d1_11 : decode prog_1_method_1_code 11 = .ok (.return_, 1) := by decide +kernel
theorem ef_1_RI (m : MethodId) (x0 : Addr) (x1 : Int32) : entryFrame m #[(.ref x0), (.int x1)] 2 = mkF m 0 #[.val (.ref x0), .val (.int x1)] [] := by first | (simp [entryFrame, mkF, argsToLocals, Value.category]; done) | rfl
def Q_init (Z : State) (a1 : Addr) (p2 : Int32) (h0 : Heap) (n0 : Nat) (v : Option Value) (h : Heap) (L : List Loc) : Prop := ∃ (o1 : Addr), ∃ (ko1 : ClassId), v = none ∧ Fr n0 L ∧ n0 ≤ o1 ∧ h0.size ≤ o1 ∧ Keep h0 h [a1] ∧ Exa Z h a1 "com/example/herald/herald/bytecode/Bytes" ∧ Fld Z h a1 "com/example/herald/herald/bytecode/Bytes" "bytes" "[B" (.ref o1) ∧ Fld Z h a1 "com/example/herald/herald/bytecode/Bytes" "length" "I" (.int (0 : Int32)) ∧ Exa Z h o1 "[B" ∧ Arv Z h o1 ko1 .byte p2 (List.replicate 16 (Value.int (0 : Int32))) (.int (0 : Int32))
set_option maxRecDepth 65536 in
set_option maxHeartbeats 40000000 in
theorem rm_init (l : Launch) (Z : State) (a0 : Array Value) (hw : ∀ d ∈ tables_1, d.before a0 Z = true) (ws : List Jvm.Cond) (a1 : Addr) (p2 : Int32) (h0 : Heap) (n0 : Nat) (Z0 : n0 ≤ h0.size) (E_a1 : Exa Z h0 a1 "com/example/herald/herald/bytecode/Bytes") (F_bytes_a1 : Fld Z h0 a1 "com/example/herald/herald/bytecode/Bytes" "bytes" "[B" .null) (g_a1 : n0 ≤ a1) (F_length_a1 : Fld Z h0 a1 "com/example/herald/herald/bytecode/Bytes" "length" "I" (.int (0 : Int32))) (hp0 : ¬ (p2 < (0 : Int32))) (hp1 : p2.toNatClampNeg ≤ 15) :
    MetFree l (⟨"com/example/herald/herald/bytecode/Bytes", "<init>", "(I)V"⟩ : MethodName) (head1 (Jvm.Cond.code (⟨"com/example/herald/herald/bytecode/Bytes", "<init>", "(I)V"⟩ : MethodName) prog_1_method_1_code 2 none :: ws) ({ frames := 1, cells := 1, slots := 15, locals := 12 } : Room)) (fun a U => a = #[(.ref a1), (.int p2)] ∧ Z.Warmed39 U.vm ∧ U.heap = h0) (fun _ _ _ _ _ => True) (fun _ U o U' => ∃ v L, o = .returned v ∧ Q_init Z a1 p2 h0 n0 v U'.heap L ∧ FrameEnd U o U' L ({ frames := 1, cells := 1, slots := 15, locals := 12 } : Room).cells ({ frames := 1, cells := 1, slots := 15, locals := 12 } : Room).slots) := by
  refine MetFree.of_bodySF (plainFor_of_name pn_com_example_herald_herald_bytecode_Bytes) hisR ?_
  intro p e s m args below meth c s₁ Bd hml0 hP hK
  obtain ⟨rfl, hZ, hh⟩ := hP
  have hx := Bd.exec
  have hby := Bd.bytes
  have hml : c.maxLocals = 2 := hml0
  have hown : s.vm.findClass "com/example/herald/herald/bytecode/Bytes" = some m.cls := findClass_of_methodNamed Bd.named
  have hnm := (name_of_methodNamed Bd.named Bd.method).1
  have X0 : Stand p l e ({ frames := 1, cells := 1, slots := 15, locals := 12 } : Room) s m #[(.ref a1), (.int p2)] below meth c s₁ [] 0 0 := Stand.of_body Bd
  have e0 : s₁.heap = h0 := by rw [← hh, Bd.state]; rfl
  have N0 := Fr.nil n0
  have pre0 : ∀ t, Steps p.tables e below (s₁.setTop (mkF m 0 #[.val (.ref a1), .val (.int p2)] [])) t → Steps p.tables e below (s₁.setTop (entryFrame m #[(.ref a1), (.int p2)] 2)) t := fun t k => castTop (ef_1_RI m a1 p2) k
  obtain ⟨T1, X1, e1, st1⟩ := initO X0 hx hZ hown (hw _ (List.mem_of_getElem? (i := 6) rfl)) (hw _ (List.mem_of_getElem? (i := 7) rfl)) (hw _ (List.mem_of_getElem? (i := 8) rfl)) e0 (g := (mkF m 1 #[.val (.ref a1), .val (.int p2)] [(.ref a1)])) rfl (by rw [hml]; rfl) rfl (hb hby d1_1) (by decide) (W := 0) (by show 2 * 0 + _ ≤ _; exact Nat.le_of_eq rfl) (by decide)
  obtain ⟨T2, h2, k2, X2, e2, E2, A2, Ex2, st2⟩ := newPE X1 hx hZ (hw _ (List.mem_of_getElem? (i := 9) rfl)) e1 (g := (mkF m 6 #[.val (.ref a1), .val (.int p2)] [(.int p2), (.ref a1)])) rfl (hb hby d1_6) rfl hp0 (cap := 15) hp1 (by decide) (by decide) (by decide) (ad := "[B") (by decide)
  obtain ⟨b2, g2⟩ : ∃ z, z = h0.size := ⟨_, rfl⟩
  rw [← g2] at A2 Ex2 st2
  have g_b2 : n0 ≤ b2 := Nat.le_trans Z0 (Nat.le_of_eq g2.symm)
  have sz_b2 : h0.size ≤ b2 := Nat.le_trans (Keep.refl h0 [a1]).1 (Nat.le_of_eq g2.symm)
  have ne_a1_b2 : a1 ≠ b2 := Nat.ne_of_lt (Nat.lt_of_lt_of_le E_a1.lt (Nat.le_of_eq g2.symm))
  have f3 : Exa Z h2 a1 "com/example/herald/herald/bytecode/Bytes" := E_a1.ext E2
  have f4 : Fld Z h2 a1 "com/example/herald/herald/bytecode/Bytes" "bytes" "[B" .null := F_bytes_a1.ext E2
  have f5 : Fld Z h2 a1 "com/example/herald/herald/bytecode/Bytes" "length" "I" (.int (0 : Int32)) := F_length_a1.ext E2
  have K6 : Keep h0 h2 [a1] := (Keep.refl h0 [a1]).ext E2
  have Zs7 : n0 ≤ h2.size := Nat.le_trans Z0 E2.1
  have f8 : Arv Z h2 b2 k2 .byte p2 (List.replicate 16 (Value.int (0 : Int32))) (.int (0 : Int32)) := (Arv.new A2 hp0).pad (pad_rep [] (.int (0 : Int32)) 16)
  obtain ⟨T9, h9, X9, e9, W9, st9⟩ := putF X2 hx hZ hown (host := "") (Or.inl (hw _ (List.mem_of_getElem? (i := 10) rfl))) Via.refl e2 f4 f3 (Or.inl (hw _ (List.mem_of_getElem? (i := 11) rfl))) (hw _ (List.mem_of_getElem? (i := 1) rfl)) (ty := (.array .byte)) (by decide) rfl rfl (g := (mkF m 8 #[.val (.ref a1), .val (.int p2)] [(.ref b2), (.ref a1)])) rfl rfl (hb hby d1_8)
  have f10 : Exa Z h9 a1 "com/example/herald/herald/bytecode/Bytes" := f3.wr W9
  have f11 : Fld Z h9 a1 "com/example/herald/herald/bytecode/Bytes" "bytes" "[B" (.ref b2) := f4.same W9
  have f12 : Fld Z h9 a1 "com/example/herald/herald/bytecode/Bytes" "length" "I" (.int (0 : Int32)) := f5.other W9 (Or.inr (slot_ne (Or.inl (hw _ (List.mem_of_getElem? (i := 22) rfl))) (Or.inl (hw _ (List.mem_of_getElem? (i := 11) rfl))) (by decide) (t := .int) (t' := (.array .byte)) (by decide) (by decide)))
  have f13 : Exa Z h9 b2 "[B" := Ex2.wr W9
  have f14 : Arv Z h9 b2 k2 .byte p2 (List.replicate 16 (Value.int (0 : Int32))) (.int (0 : Int32)) := f8.other W9 (Ne.symm ne_a1_b2)
  have K15 : Keep h0 h9 [a1] := K6.wr W9 (Or.inl (List.mem_of_getElem? (i := 0) rfl))
  have N16 := Fr.snoc X9 N0 g_a1
  have Zs17 : n0 ≤ h9.size := Nat.le_trans Zs7 (Keep.of_wr W9).1
  obtain ⟨fs, hr, hrun, hended, hW, hsame⟩ := X9.leave (v := none) (fun _ => rfl) Bd.notSynchronized
  refine ⟨_, _, pre0 _ ?_, hrun, hended, _, _, rfl, ?_, ⟨_, rfl⟩, hW, hsame.mono (by decide) (by decide)⟩
  · show Steps p.tables e below (s₁.setTop (mkF m 0 #[.val (.ref a1), .val (.int p2)] [])) _
    refine XS.aloadN X0.here hx rfl (hb hby d1_0) rfl rfl ?_
    show Steps p.tables e below (s₁.setTop (mkF m 1 #[.val (.ref a1), .val (.int p2)] [(.ref a1)])) _
    refine st1 _ ?_
    show Steps p.tables e below (T1.setTop (mkF m 4 #[.val (.ref a1), .val (.int p2)] [])) _
    refine XS.aloadN X1.here hx rfl (hb hby d1_4) rfl rfl ?_
    show Steps p.tables e below (T1.setTop (mkF m 5 #[.val (.ref a1), .val (.int p2)] [(.ref a1)])) _
    refine XS.iloadN X1.here hx rfl (hb hby d1_5) rfl ?_
    show Steps p.tables e below (T1.setTop (mkF m 6 #[.val (.ref a1), .val (.int p2)] [(.int p2), (.ref a1)])) _
    refine st2 _ ?_
    show Steps p.tables e below (T2.setTop (mkF m 8 #[.val (.ref a1), .val (.int p2)] [(.ref b2), (.ref a1)])) _
    refine st9 _ ?_
    show Steps p.tables e below (T9.setTop (mkF m 11 #[.val (.ref a1), .val (.int p2)] [])) _
    exact X9.returnOut hx Bd.returns (hb hby d1_11) hr
  · show Q_init Z a1 p2 h0 n0 _ T9.heap _
    rw [e9]
    exact ⟨b2, k2, rfl, N16, g_b2, sz_b2, K15, f10, f11, f12, f13, f14⟩
def own_B (s n : Int32) (vs : List Value) : Prop := 0 ≤ s.toInt ∧ s.toInt ≤ n.toInt ∧ n.toInt ≤ 15 ∧ vs.length = 16 ∧ own_Z vs n
def Q_u4 (Z : State) (a1 : Addr) (p2 : Int32) (w_bytes_a1 : Addr) (k_w_bytes_a1 : ClassId) (n_w_bytes_a1 : Int32) (vs_w_bytes_a1 : List Value) (w_length_a1 : Int32) (h0 : Heap) (n0 : Nat) (v : Option Value) (h : Heap) (L : List Loc) : Prop := ∃ (o1 : Addr), ∃ (ko1 : ClassId), ∃ (no1 : Int32), v = none ∧ Fr n0 L ∧ n0 ≤ o1 ∧ own_B (w_length_a1 + (4 : Int32)) no1 ((((vs_w_bytes_a1.set w_length_a1.toNatClampNeg (.int ((((p2.toUInt32 >>> ((24 : Int32) &&& 31).toUInt32).toInt32).toInt8.toInt32).toInt8.toInt32))).set (w_length_a1 + (1 : Int32)).toNatClampNeg (.int ((((p2.toUInt32 >>> ((16 : Int32) &&& 31).toUInt32).toInt32).toInt8.toInt32).toInt8.toInt32))).set (w_length_a1 + (2 : Int32)).toNatClampNeg (.int ((((p2.toUInt32 >>> ((8 : Int32) &&& 31).toUInt32).toInt32).toInt8.toInt32).toInt8.toInt32))).set (w_length_a1 + (3 : Int32)).toNatClampNeg (.int ((p2.toInt8.toInt32).toInt8.toInt32))) ∧ Keep h0 h [a1, w_bytes_a1] ∧ Exa Z h a1 "com/example/herald/herald/bytecode/Bytes" ∧ Fld Z h a1 "com/example/herald/herald/bytecode/Bytes" "bytes" "[B" (.ref o1) ∧ Fld Z h a1 "com/example/herald/herald/bytecode/Bytes" "length" "I" (.int (w_length_a1 + (4 : Int32))) ∧ Exa Z h o1 "[B" ∧ Arv Z h o1 ko1 .byte no1 ((((vs_w_bytes_a1.set w_length_a1.toNatClampNeg (.int ((((p2.toUInt32 >>> ((24 : Int32) &&& 31).toUInt32).toInt32).toInt8.toInt32).toInt8.toInt32))).set (w_length_a1 + (1 : Int32)).toNatClampNeg (.int ((((p2.toUInt32 >>> ((16 : Int32) &&& 31).toUInt32).toInt32).toInt8.toInt32).toInt8.toInt32))).set (w_length_a1 + (2 : Int32)).toNatClampNeg (.int ((((p2.toUInt32 >>> ((8 : Int32) &&& 31).toUInt32).toInt32).toInt8.toInt32).toInt8.toInt32))).set (w_length_a1 + (3 : Int32)).toNatClampNeg (.int ((p2.toInt8.toInt32).toInt8.toInt32))) (.int (0 : Int32))
set_option maxRecDepth 65536 in
set_option maxHeartbeats 40000000 in
theorem rm_u4 (l : Launch) (Z : State) (a0 : Array Value) (hw : ∀ d ∈ tables_1, d.before a0 Z = true) (ws : List Jvm.Cond) (a1 : Addr) (p2 : Int32) (w_bytes_a1 : Addr) (k_w_bytes_a1 : ClassId) (n_w_bytes_a1 : Int32) (vs_w_bytes_a1 : List Value) (w_length_a1 : Int32) (h0 : Heap) (n0 : Nat) (Z0 : n0 ≤ h0.size) (F_bytes_a1 : Fld Z h0 a1 "com/example/herald/herald/bytecode/Bytes" "bytes" "[B" (.ref w_bytes_a1)) (E_w_bytes_a1 : Exa Z h0 w_bytes_a1 "[B") (V_w_bytes_a1 : Arv Z h0 w_bytes_a1 k_w_bytes_a1 .byte n_w_bytes_a1 vs_w_bytes_a1 (.int (0 : Int32))) (F_length_a1 : Fld Z h0 a1 "com/example/herald/herald/bytecode/Bytes" "length" "I" (.int w_length_a1)) (E_a1 : Exa Z h0 a1 "com/example/herald/herald/bytecode/Bytes") (g_a1 : n0 ≤ a1) (g_w_bytes_a1 : n0 ≤ w_bytes_a1) (hB : own_B w_length_a1 n_w_bytes_a1 vs_w_bytes_a1) (hs : w_length_a1.toInt ≤ 4) :
    MetFree l (⟨"com/example/herald/herald/bytecode/Bytes", "u4", "(I)V"⟩ : MethodName) (head1 (Jvm.Cond.code (⟨"com/example/herald/herald/bytecode/Bytes", "u4", "(I)V"⟩ : MethodName) prog_1_method_5_code 2 none :: ws) ({ frames := 3, cells := 1, slots := 14, locals := 46 } : Room)) (fun a U => a = #[(.ref a1), (.int p2)] ∧ Z.Warmed39 U.vm ∧ U.heap = h0) (fun _ _ _ _ _ => True) (fun _ U o U' => ∃ v L, o = .returned v ∧ Q_u4 Z a1 p2 w_bytes_a1 k_w_bytes_a1 n_w_bytes_a1 vs_w_bytes_a1 w_length_a1 h0 n0 v U'.heap L ∧ FrameEnd U o U' L ({ frames := 3, cells := 1, slots := 14, locals := 46 } : Room).cells ({ frames := 3, cells := 1, slots := 14, locals := 46 } : Room).slots) := by
  obtain ⟨b1, b2, b3, b4, b5⟩ := hB
  have z0 : (0 : Int32).toInt = 0 := by decide
  have z1 : (1 : Int32).toInt = 1 := by decide
  have z2 : (2 : Int32).toInt = 2 := by decide
  have z3 : (3 : Int32).toInt = 3 := by decide
  have z4 : (4 : Int32).toInt = 4 := by decide
  have e2 := c_imul n_w_bytes_a1 2
  have r2 := rng32 (n_w_bytes_a1 * 2)
  rw [z2] at e2
  have v2 : (n_w_bytes_a1 * 2).toInt = n_w_bytes_a1.toInt * 2 := by omega
  have e3 := c_iadd w_length_a1 1
  have r3 := rng32 (w_length_a1 + 1)
  have e4 := c_iadd w_length_a1 2
  have r4 := rng32 (w_length_a1 + 2)
  have e5 := c_iadd w_length_a1 3
  have r5 := rng32 (w_length_a1 + 3)
  have e6 := c_iadd w_length_a1 4
  have r6 := rng32 (w_length_a1 + 4)
  have w1 : (w_length_a1 + 1).toInt = w_length_a1.toInt + 1 := by omega
  have w2 : (w_length_a1 + 2).toInt = w_length_a1.toInt + 2 := by omega
  have w3 : (w_length_a1 + 3).toInt = w_length_a1.toInt + 3 := by omega
  have w4 : (w_length_a1 + 4).toInt = w_length_a1.toInt + 4 := by omega
  clear e2 r2 e3 r3 e4 r4 e5 r5 e6 r6
  have ne : a1 ≠ w_bytes_a1 := ne_exa E_a1 E_w_bytes_a1 (by decide)
  by_cases c : n_w_bytes_a1 < (w_length_a1 + (4 : Int32))
  · have c' := own_lt32.mp c
    by_cases d : (n_w_bytes_a1 * (2 : Int32)) < (w_length_a1 + (4 : Int32))
    · have d' := own_lt32.mp d
      refine own_mono (rm_u4R l Z a0 hw ws a1 p2 w_bytes_a1 k_w_bytes_a1 n_w_bytes_a1 vs_w_bytes_a1 w_length_a1 h0 n0 Z0 F_bytes_a1 E_w_bytes_a1 V_w_bytes_a1 F_length_a1 E_a1 g_a1 g_w_bytes_a1 (by first | assumption | (rw [own_lt32]; omega) | (intro q; rw [own_lt32] at q; omega) | (intro q; have q' := congrArg Int32.toInt q; omega) | (simp only [Int32.toNatClampNeg]; omega) | (simp only [Int32.toNatClampNeg, List.length_set, List.length_replicate]; omega)) (by first | assumption | (rw [own_lt32]; omega) | (intro q; rw [own_lt32] at q; omega) | (intro q; have q' := congrArg Int32.toInt q; omega) | (simp only [Int32.toNatClampNeg]; omega) | (simp only [Int32.toNatClampNeg, List.length_set, List.length_replicate]; omega)) (by first | assumption | (rw [own_lt32]; omega) | (intro q; rw [own_lt32] at q; omega) | (intro q; have q' := congrArg Int32.toInt q; omega) | (simp only [Int32.toNatClampNeg]; omega) | (simp only [Int32.toNatClampNeg, List.length_set, List.length_replicate]; omega)) (by first | assumption | (rw [own_lt32]; omega) | (intro q; rw [own_lt32] at q; omega) | (intro q; have q' := congrArg Int32.toInt q; omega) | (simp only [Int32.toNatClampNeg]; omega) | (simp only [Int32.toNatClampNeg, List.length_set, List.length_replicate]; omega)) (by first | assumption | (rw [own_lt32]; omega) | (intro q; rw [own_lt32] at q; omega) | (intro q; have q' := congrArg Int32.toInt q; omega) | (simp only [Int32.toNatClampNeg]; omega) | (simp only [Int32.toNatClampNeg, List.length_set, List.length_replicate]; omega)) (by first | assumption | (rw [own_lt32]; omega) | (intro q; rw [own_lt32] at q; omega) | (intro q; have q' := congrArg Int32.toInt q; omega) | (simp only [Int32.toNatClampNeg]; omega) | (simp only [Int32.toNatClampNeg, List.length_set, List.length_replicate]; omega)) (by first | assumption | (rw [own_lt32]; omega) | (intro q; rw [own_lt32] at q; omega) | (intro q; have q' := congrArg Int32.toInt q; omega) | (simp only [Int32.toNatClampNeg]; omega) | (simp only [Int32.toNatClampNeg, List.length_set, List.length_replicate]; omega)) (by first | assumption | (rw [own_lt32]; omega) | (intro q; rw [own_lt32] at q; omega) | (intro q; have q' := congrArg Int32.toInt q; omega) | (simp only [Int32.toNatClampNeg]; omega) | (simp only [Int32.toNatClampNeg, List.length_set, List.length_replicate]; omega)) (by first | assumption | (rw [own_lt32]; omega) | (intro q; rw [own_lt32] at q; omega) | (intro q; have q' := congrArg Int32.toInt q; omega) | (simp only [Int32.toNatClampNeg]; omega) | (simp only [Int32.toNatClampNeg, List.length_set, List.length_replicate]; omega)) (by first | assumption | (rw [own_lt32]; omega) | (intro q; rw [own_lt32] at q; omega) | (intro q; have q' := congrArg Int32.toInt q; omega) | (simp only [Int32.toNatClampNeg]; omega) | (simp only [Int32.toNatClampNeg, List.length_set, List.length_replicate]; omega)) (by first | assumption | (rw [own_lt32]; omega) | (intro q; rw [own_lt32] at q; omega) | (intro q; have q' := congrArg Int32.toInt q; omega) | (simp only [Int32.toNatClampNeg]; omega) | (simp only [Int32.toNatClampNeg, List.length_set, List.length_replicate]; omega)) (by first | assumption | (rw [own_lt32]; omega) | (intro q; rw [own_lt32] at q; omega) | (intro q; have q' := congrArg Int32.toInt q; omega) | (simp only [Int32.toNatClampNeg]; omega) | (simp only [Int32.toNatClampNeg, List.length_set, List.length_replicate]; omega)) (by first | assumption | (rw [own_lt32]; omega) | (intro q; rw [own_lt32] at q; omega) | (intro q; have q' := congrArg Int32.toInt q; omega) | (simp only [Int32.toNatClampNeg]; omega) | (simp only [Int32.toNatClampNeg, List.length_set, List.length_replicate]; omega)) (by first | assumption | (rw [own_lt32]; omega) | (intro q; rw [own_lt32] at q; omega) | (intro q; have q' := congrArg Int32.toInt q; omega) | (simp only [Int32.toNatClampNeg]; omega) | (simp only [Int32.toNatClampNeg, List.length_set, List.length_replicate]; omega)) (by first | assumption | (rw [own_lt32]; omega) | (intro q; rw [own_lt32] at q; omega) | (intro q; have q' := congrArg Int32.toInt q; omega) | (simp only [Int32.toNatClampNeg]; omega) | (simp only [Int32.toNatClampNeg, List.length_set, List.length_replicate]; omega)) (by first | assumption | (rw [own_lt32]; omega) | (intro q; rw [own_lt32] at q; omega) | (intro q; have q' := congrArg Int32.toInt q; omega) | (simp only [Int32.toNatClampNeg]; omega) | (simp only [Int32.toNatClampNeg, List.length_set, List.length_replicate]; omega)) (by first | assumption | (rw [own_lt32]; omega) | (intro q; rw [own_lt32] at q; omega) | (intro q; have q' := congrArg Int32.toInt q; omega) | (simp only [Int32.toNatClampNeg]; omega) | (simp only [Int32.toNatClampNeg, List.length_set, List.length_replicate]; omega)) (by first | assumption | (rw [own_lt32]; omega) | (intro q; rw [own_lt32] at q; omega) | (intro q; have q' := congrArg Int32.toInt q; omega) | (simp only [Int32.toNatClampNeg]; omega) | (simp only [Int32.toNatClampNeg, List.length_set, List.length_replicate]; omega)) (by first | assumption | (rw [own_lt32]; omega) | (intro q; rw [own_lt32] at q; omega) | (intro q; have q' := congrArg Int32.toInt q; omega) | (simp only [Int32.toNatClampNeg]; omega) | (simp only [Int32.toNatClampNeg, List.length_set, List.length_replicate]; omega)) (by first | assumption | (rw [own_lt32]; omega) | (intro q; rw [own_lt32] at q; omega) | (intro q; have q' := congrArg Int32.toInt q; omega) | (simp only [Int32.toNatClampNeg]; omega) | (simp only [Int32.toNatClampNeg, List.length_set, List.length_replicate]; omega)) (by first | assumption | (rw [own_lt32]; omega) | (intro q; rw [own_lt32] at q; omega) | (intro q; have q' := congrArg Int32.toInt q; omega) | (simp only [Int32.toNatClampNeg]; omega) | (simp only [Int32.toNatClampNeg, List.length_set, List.length_replicate]; omega)) (by first | assumption | (rw [own_lt32]; omega) | (intro q; rw [own_lt32] at q; omega) | (intro q; have q' := congrArg Int32.toInt q; omega) | (simp only [Int32.toNatClampNeg]; omega) | (simp only [Int32.toNatClampNeg, List.length_set, List.length_replicate]; omega)) (by first | assumption | (rw [own_lt32]; omega) | (intro q; rw [own_lt32] at q; omega) | (intro q; have q' := congrArg Int32.toInt q; omega) | (simp only [Int32.toNatClampNeg]; omega) | (simp only [Int32.toNatClampNeg, List.length_set, List.length_replicate]; omega)) (by first | assumption | (rw [own_lt32]; omega) | (intro q; rw [own_lt32] at q; omega) | (intro q; have q' := congrArg Int32.toInt q; omega) | (simp only [Int32.toNatClampNeg]; omega) | (simp only [Int32.toNatClampNeg, List.length_set, List.length_replicate]; omega))) (fun _ _ _ _ q => ?_)
      obtain ⟨v, L, ho, ⟨o1, ko1, hv, N, g, sz, K, f1, f2, f3, f4, f5⟩, hf⟩ := q
      exact ⟨v, L, ho, ⟨o1, ko1, _, hv, N, g, ⟨by omega, by omega, by omega, by simpa using b4, own_Z_set (own_Z_set (own_Z_set (own_Z_set b5 (by simp only [Int32.toNatClampNeg]; omega) (by simp only [Int32.toNatClampNeg]; omega)) (Nat.le_refl _) (by simp only [Int32.toNatClampNeg]; omega)) (Nat.le_refl _) (by simp only [Int32.toNatClampNeg]; omega)) (Nat.le_refl _) (by simp only [Int32.toNatClampNeg]; omega)⟩, own_keep K, f3, f1, f2, f4, f5⟩, hf⟩
    · have d' : ¬ (n_w_bytes_a1 * (2 : Int32)).toInt < (w_length_a1 + (4 : Int32)).toInt := fun q => d (own_lt32.mpr q)
      refine own_mono (rm_u4L l Z a0 hw ws a1 p2 w_bytes_a1 k_w_bytes_a1 n_w_bytes_a1 vs_w_bytes_a1 w_length_a1 h0 n0 Z0 F_bytes_a1 E_w_bytes_a1 V_w_bytes_a1 F_length_a1 E_a1 g_a1 g_w_bytes_a1 (by first | assumption | (rw [own_lt32]; omega) | (intro q; rw [own_lt32] at q; omega) | (intro q; have q' := congrArg Int32.toInt q; omega) | (simp only [Int32.toNatClampNeg]; omega) | (simp only [Int32.toNatClampNeg, List.length_set, List.length_replicate]; omega)) (by first | assumption | (rw [own_lt32]; omega) | (intro q; rw [own_lt32] at q; omega) | (intro q; have q' := congrArg Int32.toInt q; omega) | (simp only [Int32.toNatClampNeg]; omega) | (simp only [Int32.toNatClampNeg, List.length_set, List.length_replicate]; omega)) (by first | assumption | (rw [own_lt32]; omega) | (intro q; rw [own_lt32] at q; omega) | (intro q; have q' := congrArg Int32.toInt q; omega) | (simp only [Int32.toNatClampNeg]; omega) | (simp only [Int32.toNatClampNeg, List.length_set, List.length_replicate]; omega)) (by first | assumption | (rw [own_lt32]; omega) | (intro q; rw [own_lt32] at q; omega) | (intro q; have q' := congrArg Int32.toInt q; omega) | (simp only [Int32.toNatClampNeg]; omega) | (simp only [Int32.toNatClampNeg, List.length_set, List.length_replicate]; omega)) (by first | assumption | (rw [own_lt32]; omega) | (intro q; rw [own_lt32] at q; omega) | (intro q; have q' := congrArg Int32.toInt q; omega) | (simp only [Int32.toNatClampNeg]; omega) | (simp only [Int32.toNatClampNeg, List.length_set, List.length_replicate]; omega)) (by first | assumption | (rw [own_lt32]; omega) | (intro q; rw [own_lt32] at q; omega) | (intro q; have q' := congrArg Int32.toInt q; omega) | (simp only [Int32.toNatClampNeg]; omega) | (simp only [Int32.toNatClampNeg, List.length_set, List.length_replicate]; omega)) (by first | assumption | (rw [own_lt32]; omega) | (intro q; rw [own_lt32] at q; omega) | (intro q; have q' := congrArg Int32.toInt q; omega) | (simp only [Int32.toNatClampNeg]; omega) | (simp only [Int32.toNatClampNeg, List.length_set, List.length_replicate]; omega)) (by first | assumption | (rw [own_lt32]; omega) | (intro q; rw [own_lt32] at q; omega) | (intro q; have q' := congrArg Int32.toInt q; omega) | (simp only [Int32.toNatClampNeg]; omega) | (simp only [Int32.toNatClampNeg, List.length_set, List.length_replicate]; omega)) (by first | assumption | (rw [own_lt32]; omega) | (intro q; rw [own_lt32] at q; omega) | (intro q; have q' := congrArg Int32.toInt q; omega) | (simp only [Int32.toNatClampNeg]; omega) | (simp only [Int32.toNatClampNeg, List.length_set, List.length_replicate]; omega)) (by first | assumption | (rw [own_lt32]; omega) | (intro q; rw [own_lt32] at q; omega) | (intro q; have q' := congrArg Int32.toInt q; omega) | (simp only [Int32.toNatClampNeg]; omega) | (simp only [Int32.toNatClampNeg, List.length_set, List.length_replicate]; omega)) (by first | assumption | (rw [own_lt32]; omega) | (intro q; rw [own_lt32] at q; omega) | (intro q; have q' := congrArg Int32.toInt q; omega) | (simp only [Int32.toNatClampNeg]; omega) | (simp only [Int32.toNatClampNeg, List.length_set, List.length_replicate]; omega)) (by first | assumption | (rw [own_lt32]; omega) | (intro q; rw [own_lt32] at q; omega) | (intro q; have q' := congrArg Int32.toInt q; omega) | (simp only [Int32.toNatClampNeg]; omega) | (simp only [Int32.toNatClampNeg, List.length_set, List.length_replicate]; omega)) (by first | assumption | (rw [own_lt32]; omega) | (intro q; rw [own_lt32] at q; omega) | (intro q; have q' := congrArg Int32.toInt q; omega) | (simp only [Int32.toNatClampNeg]; omega) | (simp only [Int32.toNatClampNeg, List.length_set, List.length_replicate]; omega)) (by first | assumption | (rw [own_lt32]; omega) | (intro q; rw [own_lt32] at q; omega) | (intro q; have q' := congrArg Int32.toInt q; omega) | (simp only [Int32.toNatClampNeg]; omega) | (simp only [Int32.toNatClampNeg, List.length_set, List.length_replicate]; omega)) (by first | assumption | (rw [own_lt32]; omega) | (intro q; rw [own_lt32] at q; omega) | (intro q; have q' := congrArg Int32.toInt q; omega) | (simp only [Int32.toNatClampNeg]; omega) | (simp only [Int32.toNatClampNeg, List.length_set, List.length_replicate]; omega)) (by first | assumption | (rw [own_lt32]; omega) | (intro q; rw [own_lt32] at q; omega) | (intro q; have q' := congrArg Int32.toInt q; omega) | (simp only [Int32.toNatClampNeg]; omega) | (simp only [Int32.toNatClampNeg, List.length_set, List.length_replicate]; omega)) (by first | assumption | (rw [own_lt32]; omega) | (intro q; rw [own_lt32] at q; omega) | (intro q; have q' := congrArg Int32.toInt q; omega) | (simp only [Int32.toNatClampNeg]; omega) | (simp only [Int32.toNatClampNeg, List.length_set, List.length_replicate]; omega)) (by first | assumption | (rw [own_lt32]; omega) | (intro q; rw [own_lt32] at q; omega) | (intro q; have q' := congrArg Int32.toInt q; omega) | (simp only [Int32.toNatClampNeg]; omega) | (simp only [Int32.toNatClampNeg, List.length_set, List.length_replicate]; omega)) (by first | assumption | (rw [own_lt32]; omega) | (intro q; rw [own_lt32] at q; omega) | (intro q; have q' := congrArg Int32.toInt q; omega) | (simp only [Int32.toNatClampNeg]; omega) | (simp only [Int32.toNatClampNeg, List.length_set, List.length_replicate]; omega)) (by first | assumption | (rw [own_lt32]; omega) | (intro q; rw [own_lt32] at q; omega) | (intro q; have q' := congrArg Int32.toInt q; omega) | (simp only [Int32.toNatClampNeg]; omega) | (simp only [Int32.toNatClampNeg, List.length_set, List.length_replicate]; omega)) (by first | assumption | (rw [own_lt32]; omega) | (intro q; rw [own_lt32] at q; omega) | (intro q; have q' := congrArg Int32.toInt q; omega) | (simp only [Int32.toNatClampNeg]; omega) | (simp only [Int32.toNatClampNeg, List.length_set, List.length_replicate]; omega)) (by first | assumption | (rw [own_lt32]; omega) | (intro q; rw [own_lt32] at q; omega) | (intro q; have q' := congrArg Int32.toInt q; omega) | (simp only [Int32.toNatClampNeg]; omega) | (simp only [Int32.toNatClampNeg, List.length_set, List.length_replicate]; omega)) (by first | assumption | (rw [own_lt32]; omega) | (intro q; rw [own_lt32] at q; omega) | (intro q; have q' := congrArg Int32.toInt q; omega) | (simp only [Int32.toNatClampNeg]; omega) | (simp only [Int32.toNatClampNeg, List.length_set, List.length_replicate]; omega)) (by first | assumption | (rw [own_lt32]; omega) | (intro q; rw [own_lt32] at q; omega) | (intro q; have q' := congrArg Int32.toInt q; omega) | (simp only [Int32.toNatClampNeg]; omega) | (simp only [Int32.toNatClampNeg, List.length_set, List.length_replicate]; omega))) (fun _ _ _ _ q => ?_)
      obtain ⟨v, L, ho, ⟨o1, ko1, hv, N, g, sz, K, f1, f2, f3, f4, f5⟩, hf⟩ := q
      exact ⟨v, L, ho, ⟨o1, ko1, _, hv, N, g, ⟨by omega, by omega, by omega, by simpa using b4, own_Z_set (own_Z_set (own_Z_set (own_Z_set b5 (by simp only [Int32.toNatClampNeg]; omega) (by simp only [Int32.toNatClampNeg]; omega)) (Nat.le_refl _) (by simp only [Int32.toNatClampNeg]; omega)) (Nat.le_refl _) (by simp only [Int32.toNatClampNeg]; omega)) (Nat.le_refl _) (by simp only [Int32.toNatClampNeg]; omega)⟩, own_keep K, f3, f1, f2, f4, f5⟩, hf⟩
  · have c' : ¬ n_w_bytes_a1.toInt < (w_length_a1 + (4 : Int32)).toInt := fun q => c (own_lt32.mpr q)
    refine own_mono (rm_u4F l Z a0 hw ws a1 p2 w_bytes_a1 k_w_bytes_a1 n_w_bytes_a1 vs_w_bytes_a1 w_length_a1 h0 n0 Z0 F_bytes_a1 E_w_bytes_a1 V_w_bytes_a1 F_length_a1 E_a1 g_a1 g_w_bytes_a1 (by first | assumption | (rw [own_lt32]; omega) | (intro q; rw [own_lt32] at q; omega) | (intro q; have q' := congrArg Int32.toInt q; omega) | (simp only [Int32.toNatClampNeg]; omega) | (simp only [Int32.toNatClampNeg, List.length_set, List.length_replicate]; omega)) (by first | assumption | (rw [own_lt32]; omega) | (intro q; rw [own_lt32] at q; omega) | (intro q; have q' := congrArg Int32.toInt q; omega) | (simp only [Int32.toNatClampNeg]; omega) | (simp only [Int32.toNatClampNeg, List.length_set, List.length_replicate]; omega)) (by first | assumption | (rw [own_lt32]; omega) | (intro q; rw [own_lt32] at q; omega) | (intro q; have q' := congrArg Int32.toInt q; omega) | (simp only [Int32.toNatClampNeg]; omega) | (simp only [Int32.toNatClampNeg, List.length_set, List.length_replicate]; omega)) (by first | assumption | (rw [own_lt32]; omega) | (intro q; rw [own_lt32] at q; omega) | (intro q; have q' := congrArg Int32.toInt q; omega) | (simp only [Int32.toNatClampNeg]; omega) | (simp only [Int32.toNatClampNeg, List.length_set, List.length_replicate]; omega)) (by first | assumption | (rw [own_lt32]; omega) | (intro q; rw [own_lt32] at q; omega) | (intro q; have q' := congrArg Int32.toInt q; omega) | (simp only [Int32.toNatClampNeg]; omega) | (simp only [Int32.toNatClampNeg, List.length_set, List.length_replicate]; omega)) (by first | assumption | (rw [own_lt32]; omega) | (intro q; rw [own_lt32] at q; omega) | (intro q; have q' := congrArg Int32.toInt q; omega) | (simp only [Int32.toNatClampNeg]; omega) | (simp only [Int32.toNatClampNeg, List.length_set, List.length_replicate]; omega)) (by first | assumption | (rw [own_lt32]; omega) | (intro q; rw [own_lt32] at q; omega) | (intro q; have q' := congrArg Int32.toInt q; omega) | (simp only [Int32.toNatClampNeg]; omega) | (simp only [Int32.toNatClampNeg, List.length_set, List.length_replicate]; omega)) (by first | assumption | (rw [own_lt32]; omega) | (intro q; rw [own_lt32] at q; omega) | (intro q; have q' := congrArg Int32.toInt q; omega) | (simp only [Int32.toNatClampNeg]; omega) | (simp only [Int32.toNatClampNeg, List.length_set, List.length_replicate]; omega)) (by first | assumption | (rw [own_lt32]; omega) | (intro q; rw [own_lt32] at q; omega) | (intro q; have q' := congrArg Int32.toInt q; omega) | (simp only [Int32.toNatClampNeg]; omega) | (simp only [Int32.toNatClampNeg, List.length_set, List.length_replicate]; omega)) (by first | assumption | (rw [own_lt32]; omega) | (intro q; rw [own_lt32] at q; omega) | (intro q; have q' := congrArg Int32.toInt q; omega) | (simp only [Int32.toNatClampNeg]; omega) | (simp only [Int32.toNatClampNeg, List.length_set, List.length_replicate]; omega)) (by first | assumption | (rw [own_lt32]; omega) | (intro q; rw [own_lt32] at q; omega) | (intro q; have q' := congrArg Int32.toInt q; omega) | (simp only [Int32.toNatClampNeg]; omega) | (simp only [Int32.toNatClampNeg, List.length_set, List.length_replicate]; omega)) (by first | assumption | (rw [own_lt32]; omega) | (intro q; rw [own_lt32] at q; omega) | (intro q; have q' := congrArg Int32.toInt q; omega) | (simp only [Int32.toNatClampNeg]; omega) | (simp only [Int32.toNatClampNeg, List.length_set, List.length_replicate]; omega)) (by first | assumption | (rw [own_lt32]; omega) | (intro q; rw [own_lt32] at q; omega) | (intro q; have q' := congrArg Int32.toInt q; omega) | (simp only [Int32.toNatClampNeg]; omega) | (simp only [Int32.toNatClampNeg, List.length_set, List.length_replicate]; omega))) (fun _ _ _ _ q => ?_)
    obtain ⟨v, L, ho, ⟨hv, N, K, f1, f2, f3, f4, f5⟩, hf⟩ := q
    exact ⟨v, L, ho, ⟨_, _, _, hv, N, g_w_bytes_a1, ⟨by omega, by omega, by omega, by simpa using b4, own_Z_set (own_Z_set (own_Z_set (own_Z_set b5 (by simp only [Int32.toNatClampNeg]; omega) (by simp only [Int32.toNatClampNeg]; omega)) (Nat.le_refl _) (by simp only [Int32.toNatClampNeg]; omega)) (Nat.le_refl _) (by simp only [Int32.toNatClampNeg]; omega)) (Nat.le_refl _) (by simp only [Int32.toNatClampNeg]; omega)⟩, own_keep2 K, f5, f3, f4, f1, f2⟩, hf⟩
theorem d8_0 : decode prog_1_method_9_code 0 = .ok (.aload_n 0, 1) := by decide +kernel
theorem d8_1 : decode prog_1_method_9_code 1 = .ok (.getfield 7, 3) := by decide +kernel
theorem d8_4 : decode prog_1_method_9_code 4 = .ok (.iload_n 1, 1) := by decide +kernel
theorem d8_5 : decode prog_1_method_9_code 5 = .ok (.iload_n 2, 1) := by decide +kernel
theorem d8_6 : decode prog_1_method_9_code 6 = .ok (.bipush 24, 2) := by decide +kernel
theorem d8_8 : decode prog_1_method_9_code 8 = .ok (.iushr, 1) := by decide +kernel
theorem d8_9 : decode prog_1_method_9_code 9 = .ok (.i2b, 1) := by decide +kernel
theorem d8_10 : decode prog_1_method_9_code 10 = .ok (.bastore, 1) := by decide +kernel
theorem d8_11 : decode prog_1_method_9_code 11 = .ok (.aload_n 0, 1) := by decide +kernel
theorem d8_12 : decode prog_1_method_9_code 12 = .ok (.getfield 7, 3) := by decide +kernel
theorem d8_15 : decode prog_1_method_9_code 15 = .ok (.iload_n 1, 1) := by decide +kernel
theorem d8_16 : decode prog_1_method_9_code 16 = .ok (.iconst 1, 1) := by decide +kernel
theorem d8_17 : decode prog_1_method_9_code 17 = .ok (.iadd, 1) := by decide +kernel
theorem d8_18 : decode prog_1_method_9_code 18 = .ok (.iload_n 2, 1) := by decide +kernel
theorem d8_19 : decode prog_1_method_9_code 19 = .ok (.bipush 16, 2) := by decide +kernel
theorem d8_21 : decode prog_1_method_9_code 21 = .ok (.iushr, 1) := by decide +kernel
theorem d8_22 : decode prog_1_method_9_code 22 = .ok (.i2b, 1) := by decide +kernel
theorem d8_23 : decode prog_1_method_9_code 23 = .ok (.bastore, 1) := by decide +kernel
theorem d8_24 : decode prog_1_method_9_code 24 = .ok (.aload_n 0, 1) := by decide +kernel
theorem d8_25 : decode prog_1_method_9_code 25 = .ok (.getfield 7, 3) := by decide +kernel
theorem d8_28 : decode prog_1_method_9_code 28 = .ok (.iload_n 1, 1) := by decide +kernel
theorem d8_29 : decode prog_1_method_9_code 29 = .ok (.iconst 2, 1) := by decide +kernel
theorem d8_30 : decode prog_1_method_9_code 30 = .ok (.iadd, 1) := by decide +kernel
theorem d8_31 : decode prog_1_method_9_code 31 = .ok (.iload_n 2, 1) := by decide +kernel
theorem d8_32 : decode prog_1_method_9_code 32 = .ok (.bipush 8, 2) := by decide +kernel
theorem d8_34 : decode prog_1_method_9_code 34 = .ok (.iushr, 1) := by decide +kernel
theorem d8_35 : decode prog_1_method_9_code 35 = .ok (.i2b, 1) := by decide +kernel
theorem d8_36 : decode prog_1_method_9_code 36 = .ok (.bastore, 1) := by decide +kernel
theorem d8_37 : decode prog_1_method_9_code 37 = .ok (.aload_n 0, 1) := by decide +kernel
theorem d8_38 : decode prog_1_method_9_code 38 = .ok (.getfield 7, 3) := by decide +kernel
theorem d8_41 : decode prog_1_method_9_code 41 = .ok (.iload_n 1, 1) := by decide +kernel
theorem d8_42 : decode prog_1_method_9_code 42 = .ok (.iconst 3, 1) := by decide +kernel
theorem d8_43 : decode prog_1_method_9_code 43 = .ok (.iadd, 1) := by decide +kernel
theorem d8_44 : decode prog_1_method_9_code 44 = .ok (.iload_n 2, 1) := by decide +kernel
theorem d8_45 : decode prog_1_method_9_code 45 = .ok (.i2b, 1) := by decide +kernel
theorem d8_46 : decode prog_1_method_9_code 46 = .ok (.bastore, 1) := by decide +kernel
theorem d8_47 : decode prog_1_method_9_code 47 = .ok (.return_, 1) := by decide +kernel
theorem ef_8_RII (m : MethodId) (x0 : Addr) (x1 : Int32) (x2 : Int32) : entryFrame m #[(.ref x0), (.int x1), (.int x2)] 3 = mkF m 0 #[.val (.ref x0), .val (.int x1), .val (.int x2)] [] := by first | (simp [entryFrame, mkF, argsToLocals, Value.category]; done) | rfl
def Q_put0 (Z : State) (a1 : Addr) (p2 : Int32) (p3 : Int32) (w_bytes_a1 : Addr) (k_w_bytes_a1 : ClassId) (n_w_bytes_a1 : Int32) (vs_w_bytes_a1 : List Value) (h0 : Heap) (n0 : Nat) (v : Option Value) (h : Heap) (L : List Loc) : Prop := v = none ∧ Fr n0 L ∧ Keep h0 h [w_bytes_a1] ∧ Exa Z h w_bytes_a1 "[B" ∧ Arv Z h w_bytes_a1 k_w_bytes_a1 .byte n_w_bytes_a1 ((((vs_w_bytes_a1.set p2.toNatClampNeg (.int ((((p3.toUInt32 >>> ((24 : Int32) &&& 31).toUInt32).toInt32).toInt8.toInt32).toInt8.toInt32))).set (p2 + (1 : Int32)).toNatClampNeg (.int ((((p3.toUInt32 >>> ((16 : Int32) &&& 31).toUInt32).toInt32).toInt8.toInt32).toInt8.toInt32))).set (p2 + (2 : Int32)).toNatClampNeg (.int ((((p3.toUInt32 >>> ((8 : Int32) &&& 31).toUInt32).toInt32).toInt8.toInt32).toInt8.toInt32))).set (p2 + (3 : Int32)).toNatClampNeg (.int ((p3.toInt8.toInt32).toInt8.toInt32))) (.int (0 : Int32))
set_option maxRecDepth 65536 in
set_option maxHeartbeats 40000000 in
theorem rm_put0 (l : Launch) (Z : State) (a0 : Array Value) (hw : ∀ d ∈ tables_1, d.before a0 Z = true) (ws : List Jvm.Cond) (a1 : Addr) (p2 : Int32) (p3 : Int32) (w_bytes_a1 : Addr) (k_w_bytes_a1 : ClassId) (n_w_bytes_a1 : Int32) (vs_w_bytes_a1 : List Value) (h0 : Heap) (n0 : Nat) (Z0 : n0 ≤ h0.size) (F_bytes_a1 : Fld Z h0 a1 "com/example/herald/herald/bytecode/Bytes" "bytes" "[B" (.ref w_bytes_a1)) (E_w_bytes_a1 : Exa Z h0 w_bytes_a1 "[B") (V_w_bytes_a1 : Arv Z h0 w_bytes_a1 k_w_bytes_a1 .byte n_w_bytes_a1 vs_w_bytes_a1 (.int (0 : Int32))) (E_a1 : Exa Z h0 a1 "com/example/herald/herald/bytecode/Bytes") (g_a1 : n0 ≤ a1) (g_w_bytes_a1 : n0 ≤ w_bytes_a1) (hp0 : ¬ (p2 < (0 : Int32))) (hp1 : p2 < n_w_bytes_a1) (hp2 : p2.toNatClampNeg < vs_w_bytes_a1.length) (hp3 : ¬ ((p2 + (1 : Int32)) < (0 : Int32))) (hp4 : (p2 + (1 : Int32)) < n_w_bytes_a1) (hp5 : (p2 + (1 : Int32)).toNatClampNeg < (vs_w_bytes_a1.set p2.toNatClampNeg (.int ((((p3.toUInt32 >>> ((24 : Int32) &&& 31).toUInt32).toInt32).toInt8.toInt32).toInt8.toInt32))).length) (hp6 : ¬ ((p2 + (2 : Int32)) < (0 : Int32))) (hp7 : (p2 + (2 : Int32)) < n_w_bytes_a1) (hp8 : (p2 + (2 : Int32)).toNatClampNeg < ((vs_w_bytes_a1.set p2.toNatClampNeg (.int ((((p3.toUInt32 >>> ((24 : Int32) &&& 31).toUInt32).toInt32).toInt8.toInt32).toInt8.toInt32))).set (p2 + (1 : Int32)).toNatClampNeg (.int ((((p3.toUInt32 >>> ((16 : Int32) &&& 31).toUInt32).toInt32).toInt8.toInt32).toInt8.toInt32))).length) (hp9 : ¬ ((p2 + (3 : Int32)) < (0 : Int32))) (hp10 : (p2 + (3 : Int32)) < n_w_bytes_a1) (hp11 : (p2 + (3 : Int32)).toNatClampNeg < (((vs_w_bytes_a1.set p2.toNatClampNeg (.int ((((p3.toUInt32 >>> ((24 : Int32) &&& 31).toUInt32).toInt32).toInt8.toInt32).toInt8.toInt32))).set (p2 + (1 : Int32)).toNatClampNeg (.int ((((p3.toUInt32 >>> ((16 : Int32) &&& 31).toUInt32).toInt32).toInt8.toInt32).toInt8.toInt32))).set (p2 + (2 : Int32)).toNatClampNeg (.int ((((p3.toUInt32 >>> ((8 : Int32) &&& 31).toUInt32).toInt32).toInt8.toInt32).toInt8.toInt32))).length) :
    MetFree l (⟨"com/example/herald/herald/bytecode/Bytes", "putU4", "(II)V"⟩ : MethodName) (head1 (Jvm.Cond.code (⟨"com/example/herald/herald/bytecode/Bytes", "putU4", "(II)V"⟩ : MethodName) prog_1_method_9_code 3 none :: ws) ({ frames := 0, cells := 0, slots := 0, locals := 0 } : Room)) (fun a U => a = #[(.ref a1), (.int p2), (.int p3)] ∧ Z.Warmed39 U.vm ∧ U.heap = h0) (fun _ _ _ _ _ => True) (fun _ U o U' => ∃ v L, o = .returned v ∧ Q_put0 Z a1 p2 p3 w_bytes_a1 k_w_bytes_a1 n_w_bytes_a1 vs_w_bytes_a1 h0 n0 v U'.heap L ∧ FrameEnd U o U' L ({ frames := 0, cells := 0, slots := 0, locals := 0 } : Room).cells ({ frames := 0, cells := 0, slots := 0, locals := 0 } : Room).slots) := by
  refine MetFree.of_bodySF (plainFor_of_name pn_com_example_herald_herald_bytecode_Bytes) hisR ?_
  intro p e s m args below meth c s₁ Bd hml0 hP hK
  obtain ⟨rfl, hZ, hh⟩ := hP
  have hx := Bd.exec
  have hby := Bd.bytes
  have hml : c.maxLocals = 3 := hml0
  have hown : s.vm.findClass "com/example/herald/herald/bytecode/Bytes" = some m.cls := findClass_of_methodNamed Bd.named
  have hnm := (name_of_methodNamed Bd.named Bd.method).1
  have X0 : Stand p l e ({ frames := 0, cells := 0, slots := 0, locals := 0 } : Room) s m #[(.ref a1), (.int p2), (.int p3)] below meth c s₁ [] 0 0 := Stand.of_body Bd
  have e0 : s₁.heap = h0 := by rw [← hh, Bd.state]; rfl
  have N0 := Fr.nil n0
  have pre0 : ∀ t, Steps p.tables e below (s₁.setTop (mkF m 0 #[.val (.ref a1), .val (.int p2), .val (.int p3)] [])) t → Steps p.tables e below (s₁.setTop (entryFrame m #[(.ref a1), (.int p2), (.int p3)] 3)) t := fun t k => castTop (ef_8_RII m a1 p2 p3) k
  obtain ⟨T1, X1, e1, st1⟩ := getF X0 hx hZ hown (host := "") (Or.inl (hw _ (List.mem_of_getElem? (i := 10) rfl))) Via.refl e0 F_bytes_a1 (g := (mkF m 1 #[.val (.ref a1), .val (.int p2), .val (.int p3)] [(.ref a1)])) rfl rfl (hb hby d8_1)
  obtain ⟨clo2, Aro2, qo2, So2, No2, Ho2, Go2⟩ := id V_w_bytes_a1
  have hino2 : ¬ (p2 < 0 ∨ clo2.slots.size ≤ (p2).toNatClampNeg) := inb_of So2 ⟨hp0, hp1⟩
  obtain ⟨T3, h3, X3, e3, W3, st3⟩ := stB X1 hx hZ e1 Aro2 (j := p2) hino2 (g := (mkF m 10 #[.val (.ref a1), .val (.int p2), .val (.int p3)] [(.int (((p3.toUInt32 >>> ((24 : Int32) &&& 31).toUInt32).toInt32).toInt8.toInt32)), (.int p2), (.ref w_bytes_a1)])) rfl rfl (hb hby d8_10)
  have f4 : Arv Z h3 w_bytes_a1 k_w_bytes_a1 .byte n_w_bytes_a1 (vs_w_bytes_a1.set p2.toNatClampNeg (.int ((((p3.toUInt32 >>> ((24 : Int32) &&& 31).toUInt32).toInt32).toInt8.toInt32).toInt8.toInt32))) (.int (0 : Int32)) := Arv.set Aro2 qo2 So2 No2 Ho2 Go2 (fits_nar_byte _) W3 _ rfl hp2
  have ne_w_bytes_a1_a1 : w_bytes_a1 ≠ a1 := ne_exa E_w_bytes_a1 E_a1 (by decide)
  have f5 : Fld Z h3 a1 "com/example/herald/herald/bytecode/Bytes" "bytes" "[B" (.ref w_bytes_a1) := F_bytes_a1.other W3 (Or.inl (Ne.symm ne_w_bytes_a1_a1))
  have f6 : Exa Z h3 w_bytes_a1 "[B" := E_w_bytes_a1.wr W3
  have f7 : Exa Z h3 a1 "com/example/herald/herald/bytecode/Bytes" := E_a1.wr W3
  have K8 : Keep h0 h3 [w_bytes_a1] := (Keep.refl h0 [w_bytes_a1]).wr W3 (Or.inl (List.mem_of_getElem? (i := 0) rfl))
  have N9 := Fr.snoc X3 N0 g_w_bytes_a1
  have Zs10 : n0 ≤ h3.size := Nat.le_trans Z0 (Keep.of_wr W3).1
  obtain ⟨T11, X11, e11, st11⟩ := getF X3 hx hZ hown (host := "") (Or.inl (hw _ (List.mem_of_getElem? (i := 10) rfl))) Via.refl e3 f5 (g := (mkF m 12 #[.val (.ref a1), .val (.int p2), .val (.int p3)] [(.ref a1)])) rfl rfl (hb hby d8_12)
  obtain ⟨clo12, Aro12, qo12, So12, No12, Ho12, Go12⟩ := id f4
  have hino12 : ¬ ((p2 + (1 : Int32)) < 0 ∨ clo12.slots.size ≤ ((p2 + (1 : Int32))).toNatClampNeg) := inb_of So12 ⟨hp3, hp4⟩
  obtain ⟨T13, h13, X13, e13, W13, st13⟩ := stB X11 hx hZ e11 Aro12 (j := (p2 + (1 : Int32))) hino12 (g := (mkF m 23 #[.val (.ref a1), .val (.int p2), .val (.int p3)] [(.int (((p3.toUInt32 >>> ((16 : Int32) &&& 31).toUInt32).toInt32).toInt8.toInt32)), (.int (p2 + (1 : Int32))), (.ref w_bytes_a1)])) rfl rfl (hb hby d8_23)
  have f14 : Arv Z h13 w_bytes_a1 k_w_bytes_a1 .byte n_w_bytes_a1 ((vs_w_bytes_a1.set p2.toNatClampNeg (.int ((((p3.toUInt32 >>> ((24 : Int32) &&& 31).toUInt32).toInt32).toInt8.toInt32).toInt8.toInt32))).set (p2 + (1 : Int32)).toNatClampNeg (.int ((((p3.toUInt32 >>> ((16 : Int32) &&& 31).toUInt32).toInt32).toInt8.toInt32).toInt8.toInt32))) (.int (0 : Int32)) := Arv.set Aro12 qo12 So12 No12 Ho12 Go12 (fits_nar_byte _) W13 _ rfl hp5
  have f15 : Fld Z h13 a1 "com/example/herald/herald/bytecode/Bytes" "bytes" "[B" (.ref w_bytes_a1) := f5.other W13 (Or.inl (Ne.symm ne_w_bytes_a1_a1))
  have f16 : Exa Z h13 w_bytes_a1 "[B" := f6.wr W13
  have f17 : Exa Z h13 a1 "com/example/herald/herald/bytecode/Bytes" := f7.wr W13
  have K18 : Keep h0 h13 [w_bytes_a1] := K8.wr W13 (Or.inl (List.mem_of_getElem? (i := 0) rfl))
  have N19 := Fr.snoc X13 N9 g_w_bytes_a1
  have Zs20 : n0 ≤ h13.size := Nat.le_trans Zs10 (Keep.of_wr W13).1
  obtain ⟨T21, X21, e21, st21⟩ := getF X13 hx hZ hown (host := "") (Or.inl (hw _ (List.mem_of_getElem? (i := 10) rfl))) Via.refl e13 f15 (g := (mkF m 25 #[.val (.ref a1), .val (.int p2), .val (.int p3)] [(.ref a1)])) rfl rfl (hb hby d8_25)
  obtain ⟨clo22, Aro22, qo22, So22, No22, Ho22, Go22⟩ := id f14
  have hino22 : ¬ ((p2 + (2 : Int32)) < 0 ∨ clo22.slots.size ≤ ((p2 + (2 : Int32))).toNatClampNeg) := inb_of So22 ⟨hp6, hp7⟩
  obtain ⟨T23, h23, X23, e23, W23, st23⟩ := stB X21 hx hZ e21 Aro22 (j := (p2 + (2 : Int32))) hino22 (g := (mkF m 36 #[.val (.ref a1), .val (.int p2), .val (.int p3)] [(.int (((p3.toUInt32 >>> ((8 : Int32) &&& 31).toUInt32).toInt32).toInt8.toInt32)), (.int (p2 + (2 : Int32))), (.ref w_bytes_a1)])) rfl rfl (hb hby d8_36)
  have f24 : Arv Z h23 w_bytes_a1 k_w_bytes_a1 .byte n_w_bytes_a1 (((vs_w_bytes_a1.set p2.toNatClampNeg (.int ((((p3.toUInt32 >>> ((24 : Int32) &&& 31).toUInt32).toInt32).toInt8.toInt32).toInt8.toInt32))).set (p2 + (1 : Int32)).toNatClampNeg (.int ((((p3.toUInt32 >>> ((16 : Int32) &&& 31).toUInt32).toInt32).toInt8.toInt32).toInt8.toInt32))).set (p2 + (2 : Int32)).toNatClampNeg (.int ((((p3.toUInt32 >>> ((8 : Int32) &&& 31).toUInt32).toInt32).toInt8.toInt32).toInt8.toInt32))) (.int (0 : Int32)) := Arv.set Aro22 qo22 So22 No22 Ho22 Go22 (fits_nar_byte _) W23 _ rfl hp8
  have f25 : Fld Z h23 a1 "com/example/herald/herald/bytecode/Bytes" "bytes" "[B" (.ref w_bytes_a1) := f15.other W23 (Or.inl (Ne.symm ne_w_bytes_a1_a1))
  have f26 : Exa Z h23 w_bytes_a1 "[B" := f16.wr W23
  have f27 : Exa Z h23 a1 "com/example/herald/herald/bytecode/Bytes" := f17.wr W23
  have K28 : Keep h0 h23 [w_bytes_a1] := K18.wr W23 (Or.inl (List.mem_of_getElem? (i := 0) rfl))
  have N29 := Fr.snoc X23 N19 g_w_bytes_a1
  have Zs30 : n0 ≤ h23.size := Nat.le_trans Zs20 (Keep.of_wr W23).1
  obtain ⟨T31, X31, e31, st31⟩ := getF X23 hx hZ hown (host := "") (Or.inl (hw _ (List.mem_of_getElem? (i := 10) rfl))) Via.refl e23 f25 (g := (mkF m 38 #[.val (.ref a1), .val (.int p2), .val (.int p3)] [(.ref a1)])) rfl rfl (hb hby d8_38)
  obtain ⟨clo32, Aro32, qo32, So32, No32, Ho32, Go32⟩ := id f24
  have hino32 : ¬ ((p2 + (3 : Int32)) < 0 ∨ clo32.slots.size ≤ ((p2 + (3 : Int32))).toNatClampNeg) := inb_of So32 ⟨hp9, hp10⟩
  obtain ⟨T33, h33, X33, e33, W33, st33⟩ := stB X31 hx hZ e31 Aro32 (j := (p2 + (3 : Int32))) hino32 (g := (mkF m 46 #[.val (.ref a1), .val (.int p2), .val (.int p3)] [(.int (p3.toInt8.toInt32)), (.int (p2 + (3 : Int32))), (.ref w_bytes_a1)])) rfl rfl (hb hby d8_46)
  have f34 : Arv Z h33 w_bytes_a1 k_w_bytes_a1 .byte n_w_bytes_a1 ((((vs_w_bytes_a1.set p2.toNatClampNeg (.int ((((p3.toUInt32 >>> ((24 : Int32) &&& 31).toUInt32).toInt32).toInt8.toInt32).toInt8.toInt32))).set (p2 + (1 : Int32)).toNatClampNeg (.int ((((p3.toUInt32 >>> ((16 : Int32) &&& 31).toUInt32).toInt32).toInt8.toInt32).toInt8.toInt32))).set (p2 + (2 : Int32)).toNatClampNeg (.int ((((p3.toUInt32 >>> ((8 : Int32) &&& 31).toUInt32).toInt32).toInt8.toInt32).toInt8.toInt32))).set (p2 + (3 : Int32)).toNatClampNeg (.int ((p3.toInt8.toInt32).toInt8.toInt32))) (.int (0 : Int32)) := Arv.set Aro32 qo32 So32 No32 Ho32 Go32 (fits_nar_byte _) W33 _ rfl hp11
  have f35 : Fld Z h33 a1 "com/example/herald/herald/bytecode/Bytes" "bytes" "[B" (.ref w_bytes_a1) := f25.other W33 (Or.inl (Ne.symm ne_w_bytes_a1_a1))
  have f36 : Exa Z h33 w_bytes_a1 "[B" := f26.wr W33
  have f37 : Exa Z h33 a1 "com/example/herald/herald/bytecode/Bytes" := f27.wr W33
  have K38 : Keep h0 h33 [w_bytes_a1] := K28.wr W33 (Or.inl (List.mem_of_getElem? (i := 0) rfl))
  have N39 := Fr.snoc X33 N29 g_w_bytes_a1
  have Zs40 : n0 ≤ h33.size := Nat.le_trans Zs30 (Keep.of_wr W33).1
  obtain ⟨fs, hr, hrun, hended, hW, hsame⟩ := X33.leave (v := none) (fun _ => rfl) Bd.notSynchronized
  refine ⟨_, _, pre0 _ ?_, hrun, hended, _, _, rfl, ?_, ⟨_, rfl⟩, hW, hsame.mono (by decide) (by decide)⟩
  · show Steps p.tables e below (s₁.setTop (mkF m 0 #[.val (.ref a1), .val (.int p2), .val (.int p3)] [])) _
    refine XS.aloadN X0.here hx rfl (hb hby d8_0) rfl rfl ?_
    show Steps p.tables e below (s₁.setTop (mkF m 1 #[.val (.ref a1), .val (.int p2), .val (.int p3)] [(.ref a1)])) _
    refine st1 _ ?_
    show Steps p.tables e below (T1.setTop (mkF m 4 #[.val (.ref a1), .val (.int p2), .val (.int p3)] [(.ref w_bytes_a1)])) _
    refine XS.iloadN X1.here hx rfl (hb hby d8_4) rfl ?_
    show Steps p.tables e below (T1.setTop (mkF m 5 #[.val (.ref a1), .val (.int p2), .val (.int p3)] [(.int p2), (.ref w_bytes_a1)])) _
    refine XS.iloadN X1.here hx rfl (hb hby d8_5) rfl ?_
    show Steps p.tables e below (T1.setTop (mkF m 6 #[.val (.ref a1), .val (.int p2), .val (.int p3)] [(.int p3), (.int p2), (.ref w_bytes_a1)])) _
    refine XS.bipush X1.here hx rfl (hb hby d8_6) ?_
    show Steps p.tables e below (T1.setTop (mkF m 8 #[.val (.ref a1), .val (.int p2), .val (.int p3)] [(.int (24 : Int32)), (.int p3), (.int p2), (.ref w_bytes_a1)])) _
    refine XS.iushr X1.here hx rfl (hb hby d8_8) rfl ?_
    show Steps p.tables e below (T1.setTop (mkF m 9 #[.val (.ref a1), .val (.int p2), .val (.int p3)] [(.int ((p3.toUInt32 >>> ((24 : Int32) &&& 31).toUInt32).toInt32)), (.int p2), (.ref w_bytes_a1)])) _
    refine XS.i2b X1.here hx rfl (hb hby d8_9) rfl ?_
    show Steps p.tables e below (T1.setTop (mkF m 10 #[.val (.ref a1), .val (.int p2), .val (.int p3)] [(.int (((p3.toUInt32 >>> ((24 : Int32) &&& 31).toUInt32).toInt32).toInt8.toInt32)), (.int p2), (.ref w_bytes_a1)])) _
    refine st3 _ ?_
    show Steps p.tables e below (T3.setTop (mkF m 11 #[.val (.ref a1), .val (.int p2), .val (.int p3)] [])) _
    refine XS.aloadN X3.here hx rfl (hb hby d8_11) rfl rfl ?_
    show Steps p.tables e below (T3.setTop (mkF m 12 #[.val (.ref a1), .val (.int p2), .val (.int p3)] [(.ref a1)])) _
    refine st11 _ ?_
    show Steps p.tables e below (T11.setTop (mkF m 15 #[.val (.ref a1), .val (.int p2), .val (.int p3)] [(.ref w_bytes_a1)])) _
    refine XS.iloadN X11.here hx rfl (hb hby d8_15) rfl ?_
    show Steps p.tables e below (T11.setTop (mkF m 16 #[.val (.ref a1), .val (.int p2), .val (.int p3)] [(.int p2), (.ref w_bytes_a1)])) _
    refine XS.iconst X11.here hx rfl (hb hby d8_16) ?_
    show Steps p.tables e below (T11.setTop (mkF m 17 #[.val (.ref a1), .val (.int p2), .val (.int p3)] [(.int (1 : Int32)), (.int p2), (.ref w_bytes_a1)])) _
    refine XS.iadd X11.here hx rfl (hb hby d8_17) rfl ?_
    show Steps p.tables e below (T11.setTop (mkF m 18 #[.val (.ref a1), .val (.int p2), .val (.int p3)] [(.int (p2 + (1 : Int32))), (.ref w_bytes_a1)])) _
    refine XS.iloadN X11.here hx rfl (hb hby d8_18) rfl ?_
    show Steps p.tables e below (T11.setTop (mkF m 19 #[.val (.ref a1), .val (.int p2), .val (.int p3)] [(.int p3), (.int (p2 + (1 : Int32))), (.ref w_bytes_a1)])) _
    refine XS.bipush X11.here hx rfl (hb hby d8_19) ?_
    show Steps p.tables e below (T11.setTop (mkF m 21 #[.val (.ref a1), .val (.int p2), .val (.int p3)] [(.int (16 : Int32)), (.int p3), (.int (p2 + (1 : Int32))), (.ref w_bytes_a1)])) _
    refine XS.iushr X11.here hx rfl (hb hby d8_21) rfl ?_
    show Steps p.tables e below (T11.setTop (mkF m 22 #[.val (.ref a1), .val (.int p2), .val (.int p3)] [(.int ((p3.toUInt32 >>> ((16 : Int32) &&& 31).toUInt32).toInt32)), (.int (p2 + (1 : Int32))), (.ref w_bytes_a1)])) _
    refine XS.i2b X11.here hx rfl (hb hby d8_22) rfl ?_
    show Steps p.tables e below (T11.setTop (mkF m 23 #[.val (.ref a1), .val (.int p2), .val (.int p3)] [(.int (((p3.toUInt32 >>> ((16 : Int32) &&& 31).toUInt32).toInt32).toInt8.toInt32)), (.int (p2 + (1 : Int32))), (.ref w_bytes_a1)])) _
    refine st13 _ ?_
    show Steps p.tables e below (T13.setTop (mkF m 24 #[.val (.ref a1), .val (.int p2), .val (.int p3)] [])) _
    refine XS.aloadN X13.here hx rfl (hb hby d8_24) rfl rfl ?_
    show Steps p.tables e below (T13.setTop (mkF m 25 #[.val (.ref a1), .val (.int p2), .val (.int p3)] [(.ref a1)])) _
    refine st21 _ ?_
    show Steps p.tables e below (T21.setTop (mkF m 28 #[.val (.ref a1), .val (.int p2), .val (.int p3)] [(.ref w_bytes_a1)])) _
    refine XS.iloadN X21.here hx rfl (hb hby d8_28) rfl ?_
    show Steps p.tables e below (T21.setTop (mkF m 29 #[.val (.ref a1), .val (.int p2), .val (.int p3)] [(.int p2), (.ref w_bytes_a1)])) _
    refine XS.iconst X21.here hx rfl (hb hby d8_29) ?_
    show Steps p.tables e below (T21.setTop (mkF m 30 #[.val (.ref a1), .val (.int p2), .val (.int p3)] [(.int (2 : Int32)), (.int p2), (.ref w_bytes_a1)])) _
    refine XS.iadd X21.here hx rfl (hb hby d8_30) rfl ?_
    show Steps p.tables e below (T21.setTop (mkF m 31 #[.val (.ref a1), .val (.int p2), .val (.int p3)] [(.int (p2 + (2 : Int32))), (.ref w_bytes_a1)])) _
    refine XS.iloadN X21.here hx rfl (hb hby d8_31) rfl ?_
    show Steps p.tables e below (T21.setTop (mkF m 32 #[.val (.ref a1), .val (.int p2), .val (.int p3)] [(.int p3), (.int (p2 + (2 : Int32))), (.ref w_bytes_a1)])) _
    refine XS.bipush X21.here hx rfl (hb hby d8_32) ?_
    show Steps p.tables e below (T21.setTop (mkF m 34 #[.val (.ref a1), .val (.int p2), .val (.int p3)] [(.int (8 : Int32)), (.int p3), (.int (p2 + (2 : Int32))), (.ref w_bytes_a1)])) _
    refine XS.iushr X21.here hx rfl (hb hby d8_34) rfl ?_
    show Steps p.tables e below (T21.setTop (mkF m 35 #[.val (.ref a1), .val (.int p2), .val (.int p3)] [(.int ((p3.toUInt32 >>> ((8 : Int32) &&& 31).toUInt32).toInt32)), (.int (p2 + (2 : Int32))), (.ref w_bytes_a1)])) _
    refine XS.i2b X21.here hx rfl (hb hby d8_35) rfl ?_
    show Steps p.tables e below (T21.setTop (mkF m 36 #[.val (.ref a1), .val (.int p2), .val (.int p3)] [(.int (((p3.toUInt32 >>> ((8 : Int32) &&& 31).toUInt32).toInt32).toInt8.toInt32)), (.int (p2 + (2 : Int32))), (.ref w_bytes_a1)])) _
    refine st23 _ ?_
    show Steps p.tables e below (T23.setTop (mkF m 37 #[.val (.ref a1), .val (.int p2), .val (.int p3)] [])) _
    refine XS.aloadN X23.here hx rfl (hb hby d8_37) rfl rfl ?_
    show Steps p.tables e below (T23.setTop (mkF m 38 #[.val (.ref a1), .val (.int p2), .val (.int p3)] [(.ref a1)])) _
    refine st31 _ ?_
    show Steps p.tables e below (T31.setTop (mkF m 41 #[.val (.ref a1), .val (.int p2), .val (.int p3)] [(.ref w_bytes_a1)])) _
    refine XS.iloadN X31.here hx rfl (hb hby d8_41) rfl ?_
    show Steps p.tables e below (T31.setTop (mkF m 42 #[.val (.ref a1), .val (.int p2), .val (.int p3)] [(.int p2), (.ref w_bytes_a1)])) _
    refine XS.iconst X31.here hx rfl (hb hby d8_42) ?_
    show Steps p.tables e below (T31.setTop (mkF m 43 #[.val (.ref a1), .val (.int p2), .val (.int p3)] [(.int (3 : Int32)), (.int p2), (.ref w_bytes_a1)])) _
    refine XS.iadd X31.here hx rfl (hb hby d8_43) rfl ?_
    show Steps p.tables e below (T31.setTop (mkF m 44 #[.val (.ref a1), .val (.int p2), .val (.int p3)] [(.int (p2 + (3 : Int32))), (.ref w_bytes_a1)])) _
    refine XS.iloadN X31.here hx rfl (hb hby d8_44) rfl ?_
    show Steps p.tables e below (T31.setTop (mkF m 45 #[.val (.ref a1), .val (.int p2), .val (.int p3)] [(.int p3), (.int (p2 + (3 : Int32))), (.ref w_bytes_a1)])) _
    refine XS.i2b X31.here hx rfl (hb hby d8_45) rfl ?_
    show Steps p.tables e below (T31.setTop (mkF m 46 #[.val (.ref a1), .val (.int p2), .val (.int p3)] [(.int (p3.toInt8.toInt32)), (.int (p2 + (3 : Int32))), (.ref w_bytes_a1)])) _
    refine st33 _ ?_
    show Steps p.tables e below (T33.setTop (mkF m 47 #[.val (.ref a1), .val (.int p2), .val (.int p3)] [])) _
    exact X33.returnOut hx Bd.returns (hb hby d8_47) hr
  · show Q_put0 Z a1 p2 p3 w_bytes_a1 k_w_bytes_a1 n_w_bytes_a1 vs_w_bytes_a1 h0 n0 _ T33.heap _
    rw [e33]
    exact ⟨rfl, N39, K38, f36, f34⟩
def Q_put (Z : State) (a1 : Addr) (p2 : Int32) (p3 : Int32) (w_bytes_a1 : Addr) (k_w_bytes_a1 : ClassId) (n_w_bytes_a1 : Int32) (vs_w_bytes_a1 : List Value) (h0 : Heap) (n0 : Nat) (v : Option Value) (h : Heap) (L : List Loc) : Prop := v = none ∧ Fr n0 L ∧ own_B (8 : Int32) n_w_bytes_a1 ((((vs_w_bytes_a1.set p2.toNatClampNeg (.int ((((p3.toUInt32 >>> ((24 : Int32) &&& 31).toUInt32).toInt32).toInt8.toInt32).toInt8.toInt32))).set (p2 + (1 : Int32)).toNatClampNeg (.int ((((p3.toUInt32 >>> ((16 : Int32) &&& 31).toUInt32).toInt32).toInt8.toInt32).toInt8.toInt32))).set (p2 + (2 : Int32)).toNatClampNeg (.int ((((p3.toUInt32 >>> ((8 : Int32) &&& 31).toUInt32).toInt32).toInt8.toInt32).toInt8.toInt32))).set (p2 + (3 : Int32)).toNatClampNeg (.int ((p3.toInt8.toInt32).toInt8.toInt32))) ∧ Keep h0 h [w_bytes_a1] ∧ Exa Z h w_bytes_a1 "[B" ∧ Arv Z h w_bytes_a1 k_w_bytes_a1 .byte n_w_bytes_a1 ((((vs_w_bytes_a1.set p2.toNatClampNeg (.int ((((p3.toUInt32 >>> ((24 : Int32) &&& 31).toUInt32).toInt32).toInt8.toInt32).toInt8.toInt32))).set (p2 + (1 : Int32)).toNatClampNeg (.int ((((p3.toUInt32 >>> ((16 : Int32) &&& 31).toUInt32).toInt32).toInt8.toInt32).toInt8.toInt32))).set (p2 + (2 : Int32)).toNatClampNeg (.int ((((p3.toUInt32 >>> ((8 : Int32) &&& 31).toUInt32).toInt32).toInt8.toInt32).toInt8.toInt32))).set (p2 + (3 : Int32)).toNatClampNeg (.int ((p3.toInt8.toInt32).toInt8.toInt32))) (.int (0 : Int32))
set_option maxRecDepth 65536 in
set_option maxHeartbeats 40000000 in
theorem rm_put (l : Launch) (Z : State) (a0 : Array Value) (hw : ∀ d ∈ tables_1, d.before a0 Z = true) (ws : List Jvm.Cond) (a1 : Addr) (p2 : Int32) (p3 : Int32) (w_bytes_a1 : Addr) (k_w_bytes_a1 : ClassId) (n_w_bytes_a1 : Int32) (vs_w_bytes_a1 : List Value) (h0 : Heap) (n0 : Nat) (Z0 : n0 ≤ h0.size) (F_bytes_a1 : Fld Z h0 a1 "com/example/herald/herald/bytecode/Bytes" "bytes" "[B" (.ref w_bytes_a1)) (E_w_bytes_a1 : Exa Z h0 w_bytes_a1 "[B") (V_w_bytes_a1 : Arv Z h0 w_bytes_a1 k_w_bytes_a1 .byte n_w_bytes_a1 vs_w_bytes_a1 (.int (0 : Int32))) (E_a1 : Exa Z h0 a1 "com/example/herald/herald/bytecode/Bytes") (g_a1 : n0 ≤ a1) (g_w_bytes_a1 : n0 ≤ w_bytes_a1) (hB : own_B (8 : Int32) n_w_bytes_a1 vs_w_bytes_a1) (hs : 0 ≤ p2.toInt) (ht : p2.toInt ≤ 4) :
    MetFree l (⟨"com/example/herald/herald/bytecode/Bytes", "putU4", "(II)V"⟩ : MethodName) (head1 (Jvm.Cond.code (⟨"com/example/herald/herald/bytecode/Bytes", "putU4", "(II)V"⟩ : MethodName) prog_1_method_9_code 3 none :: ws) ({ frames := 0, cells := 0, slots := 0, locals := 0 } : Room)) (fun a U => a = #[(.ref a1), (.int p2), (.int p3)] ∧ Z.Warmed39 U.vm ∧ U.heap = h0) (fun _ _ _ _ _ => True) (fun _ U o U' => ∃ v L, o = .returned v ∧ Q_put Z a1 p2 p3 w_bytes_a1 k_w_bytes_a1 n_w_bytes_a1 vs_w_bytes_a1 h0 n0 v U'.heap L ∧ FrameEnd U o U' L ({ frames := 0, cells := 0, slots := 0, locals := 0 } : Room).cells ({ frames := 0, cells := 0, slots := 0, locals := 0 } : Room).slots) := by
  obtain ⟨b1, b2, b3, b4, b5⟩ := hB
  have z0 : (0 : Int32).toInt = 0 := by decide
  have z1 : (1 : Int32).toInt = 1 := by decide
  have z2 : (2 : Int32).toInt = 2 := by decide
  have z3 : (3 : Int32).toInt = 3 := by decide
  have z8 : (8 : Int32).toInt = 8 := by decide
  have e3 := c_iadd p2 1
  have r3 := rng32 (p2 + 1)
  have e4 := c_iadd p2 2
  have r4 := rng32 (p2 + 2)
  have e5 := c_iadd p2 3
  have r5 := rng32 (p2 + 3)
  have w1 : (p2 + 1).toInt = p2.toInt + 1 := by omega
  have w2 : (p2 + 2).toInt = p2.toInt + 2 := by omega
  have w3 : (p2 + 3).toInt = p2.toInt + 3 := by omega
  clear e3 r3 e4 r4 e5 r5
  have ne : a1 ≠ w_bytes_a1 := ne_exa E_a1 E_w_bytes_a1 (by decide)
  refine own_mono (rm_put0 l Z a0 hw ws a1 p2 p3 w_bytes_a1 k_w_bytes_a1 n_w_bytes_a1 vs_w_bytes_a1 h0 n0 Z0 F_bytes_a1 E_w_bytes_a1 V_w_bytes_a1 E_a1 g_a1 g_w_bytes_a1 (by first | assumption | (rw [own_lt32]; omega) | (intro q; rw [own_lt32] at q; omega) | (intro q; have q' := congrArg Int32.toInt q; omega) | (simp only [Int32.toNatClampNeg]; omega) | (simp only [Int32.toNatClampNeg, List.length_set, List.length_replicate]; omega)) (by first | assumption | (rw [own_lt32]; omega) | (intro q; rw [own_lt32] at q; omega) | (intro q; have q' := congrArg Int32.toInt q; omega) | (simp only [Int32.toNatClampNeg]; omega) | (simp only [Int32.toNatClampNeg, List.length_set, List.length_replicate]; omega)) (by first | assumption | (rw [own_lt32]; omega) | (intro q; rw [own_lt32] at q; omega) | (intro q; have q' := congrArg Int32.toInt q; omega) | (simp only [Int32.toNatClampNeg]; omega) | (simp only [Int32.toNatClampNeg, List.length_set, List.length_replicate]; omega)) (by first | assumption | (rw [own_lt32]; omega) | (intro q; rw [own_lt32] at q; omega) | (intro q; have q' := congrArg Int32.toInt q; omega) | (simp only [Int32.toNatClampNeg]; omega) | (simp only [Int32.toNatClampNeg, List.length_set, List.length_replicate]; omega)) (by first | assumption | (rw [own_lt32]; omega) | (intro q; rw [own_lt32] at q; omega) | (intro q; have q' := congrArg Int32.toInt q; omega) | (simp only [Int32.toNatClampNeg]; omega) | (simp only [Int32.toNatClampNeg, List.length_set, List.length_replicate]; omega)) (by first | assumption | (rw [own_lt32]; omega) | (intro q; rw [own_lt32] at q; omega) | (intro q; have q' := congrArg Int32.toInt q; omega) | (simp only [Int32.toNatClampNeg]; omega) | (simp only [Int32.toNatClampNeg, List.length_set, List.length_replicate]; omega)) (by first | assumption | (rw [own_lt32]; omega) | (intro q; rw [own_lt32] at q; omega) | (intro q; have q' := congrArg Int32.toInt q; omega) | (simp only [Int32.toNatClampNeg]; omega) | (simp only [Int32.toNatClampNeg, List.length_set, List.length_replicate]; omega)) (by first | assumption | (rw [own_lt32]; omega) | (intro q; rw [own_lt32] at q; omega) | (intro q; have q' := congrArg Int32.toInt q; omega) | (simp only [Int32.toNatClampNeg]; omega) | (simp only [Int32.toNatClampNeg, List.length_set, List.length_replicate]; omega)) (by first | assumption | (rw [own_lt32]; omega) | (intro q; rw [own_lt32] at q; omega) | (intro q; have q' := congrArg Int32.toInt q; omega) | (simp only [Int32.toNatClampNeg]; omega) | (simp only [Int32.toNatClampNeg, List.length_set, List.length_replicate]; omega)) (by first | assumption | (rw [own_lt32]; omega) | (intro q; rw [own_lt32] at q; omega) | (intro q; have q' := congrArg Int32.toInt q; omega) | (simp only [Int32.toNatClampNeg]; omega) | (simp only [Int32.toNatClampNeg, List.length_set, List.length_replicate]; omega)) (by first | assumption | (rw [own_lt32]; omega) | (intro q; rw [own_lt32] at q; omega) | (intro q; have q' := congrArg Int32.toInt q; omega) | (simp only [Int32.toNatClampNeg]; omega) | (simp only [Int32.toNatClampNeg, List.length_set, List.length_replicate]; omega)) (by first | assumption | (rw [own_lt32]; omega) | (intro q; rw [own_lt32] at q; omega) | (intro q; have q' := congrArg Int32.toInt q; omega) | (simp only [Int32.toNatClampNeg]; omega) | (simp only [Int32.toNatClampNeg, List.length_set, List.length_replicate]; omega))) (fun _ _ _ _ q => ?_)
  obtain ⟨v, L, ho, ⟨hv, N, K, f1, f2⟩, hf⟩ := q
  exact ⟨v, L, ho, ⟨hv, N, ⟨b1, b2, b3, by simpa using b4, (own_Z_set (own_Z_set (own_Z_set (own_Z_set b5 (Nat.le_refl _) (by simp only [Int32.toNatClampNeg]; omega)) (Nat.le_refl _) (by simp only [Int32.toNatClampNeg]; omega)) (Nat.le_refl _) (by simp only [Int32.toNatClampNeg]; omega)) (Nat.le_refl _) (by simp only [Int32.toNatClampNeg]; omega))⟩, K, f1, f2⟩, hf⟩
theorem d10_0 : decode prog_1_method_10_code 0 = .ok (.aload_n 0, 1) := by decide +kernel
theorem d10_1 : decode prog_1_method_10_code 1 = .ok (.getfield 7, 3) := by decide +kernel
theorem d10_4 : decode prog_1_method_10_code 4 = .ok (.aload_n 0, 1) := by decide +kernel
theorem d10_5 : decode prog_1_method_10_code 5 = .ok (.getfield 13, 3) := by decide +kernel
theorem d10_8 : decode prog_1_method_10_code 8 = .ok (.invokestatic 27, 3) := by decide +kernel
theorem d10_11 : decode prog_1_method_10_code 11 = .ok (.areturn, 1) := by decide +kernel
theorem ef_10_R (m : MethodId) (x0 : Addr) : entryFrame m #[(.ref x0)] 1 = mkF m 0 #[.val (.ref x0)] [] := by first | (simp [entryFrame, mkF, argsToLocals, Value.category]; done) | rfl
def Q_arrS (Z : State) (a1 : Addr) (w_bytes_a1 : Addr) (k_w_bytes_a1 : ClassId) (n_w_bytes_a1 : Int32) (vs_w_bytes_a1 : List Value) (w_length_a1 : Int32) (h0 : Heap) (n0 : Nat) (v : Option Value) (h : Heap) (L : List Loc) : Prop := ∃ (o1 : Addr), ∃ (ko1 : ClassId), v = some (.ref o1) ∧ Fr n0 L ∧ n0 ≤ o1 ∧ h0.size ≤ o1 ∧ Keep h0 h [] ∧ Exa Z h o1 "[B" ∧ Arv Z h o1 ko1 .byte w_length_a1 vs_w_bytes_a1 (.int (0 : Int32))
set_option maxRecDepth 65536 in
set_option maxHeartbeats 40000000 in
theorem rm_arrS (l : Launch) (Z : State) (a0 : Array Value) (hw : ∀ d ∈ tables_1, d.before a0 Z = true) (ws : List Jvm.Cond) (a1 : Addr) (w_bytes_a1 : Addr) (k_w_bytes_a1 : ClassId) (n_w_bytes_a1 : Int32) (vs_w_bytes_a1 : List Value) (w_length_a1 : Int32) (h0 : Heap) (n0 : Nat) (Z0 : n0 ≤ h0.size) (F_bytes_a1 : Fld Z h0 a1 "com/example/herald/herald/bytecode/Bytes" "bytes" "[B" (.ref w_bytes_a1)) (E_w_bytes_a1 : Exa Z h0 w_bytes_a1 "[B") (V_w_bytes_a1 : Arv Z h0 w_bytes_a1 k_w_bytes_a1 .byte n_w_bytes_a1 vs_w_bytes_a1 (.int (0 : Int32))) (F_length_a1 : Fld Z h0 a1 "com/example/herald/herald/bytecode/Bytes" "length" "I" (.int w_length_a1)) (E_a1 : Exa Z h0 a1 "com/example/herald/herald/bytecode/Bytes") (hp0 : ¬ (w_length_a1 < (0 : Int32))) (hp1 : w_length_a1.toNatClampNeg ≤ 8) (hp2 : w_length_a1 < n_w_bytes_a1) (hp3 : (0 : Int32).toNatClampNeg + w_length_a1.toNatClampNeg ≤ n_w_bytes_a1.toNatClampNeg) (hp4 : (0 : Int32).toNatClampNeg + w_length_a1.toNatClampNeg ≤ w_length_a1.toNatClampNeg) (hp5 : (0 : Int32).toNatClampNeg + w_length_a1.toNatClampNeg ≤ (List.replicate 16 (Value.int (0 : Int32))).length) (hp6 : w_length_a1.toNatClampNeg ≤ 16) (hp7 : ¬ (w_length_a1 = n_w_bytes_a1)) :
    MetFree l (⟨"com/example/herald/herald/bytecode/Bytes", "toArray", "()[B"⟩ : MethodName) (head1 (Jvm.Cond.code (⟨"com/example/herald/herald/bytecode/Bytes", "toArray", "()[B"⟩ : MethodName) prog_1_method_10_code 1 (some (.array .byte)) :: ws) ({ frames := 2, cells := 1, slots := 8, locals := 32 } : Room)) (fun a U => a = #[(.ref a1)] ∧ Z.Warmed39 U.vm ∧ U.heap = h0) (fun _ _ _ _ _ => True) (fun _ U o U' => ∃ v L, o = .returned v ∧ Q_arrS Z a1 w_bytes_a1 k_w_bytes_a1 n_w_bytes_a1 vs_w_bytes_a1 w_length_a1 h0 n0 v U'.heap L ∧ FrameEnd U o U' L ({ frames := 2, cells := 1, slots := 8, locals := 32 } : Room).cells ({ frames := 2, cells := 1, slots := 8, locals := 32 } : Room).slots) := by
  refine MetFree.of_bodySF (plainFor_of_name pn_com_example_herald_herald_bytecode_Bytes) hisR ?_
  intro p e s m args below meth c s₁ Bd hml0 hP hK
  obtain ⟨rfl, hZ, hh⟩ := hP
  have hx := Bd.exec
  have hby := Bd.bytes
  have hml : c.maxLocals = 1 := hml0
  have hown : s.vm.findClass "com/example/herald/herald/bytecode/Bytes" = some m.cls := findClass_of_methodNamed Bd.named
  have hnm := (name_of_methodNamed Bd.named Bd.method).1
  have X0 : Stand p l e ({ frames := 2, cells := 1, slots := 8, locals := 32 } : Room) s m #[(.ref a1)] below meth c s₁ [] 0 0 := Stand.of_body Bd
  have e0 : s₁.heap = h0 := by rw [← hh, Bd.state]; rfl
  have N0 := Fr.nil n0
  have pre0 : ∀ t, Steps p.tables e below (s₁.setTop (mkF m 0 #[.val (.ref a1)] [])) t → Steps p.tables e below (s₁.setTop (entryFrame m #[(.ref a1)] 1)) t := fun t k => castTop (ef_10_R m a1) k
  obtain ⟨T1, X1, e1, st1⟩ := getF X0 hx hZ hown (host := "") (Or.inl (hw _ (List.mem_of_getElem? (i := 10) rfl))) Via.refl e0 F_bytes_a1 (g := (mkF m 1 #[.val (.ref a1)] [(.ref a1)])) rfl rfl (hb hby d10_1)
  obtain ⟨T2, X2, e2, st2⟩ := getF X1 hx hZ hown (host := "") (Or.inl (hw _ (List.mem_of_getElem? (i := 21) rfl))) Via.refl e1 F_length_a1 (g := (mkF m 5 #[.val (.ref a1)] [(.ref a1), (.ref w_bytes_a1)])) rfl rfl (hb hby d10_5)
  obtain ⟨_, _, ⟨T3, L3, k3, n3⟩, -, X3, ⟨Lc3, hQ3, l3, y3, z3⟩, st3⟩ := Jvm.LawKit.callS X2 hx (y := (⟨"java/util/Arrays", "copyOf", "([BI)[B"⟩ : MethodName)) hown (mvT hZ (hw _ (List.mem_of_getElem? (i := 27) rfl))) (mvT hZ (hw _ (List.mem_of_getElem? (i := 28) rfl))) (mvT hZ (hw _ (List.mem_of_getElem? (i := 29) rfl))) (mvT hZ (hw _ (List.mem_of_getElem? (i := 30) rfl))) (by decide) (backOf (W := 0) (rm_copyS l Z a0 hw [] w_bytes_a1 w_length_a1 k_w_bytes_a1 n_w_bytes_a1 vs_w_bytes_a1 h0 n0 Z0 E_w_bytes_a1 V_w_bytes_a1 hp0 hp1 hp2 hp3 hp4 hp5 hp6 hp7) hZ (hw _ (List.mem_of_getElem? (i := 30) rfl)) (hw _ (List.mem_of_getElem? (i := 29) rfl)) (by decide) (by decide)) (g := (mkF m 8 #[.val (.ref a1)] [(.int w_length_a1), (.ref w_bytes_a1)])) rfl (by rw [hml]; rfl) (argsL := [(.ref w_bytes_a1), (.int w_length_a1)]) (rest := []) (lenOf pd_1 rfl) rfl (by show 2 * 0 + _ ≤ _; exact Nat.le_of_eq rfl) (hb hby d10_8) (fun _ _ => ⟨rfl, e2, (by decide : 0 + 1 ≤ _), (by decide : 0 + 8 ≤ _)⟩)
  dsimp only [Pt.U, Pt.locs, Pt.cells, Pt.slots] at X3 l3 y3 z3 st3 hQ3
  subst l3 y3 z3
  obtain ⟨b3_1, k3_2, rfl, Nq3, g_b3_1, szq_b3_1, Kc3, fq3_0, fq3_1⟩ := hQ3
  have sz_b3_1 : h0.size ≤ b3_1 := Nat.le_trans (Keep.refl h0 []).1 szq_b3_1
  have ne_a1_b3_1 : a1 ≠ b3_1 := Nat.ne_of_lt (Nat.lt_of_lt_of_le F_bytes_a1.lt szq_b3_1)
  have ne_w_bytes_a1_b3_1 : w_bytes_a1 ≠ b3_1 := Nat.ne_of_lt (Nat.lt_of_lt_of_le E_w_bytes_a1.lt szq_b3_1)
  have ne_w_bytes_a1_a1 : w_bytes_a1 ≠ a1 := ne_exa E_w_bytes_a1 E_a1 (by decide)
  have f5 : Fld Z T3.heap a1 "com/example/herald/herald/bytecode/Bytes" "bytes" "[B" (.ref w_bytes_a1) := F_bytes_a1.keep Kc3 nin0
  have f6 : Exa Z T3.heap w_bytes_a1 "[B" := E_w_bytes_a1.keep Kc3
  have f7 : Arv Z T3.heap w_bytes_a1 k_w_bytes_a1 .byte n_w_bytes_a1 vs_w_bytes_a1 (.int (0 : Int32)) := V_w_bytes_a1.keep Kc3 nin0
  have f8 : Fld Z T3.heap a1 "com/example/herald/herald/bytecode/Bytes" "length" "I" (.int w_length_a1) := F_length_a1.keep Kc3 nin0
  have f9 : Exa Z T3.heap a1 "com/example/herald/herald/bytecode/Bytes" := E_a1.keep Kc3
  have f10 : Arv Z T3.heap b3_1 k3_2 .byte w_length_a1 vs_w_bytes_a1 (.int (0 : Int32)) := fq3_1
  have K11 : Keep h0 T3.heap [] := (Keep.refl h0 []).trans Kc3 all0
  have Zs12 : n0 ≤ T3.heap.size := Nat.le_trans Z0 Kc3.1
  have N4 := Fr.app N0 Nq3
  obtain ⟨fs, hr, hrun, hended, hW, hsame⟩ := X3.leave (v := some (.ref b3_1)) (fun h => by rw [Bd.returns] at h; cases h) Bd.notSynchronized
  refine ⟨_, _, pre0 _ ?_, hrun, hended, _, _, rfl, ?_, ⟨_, rfl⟩, hW, hsame.mono (by decide) (by decide)⟩
  · show Steps p.tables e below (s₁.setTop (mkF m 0 #[.val (.ref a1)] [])) _
    refine XS.aloadN X0.here hx rfl (hb hby d10_0) rfl rfl ?_
    show Steps p.tables e below (s₁.setTop (mkF m 1 #[.val (.ref a1)] [(.ref a1)])) _
    refine st1 _ ?_
    show Steps p.tables e below (T1.setTop (mkF m 4 #[.val (.ref a1)] [(.ref w_bytes_a1)])) _
    refine XS.aloadN X1.here hx rfl (hb hby d10_4) rfl rfl ?_
    show Steps p.tables e below (T1.setTop (mkF m 5 #[.val (.ref a1)] [(.ref a1), (.ref w_bytes_a1)])) _
    refine st2 _ ?_
    show Steps p.tables e below (T2.setTop (mkF m 8 #[.val (.ref a1)] [(.int w_length_a1), (.ref w_bytes_a1)])) _
    refine st3 _ ?_
    show Steps p.tables e below (T3.setTop (mkF m 11 #[.val (.ref a1)] [(.ref b3_1)])) _
    exact retOut X3 hx (t := (.array .byte)) (i := .areturn) Bd.returns rfl (Or.inr (Or.inr (Or.inr (Or.inr ⟨rfl, rfl, rfl⟩)))) (hb hby d10_11) hr
  · show Q_arrS Z a1 w_bytes_a1 k_w_bytes_a1 n_w_bytes_a1 vs_w_bytes_a1 w_length_a1 h0 n0 _ T3.heap _
    exact ⟨b3_1, k3_2, rfl, N4, g_b3_1, sz_b3_1, K11, fq3_0, f10⟩
def Q_arrC (Z : State) (a1 : Addr) (w_bytes_a1 : Addr) (k_w_bytes_a1 : ClassId) (n_w_bytes_a1 : Int32) (vs_w_bytes_a1 : List Value) (w_length_a1 : Int32) (h0 : Heap) (n0 : Nat) (v : Option Value) (h : Heap) (L : List Loc) : Prop := ∃ (o1 : Addr), v = some (.ref o1) ∧ Fr n0 L ∧ n0 ≤ o1 ∧ h0.size ≤ o1 ∧ Keep h0 h [] ∧ Exa Z h o1 "[B" ∧ Arv Z h o1 k_w_bytes_a1 .byte w_length_a1 vs_w_bytes_a1 (.int (0 : Int32))
set_option maxRecDepth 65536 in
set_option maxHeartbeats 40000000 in
theorem rm_arrC (l : Launch) (Z : State) (a0 : Array Value) (hw : ∀ d ∈ tables_1, d.before a0 Z = true) (ws : List Jvm.Cond) (a1 : Addr) (w_bytes_a1 : Addr) (k_w_bytes_a1 : ClassId) (n_w_bytes_a1 : Int32) (vs_w_bytes_a1 : List Value) (w_length_a1 : Int32) (h0 : Heap) (n0 : Nat) (Z0 : n0 ≤ h0.size) (F_bytes_a1 : Fld Z h0 a1 "com/example/herald/herald/bytecode/Bytes" "bytes" "[B" (.ref w_bytes_a1)) (E_w_bytes_a1 : Exa Z h0 w_bytes_a1 "[B") (V_w_bytes_a1 : Arv Z h0 w_bytes_a1 k_w_bytes_a1 .byte n_w_bytes_a1 vs_w_bytes_a1 (.int (0 : Int32))) (F_length_a1 : Fld Z h0 a1 "com/example/herald/herald/bytecode/Bytes" "length" "I" (.int w_length_a1)) (E_a1 : Exa Z h0 a1 "com/example/herald/herald/bytecode/Bytes") (hp0 : n_w_bytes_a1.toNatClampNeg ≤ 8) (hp1 : w_length_a1 = n_w_bytes_a1) :
    MetFree l (⟨"com/example/herald/herald/bytecode/Bytes", "toArray", "()[B"⟩ : MethodName) (head1 (Jvm.Cond.code (⟨"com/example/herald/herald/bytecode/Bytes", "toArray", "()[B"⟩ : MethodName) prog_1_method_10_code 1 (some (.array .byte)) :: ws) ({ frames := 2, cells := 1, slots := 8, locals := 32 } : Room)) (fun a U => a = #[(.ref a1)] ∧ Z.Warmed39 U.vm ∧ U.heap = h0) (fun _ _ _ _ _ => True) (fun _ U o U' => ∃ v L, o = .returned v ∧ Q_arrC Z a1 w_bytes_a1 k_w_bytes_a1 n_w_bytes_a1 vs_w_bytes_a1 w_length_a1 h0 n0 v U'.heap L ∧ FrameEnd U o U' L ({ frames := 2, cells := 1, slots := 8, locals := 32 } : Room).cells ({ frames := 2, cells := 1, slots := 8, locals := 32 } : Room).slots) := by
  refine MetFree.of_bodySF (plainFor_of_name pn_com_example_herald_herald_bytecode_Bytes) hisR ?_
  intro p e s m args below meth c s₁ Bd hml0 hP hK
  obtain ⟨rfl, hZ, hh⟩ := hP
  have hx := Bd.exec
  have hby := Bd.bytes
  have hml : c.maxLocals = 1 := hml0
  have hown : s.vm.findClass "com/example/herald/herald/bytecode/Bytes" = some m.cls := findClass_of_methodNamed Bd.named
  have hnm := (name_of_methodNamed Bd.named Bd.method).1
  have X0 : Stand p l e ({ frames := 2, cells := 1, slots := 8, locals := 32 } : Room) s m #[(.ref a1)] below meth c s₁ [] 0 0 := Stand.of_body Bd
  have e0 : s₁.heap = h0 := by rw [← hh, Bd.state]; rfl
  have N0 := Fr.nil n0
  have pre0 : ∀ t, Steps p.tables e below (s₁.setTop (mkF m 0 #[.val (.ref a1)] [])) t → Steps p.tables e below (s₁.setTop (entryFrame m #[(.ref a1)] 1)) t := fun t k => castTop (ef_10_R m a1) k
  obtain ⟨T1, X1, e1, st1⟩ := getF X0 hx hZ hown (host := "") (Or.inl (hw _ (List.mem_of_getElem? (i := 10) rfl))) Via.refl e0 F_bytes_a1 (g := (mkF m 1 #[.val (.ref a1)] [(.ref a1)])) rfl rfl (hb hby d10_1)
  obtain ⟨T2, X2, e2, st2⟩ := getF X1 hx hZ hown (host := "") (Or.inl (hw _ (List.mem_of_getElem? (i := 21) rfl))) Via.refl e1 F_length_a1 (g := (mkF m 5 #[.val (.ref a1)] [(.ref a1), (.ref w_bytes_a1)])) rfl rfl (hb hby d10_5)
  obtain ⟨_, _, ⟨T3, L3, k3, n3⟩, -, X3, ⟨Lc3, hQ3, l3, y3, z3⟩, st3⟩ := Jvm.LawKit.callS X2 hx (y := (⟨"java/util/Arrays", "copyOf", "([BI)[B"⟩ : MethodName)) hown (mvT hZ (hw _ (List.mem_of_getElem? (i := 27) rfl))) (mvT hZ (hw _ (List.mem_of_getElem? (i := 28) rfl))) (mvT hZ (hw _ (List.mem_of_getElem? (i := 29) rfl))) (mvT hZ (hw _ (List.mem_of_getElem? (i := 30) rfl))) (by decide) (backOf (W := 0) (rm_copyC l Z a0 hw [] w_bytes_a1 w_length_a1 k_w_bytes_a1 n_w_bytes_a1 vs_w_bytes_a1 h0 n0 Z0 E_w_bytes_a1 V_w_bytes_a1 hp0 hp1) hZ (hw _ (List.mem_of_getElem? (i := 30) rfl)) (hw _ (List.mem_of_getElem? (i := 29) rfl)) (by decide) (by decide)) (g := (mkF m 8 #[.val (.ref a1)] [(.int w_length_a1), (.ref w_bytes_a1)])) rfl (by rw [hml]; rfl) (argsL := [(.ref w_bytes_a1), (.int w_length_a1)]) (rest := []) (lenOf pd_1 rfl) rfl (by show 2 * 0 + _ ≤ _; exact Nat.le_of_eq rfl) (hb hby d10_8) (fun _ _ => ⟨rfl, e2, (by decide : 0 + 1 ≤ _), (by decide : 0 + 8 ≤ _)⟩)
  dsimp only [Pt.U, Pt.locs, Pt.cells, Pt.slots] at X3 l3 y3 z3 st3 hQ3
  subst l3 y3 z3
  obtain ⟨b3_1, rfl, Nq3, g_b3_1, szq_b3_1, Kc3, fq3_0, fq3_1⟩ := hQ3
  have sz_b3_1 : h0.size ≤ b3_1 := Nat.le_trans (Keep.refl h0 []).1 szq_b3_1
  have ne_a1_b3_1 : a1 ≠ b3_1 := Nat.ne_of_lt (Nat.lt_of_lt_of_le F_bytes_a1.lt szq_b3_1)
  have ne_w_bytes_a1_b3_1 : w_bytes_a1 ≠ b3_1 := Nat.ne_of_lt (Nat.lt_of_lt_of_le E_w_bytes_a1.lt szq_b3_1)
  have ne_w_bytes_a1_a1 : w_bytes_a1 ≠ a1 := ne_exa E_w_bytes_a1 E_a1 (by decide)
  have f5 : Fld Z T3.heap a1 "com/example/herald/herald/bytecode/Bytes" "bytes" "[B" (.ref w_bytes_a1) := F_bytes_a1.keep Kc3 nin0
  have f6 : Exa Z T3.heap w_bytes_a1 "[B" := E_w_bytes_a1.keep Kc3
  have f7 : Arv Z T3.heap w_bytes_a1 k_w_bytes_a1 .byte n_w_bytes_a1 vs_w_bytes_a1 (.int (0 : Int32)) := V_w_bytes_a1.keep Kc3 nin0
  have f8 : Fld Z T3.heap a1 "com/example/herald/herald/bytecode/Bytes" "length" "I" (.int w_length_a1) := F_length_a1.keep Kc3 nin0
  have f9 : Exa Z T3.heap a1 "com/example/herald/herald/bytecode/Bytes" := E_a1.keep Kc3
  have f10 : Arv Z T3.heap b3_1 k_w_bytes_a1 .byte w_length_a1 vs_w_bytes_a1 (.int (0 : Int32)) := fq3_1
  have K11 : Keep h0 T3.heap [] := (Keep.refl h0 []).trans Kc3 all0
  have Zs12 : n0 ≤ T3.heap.size := Nat.le_trans Z0 Kc3.1
  have N4 := Fr.app N0 Nq3
  obtain ⟨fs, hr, hrun, hended, hW, hsame⟩ := X3.leave (v := some (.ref b3_1)) (fun h => by rw [Bd.returns] at h; cases h) Bd.notSynchronized
  refine ⟨_, _, pre0 _ ?_, hrun, hended, _, _, rfl, ?_, ⟨_, rfl⟩, hW, hsame.mono (by decide) (by decide)⟩
  · show Steps p.tables e below (s₁.setTop (mkF m 0 #[.val (.ref a1)] [])) _
    refine XS.aloadN X0.here hx rfl (hb hby d10_0) rfl rfl ?_
    show Steps p.tables e below (s₁.setTop (mkF m 1 #[.val (.ref a1)] [(.ref a1)])) _
    refine st1 _ ?_
    show Steps p.tables e below (T1.setTop (mkF m 4 #[.val (.ref a1)] [(.ref w_bytes_a1)])) _
    refine XS.aloadN X1.here hx rfl (hb hby d10_4) rfl rfl ?_
    show Steps p.tables e below (T1.setTop (mkF m 5 #[.val (.ref a1)] [(.ref a1), (.ref w_bytes_a1)])) _
    refine st2 _ ?_
    show Steps p.tables e below (T2.setTop (mkF m 8 #[.val (.ref a1)] [(.int w_length_a1), (.ref w_bytes_a1)])) _
    refine st3 _ ?_
    show Steps p.tables e below (T3.setTop (mkF m 11 #[.val (.ref a1)] [(.ref b3_1)])) _
    exact retOut X3 hx (t := (.array .byte)) (i := .areturn) Bd.returns rfl (Or.inr (Or.inr (Or.inr (Or.inr ⟨rfl, rfl, rfl⟩)))) (hb hby d10_11) hr
  · show Q_arrC Z a1 w_bytes_a1 k_w_bytes_a1 n_w_bytes_a1 vs_w_bytes_a1 w_length_a1 h0 n0 _ T3.heap _
    exact ⟨b3_1, rfl, N4, g_b3_1, sz_b3_1, K11, fq3_0, f10⟩
def Q_arr (Z : State) (a1 : Addr) (w_bytes_a1 : Addr) (k_w_bytes_a1 : ClassId) (n_w_bytes_a1 : Int32) (vs_w_bytes_a1 : List Value) (w_length_a1 : Int32) (h0 : Heap) (n0 : Nat) (v : Option Value) (h : Heap) (L : List Loc) : Prop := ∃ (o1 : Addr), ∃ (ko1 : ClassId), v = some (.ref o1) ∧ Fr n0 L ∧ n0 ≤ o1 ∧ h0.size ≤ o1 ∧ Keep h0 h [] ∧ Exa Z h o1 "[B" ∧ Arv Z h o1 ko1 .byte w_length_a1 vs_w_bytes_a1 (.int (0 : Int32))
set_option maxRecDepth 65536 in
set_option maxHeartbeats 40000000 in
theorem rm_arr (l : Launch) (Z : State) (a0 : Array Value) (hw : ∀ d ∈ tables_1, d.before a0 Z = true) (ws : List Jvm.Cond) (a1 : Addr) (w_bytes_a1 : Addr) (k_w_bytes_a1 : ClassId) (n_w_bytes_a1 : Int32) (vs_w_bytes_a1 : List Value) (w_length_a1 : Int32) (h0 : Heap) (n0 : Nat) (Z0 : n0 ≤ h0.size) (F_bytes_a1 : Fld Z h0 a1 "com/example/herald/herald/bytecode/Bytes" "bytes" "[B" (.ref w_bytes_a1)) (E_w_bytes_a1 : Exa Z h0 w_bytes_a1 "[B") (V_w_bytes_a1 : Arv Z h0 w_bytes_a1 k_w_bytes_a1 .byte n_w_bytes_a1 vs_w_bytes_a1 (.int (0 : Int32))) (F_length_a1 : Fld Z h0 a1 "com/example/herald/herald/bytecode/Bytes" "length" "I" (.int w_length_a1)) (E_a1 : Exa Z h0 a1 "com/example/herald/herald/bytecode/Bytes") (hB : own_B w_length_a1 n_w_bytes_a1 vs_w_bytes_a1) (hs : w_length_a1.toInt = 8) :
    MetFree l (⟨"com/example/herald/herald/bytecode/Bytes", "toArray", "()[B"⟩ : MethodName) (head1 (Jvm.Cond.code (⟨"com/example/herald/herald/bytecode/Bytes", "toArray", "()[B"⟩ : MethodName) prog_1_method_10_code 1 (some (.array .byte)) :: ws) ({ frames := 2, cells := 1, slots := 8, locals := 32 } : Room)) (fun a U => a = #[(.ref a1)] ∧ Z.Warmed39 U.vm ∧ U.heap = h0) (fun _ _ _ _ _ => True) (fun _ U o U' => ∃ v L, o = .returned v ∧ Q_arr Z a1 w_bytes_a1 k_w_bytes_a1 n_w_bytes_a1 vs_w_bytes_a1 w_length_a1 h0 n0 v U'.heap L ∧ FrameEnd U o U' L ({ frames := 2, cells := 1, slots := 8, locals := 32 } : Room).cells ({ frames := 2, cells := 1, slots := 8, locals := 32 } : Room).slots) := by
  obtain ⟨b1, b2, b3, b4, b5⟩ := hB
  have z0 : (0 : Int32).toInt = 0 := by decide
  have ne : a1 ≠ w_bytes_a1 := ne_exa E_a1 E_w_bytes_a1 (by decide)
  by_cases c : w_length_a1 = n_w_bytes_a1
  · have c' := congrArg Int32.toInt c
    refine own_mono (rm_arrC l Z a0 hw ws a1 w_bytes_a1 k_w_bytes_a1 n_w_bytes_a1 vs_w_bytes_a1 w_length_a1 h0 n0 Z0 F_bytes_a1 E_w_bytes_a1 V_w_bytes_a1 F_length_a1 E_a1 (by first | assumption | (rw [own_lt32]; omega) | (intro q; rw [own_lt32] at q; omega) | (intro q; have q' := congrArg Int32.toInt q; omega) | (simp only [Int32.toNatClampNeg]; omega) | (simp only [Int32.toNatClampNeg, List.length_set, List.length_replicate]; omega)) (by first | assumption | (rw [own_lt32]; omega) | (intro q; rw [own_lt32] at q; omega) | (intro q; have q' := congrArg Int32.toInt q; omega) | (simp only [Int32.toNatClampNeg]; omega) | (simp only [Int32.toNatClampNeg, List.length_set, List.length_replicate]; omega))) (fun _ _ _ _ q => ?_)
    obtain ⟨v, L, ho, ⟨o1, hv, N, g, sz, K, f1, f2⟩, hf⟩ := q
    exact ⟨v, L, ho, ⟨o1, _, hv, N, g, sz, K, f1, f2⟩, hf⟩
  · have c' : ¬ w_length_a1.toInt = n_w_bytes_a1.toInt := fun q => c (own_eq32 q)
    exact rm_arrS l Z a0 hw ws a1 w_bytes_a1 k_w_bytes_a1 n_w_bytes_a1 vs_w_bytes_a1 w_length_a1 h0 n0 Z0 F_bytes_a1 E_w_bytes_a1 V_w_bytes_a1 F_length_a1 E_a1 (by first | assumption | (rw [own_lt32]; omega) | (intro q; rw [own_lt32] at q; omega) | (intro q; have q' := congrArg Int32.toInt q; omega) | (simp only [Int32.toNatClampNeg]; omega) | (simp only [Int32.toNatClampNeg, List.length_set, List.length_replicate]; omega)) (by first | assumption | (rw [own_lt32]; omega) | (intro q; rw [own_lt32] at q; omega) | (intro q; have q' := congrArg Int32.toInt q; omega) | (simp only [Int32.toNatClampNeg]; omega) | (simp only [Int32.toNatClampNeg, List.length_set, List.length_replicate]; omega)) (by first | assumption | (rw [own_lt32]; omega) | (intro q; rw [own_lt32] at q; omega) | (intro q; have q' := congrArg Int32.toInt q; omega) | (simp only [Int32.toNatClampNeg]; omega) | (simp only [Int32.toNatClampNeg, List.length_set, List.length_replicate]; omega)) (by first | assumption | (rw [own_lt32]; omega) | (intro q; rw [own_lt32] at q; omega) | (intro q; have q' := congrArg Int32.toInt q; omega) | (simp only [Int32.toNatClampNeg]; omega) | (simp only [Int32.toNatClampNeg, List.length_set, List.length_replicate]; omega)) (by first | assumption | (rw [own_lt32]; omega) | (intro q; rw [own_lt32] at q; omega) | (intro q; have q' := congrArg Int32.toInt q; omega) | (simp only [Int32.toNatClampNeg]; omega) | (simp only [Int32.toNatClampNeg, List.length_set, List.length_replicate]; omega)) (by first | assumption | (rw [own_lt32]; omega) | (intro q; rw [own_lt32] at q; omega) | (intro q; have q' := congrArg Int32.toInt q; omega) | (simp only [Int32.toNatClampNeg]; omega) | (simp only [Int32.toNatClampNeg, List.length_set, List.length_replicate]; omega)) (by first | assumption | (rw [own_lt32]; omega) | (intro q; rw [own_lt32] at q; omega) | (intro q; have q' := congrArg Int32.toInt q; omega) | (simp only [Int32.toNatClampNeg]; omega) | (simp only [Int32.toNatClampNeg, List.length_set, List.length_replicate]; omega)) (by first | assumption | (rw [own_lt32]; omega) | (intro q; rw [own_lt32] at q; omega) | (intro q; have q' := congrArg Int32.toInt q; omega) | (simp only [Int32.toNatClampNeg]; omega) | (simp only [Int32.toNatClampNeg, List.length_set, List.length_replicate]; omega))
theorem d12_0 : decode method_3_code 0 = .ok (.iload_n 0, 1) := by decide +kernel
theorem d12_1 : decode method_3_code 1 = .ok (.iconst 4, 1) := by decide +kernel
theorem d12_2 : decode method_3_code 2 = .ok (.if_icmp .ge 7, 3) := by decide +kernel
theorem d12_9 : decode method_3_code 9 = .ok (.iload_n 2, 1) := by decide +kernel
theorem d12_10 : decode method_3_code 10 = .ok (.istore_n 3, 1) := by decide +kernel
theorem d12_11 : decode method_3_code 11 = .ok (.iload_n 0, 1) := by decide +kernel
theorem d12_12 : decode method_3_code 12 = .ok (.iconst 3, 1) := by decide +kernel
theorem d12_13 : decode method_3_code 13 = .ok (.iand, 1) := by decide +kernel
theorem d12_14 : decode method_3_code 14 = .ok (.istore 4, 2) := by decide +kernel
theorem d12_16 : decode method_3_code 16 = .ok (.iload_n 3, 1) := by decide +kernel
theorem d12_17 : decode method_3_code 17 = .ok (.bipush 24, 2) := by decide +kernel
theorem d12_19 : decode method_3_code 19 = .ok (.bipush 8, 2) := by decide +kernel
theorem d12_21 : decode method_3_code 21 = .ok (.iload 4, 2) := by decide +kernel
theorem d12_23 : decode method_3_code 23 = .ok (.imul, 1) := by decide +kernel
theorem d12_24 : decode method_3_code 24 = .ok (.isub, 1) := by decide +kernel
theorem d12_25 : decode method_3_code 25 = .ok (.ishr, 1) := by decide +kernel
theorem d12_26 : decode method_3_code 26 = .ok (.sipush 255, 3) := by decide +kernel
theorem d12_29 : decode method_3_code 29 = .ok (.iand, 1) := by decide +kernel
theorem d12_30 : decode method_3_code 30 = .ok (.ireturn, 1) := by decide +kernel
theorem d12_5 : decode method_3_code 5 = .ok (.iload_n 1, 1) := by decide +kernel
theorem d12_6 : decode method_3_code 6 = .ok (.goto 4, 3) := by decide +kernel
theorem pn_com_example_herald_herald_bytecode_BytesPutU4PinLaw : plainName "com/example/herald/herald/bytecode/BytesPutU4PinLaw" = true := by first | (simp [plainName, overriddenIn]; done) | decide +kernel
theorem ef_12_III (m : MethodId) (x0 : Int32) (x1 : Int32) (x2 : Int32) : entryFrame m #[(.int x0), (.int x1), (.int x2)] 5 = mkF m 0 #[.val (.int x0), .val (.int x1), .val (.int x2), .unset, .unset] [] := by first | (simp [entryFrame, mkF, argsToLocals, Value.category]; done) | rfl
def f_orig (p1 : Int32) (p2 : Int32) (p3 : Int32) : Int32 := (if p1 < (4 : Int32) then ((p2 >>> (((24 : Int32) - ((8 : Int32) * (p1 &&& (3 : Int32)))) &&& 31)) &&& (255 : Int32)) else ((p3 >>> (((24 : Int32) - ((8 : Int32) * (p1 &&& (3 : Int32)))) &&& 31)) &&& (255 : Int32)))
def Q_orig (Z : State) (p1 : Int32) (p2 : Int32) (p3 : Int32) (h0 : Heap) (n0 : Nat) (v : Option Value) (h : Heap) (L : List Loc) : Prop := v = some (.int (f_orig p1 p2 p3)) ∧ Fr n0 L ∧ h = h0
set_option maxRecDepth 65536 in
set_option maxHeartbeats 40000000 in
theorem rm_orig_t (l : Launch) (Z : State) (a0 : Array Value) (hw : ∀ d ∈ tables_1, d.before a0 Z = true) (ws : List Jvm.Cond) (p1 : Int32) (p2 : Int32) (p3 : Int32) (h0 : Heap) (n0 : Nat) (Z0 : n0 ≤ h0.size) (hc0 : ¬ (p1 < (4 : Int32))) (hret : (f_orig p1 p2 p3) = ((p3 >>> (((24 : Int32) - ((8 : Int32) * (p1 &&& (3 : Int32)))) &&& 31)) &&& (255 : Int32))) :
    MetFree l (⟨"com/example/herald/herald/bytecode/BytesPutU4PinLaw", "orig", "(III)I"⟩ : MethodName) (head1 (Jvm.Cond.code (⟨"com/example/herald/herald/bytecode/BytesPutU4PinLaw", "orig", "(III)I"⟩ : MethodName) method_3_code 5 (some .int) :: ws) ({ frames := 0, cells := 0, slots := 0, locals := 0 } : Room)) (fun a U => a = #[(.int p1), (.int p2), (.int p3)] ∧ Z.Warmed39 U.vm ∧ U.heap = h0) (fun _ _ _ _ _ => True) (fun _ U o U' => ∃ v L, o = .returned v ∧ Q_orig Z p1 p2 p3 h0 n0 v U'.heap L ∧ FrameEnd U o U' L ({ frames := 0, cells := 0, slots := 0, locals := 0 } : Room).cells ({ frames := 0, cells := 0, slots := 0, locals := 0 } : Room).slots) := by
  refine MetFree.of_bodySF (plainFor_of_name pn_com_example_herald_herald_bytecode_BytesPutU4PinLaw) hisR ?_
  intro p e s m args below meth c s₁ Bd hml0 hP hK
  obtain ⟨rfl, hZ, hh⟩ := hP
  have hx := Bd.exec
  have hby := Bd.bytes
  have hml : c.maxLocals = 5 := hml0
  have hown : s.vm.findClass "com/example/herald/herald/bytecode/BytesPutU4PinLaw" = some m.cls := findClass_of_methodNamed Bd.named
  have hnm := (name_of_methodNamed Bd.named Bd.method).1
  have X0 : Stand p l e ({ frames := 0, cells := 0, slots := 0, locals := 0 } : Room) s m #[(.int p1), (.int p2), (.int p3)] below meth c s₁ [] 0 0 := Stand.of_body Bd
  have e0 : s₁.heap = h0 := by rw [← hh, Bd.state]; rfl
  have N0 := Fr.nil n0
  have pre0 : ∀ t, Steps p.tables e below (s₁.setTop (mkF m 0 #[.val (.int p1), .val (.int p2), .val (.int p3), .unset, .unset] [])) t → Steps p.tables e below (s₁.setTop (entryFrame m #[(.int p1), (.int p2), (.int p3)] 5)) t := fun t k => castTop (ef_12_III m p1 p2 p3) k
  obtain ⟨fs, hr, hrun, hended, hW, hsame⟩ := X0.leave (v := some (.int ((p3 >>> (((24 : Int32) - ((8 : Int32) * (p1 &&& (3 : Int32)))) &&& 31)) &&& (255 : Int32)))) (fun h => by rw [Bd.returns] at h; cases h) Bd.notSynchronized
  refine ⟨_, _, pre0 _ ?_, hrun, hended, _, _, rfl, ?_, ⟨_, rfl⟩, hW, hsame.mono (by decide) (by decide)⟩
  · show Steps p.tables e below (s₁.setTop (mkF m 0 #[.val (.int p1), .val (.int p2), .val (.int p3), .unset, .unset] [])) _
    refine XS.iloadN X0.here hx rfl (hb hby d12_0) rfl ?_
    show Steps p.tables e below (s₁.setTop (mkF m 1 #[.val (.int p1), .val (.int p2), .val (.int p3), .unset, .unset] [(.int p1)])) _
    refine XS.iconst X0.here hx rfl (hb hby d12_1) ?_
    show Steps p.tables e below (s₁.setTop (mkF m 2 #[.val (.int p1), .val (.int p2), .val (.int p3), .unset, .unset] [(.int (4 : Int32)), (.int p1)])) _
    refine XS.icmpYes X0.here hx rfl (pc0 := 2) (pc' := 9) rfl (hb hby d12_2) rfl (flt hc0).2.1 (by decide) (by decide) ?_
    show Steps p.tables e below (s₁.setTop (mkF m 9 #[.val (.int p1), .val (.int p2), .val (.int p3), .unset, .unset] [])) _
    refine XS.iloadN X0.here hx rfl (hb hby d12_9) rfl ?_
    show Steps p.tables e below (s₁.setTop (mkF m 10 #[.val (.int p1), .val (.int p2), .val (.int p3), .unset, .unset] [(.int p3)])) _
    refine XS.istoreN X0.here hx rfl (hb hby d12_10) rfl (l' := #[.val (.int p1), .val (.int p2), .val (.int p3), .val (.int p3), .unset]) rfl ?_
    show Steps p.tables e below (s₁.setTop (mkF m 11 #[.val (.int p1), .val (.int p2), .val (.int p3), .val (.int p3), .unset] [])) _
    refine XS.iloadN X0.here hx rfl (hb hby d12_11) rfl ?_
    show Steps p.tables e below (s₁.setTop (mkF m 12 #[.val (.int p1), .val (.int p2), .val (.int p3), .val (.int p3), .unset] [(.int p1)])) _
    refine XS.iconst X0.here hx rfl (hb hby d12_12) ?_
    show Steps p.tables e below (s₁.setTop (mkF m 13 #[.val (.int p1), .val (.int p2), .val (.int p3), .val (.int p3), .unset] [(.int (3 : Int32)), (.int p1)])) _
    refine XS.iand X0.here hx rfl (hb hby d12_13) rfl ?_
    show Steps p.tables e below (s₁.setTop (mkF m 14 #[.val (.int p1), .val (.int p2), .val (.int p3), .val (.int p3), .unset] [(.int (p1 &&& (3 : Int32)))])) _
    refine XS.istore X0.here hx rfl (hb hby d12_14) rfl (l' := #[.val (.int p1), .val (.int p2), .val (.int p3), .val (.int p3), .val (.int (p1 &&& (3 : Int32)))]) rfl ?_
    show Steps p.tables e below (s₁.setTop (mkF m 16 #[.val (.int p1), .val (.int p2), .val (.int p3), .val (.int p3), .val (.int (p1 &&& (3 : Int32)))] [])) _
    refine XS.iloadN X0.here hx rfl (hb hby d12_16) rfl ?_
    show Steps p.tables e below (s₁.setTop (mkF m 17 #[.val (.int p1), .val (.int p2), .val (.int p3), .val (.int p3), .val (.int (p1 &&& (3 : Int32)))] [(.int p3)])) _
    refine XS.bipush X0.here hx rfl (hb hby d12_17) ?_
    show Steps p.tables e below (s₁.setTop (mkF m 19 #[.val (.int p1), .val (.int p2), .val (.int p3), .val (.int p3), .val (.int (p1 &&& (3 : Int32)))] [(.int (24 : Int32)), (.int p3)])) _
    refine XS.bipush X0.here hx rfl (hb hby d12_19) ?_
    show Steps p.tables e below (s₁.setTop (mkF m 21 #[.val (.int p1), .val (.int p2), .val (.int p3), .val (.int p3), .val (.int (p1 &&& (3 : Int32)))] [(.int (8 : Int32)), (.int (24 : Int32)), (.int p3)])) _
    refine XS.iload X0.here hx rfl (hb hby d12_21) rfl ?_
    show Steps p.tables e below (s₁.setTop (mkF m 23 #[.val (.int p1), .val (.int p2), .val (.int p3), .val (.int p3), .val (.int (p1 &&& (3 : Int32)))] [(.int (p1 &&& (3 : Int32))), (.int (8 : Int32)), (.int (24 : Int32)), (.int p3)])) _
    refine XS.imul X0.here hx rfl (hb hby d12_23) rfl ?_
    show Steps p.tables e below (s₁.setTop (mkF m 24 #[.val (.int p1), .val (.int p2), .val (.int p3), .val (.int p3), .val (.int (p1 &&& (3 : Int32)))] [(.int ((8 : Int32) * (p1 &&& (3 : Int32)))), (.int (24 : Int32)), (.int p3)])) _
    refine XS.isub X0.here hx rfl (hb hby d12_24) rfl ?_
    show Steps p.tables e below (s₁.setTop (mkF m 25 #[.val (.int p1), .val (.int p2), .val (.int p3), .val (.int p3), .val (.int (p1 &&& (3 : Int32)))] [(.int ((24 : Int32) - ((8 : Int32) * (p1 &&& (3 : Int32))))), (.int p3)])) _
    refine XS.ishr X0.here hx rfl (hb hby d12_25) rfl ?_
    show Steps p.tables e below (s₁.setTop (mkF m 26 #[.val (.int p1), .val (.int p2), .val (.int p3), .val (.int p3), .val (.int (p1 &&& (3 : Int32)))] [(.int (p3 >>> (((24 : Int32) - ((8 : Int32) * (p1 &&& (3 : Int32)))) &&& 31)))])) _
    refine XS.sipush X0.here hx rfl (hb hby d12_26) ?_
    show Steps p.tables e below (s₁.setTop (mkF m 29 #[.val (.int p1), .val (.int p2), .val (.int p3), .val (.int p3), .val (.int (p1 &&& (3 : Int32)))] [(.int (255 : Int32)), (.int (p3 >>> (((24 : Int32) - ((8 : Int32) * (p1 &&& (3 : Int32)))) &&& 31)))])) _
    refine XS.iand X0.here hx rfl (hb hby d12_29) rfl ?_
    show Steps p.tables e below (s₁.setTop (mkF m 30 #[.val (.int p1), .val (.int p2), .val (.int p3), .val (.int p3), .val (.int (p1 &&& (3 : Int32)))] [(.int ((p3 >>> (((24 : Int32) - ((8 : Int32) * (p1 &&& (3 : Int32)))) &&& 31)) &&& (255 : Int32)))])) _
    exact retI X0 hx Bd.returns (hb hby d12_30) hr
  · show Q_orig Z p1 p2 p3 h0 n0 _ s₁.heap _
    rw [e0]
    exact ⟨by rw [hret], N0, rfl⟩
set_option maxRecDepth 65536 in
set_option maxHeartbeats 40000000 in
theorem rm_orig_f (l : Launch) (Z : State) (a0 : Array Value) (hw : ∀ d ∈ tables_1, d.before a0 Z = true) (ws : List Jvm.Cond) (p1 : Int32) (p2 : Int32) (p3 : Int32) (h0 : Heap) (n0 : Nat) (Z0 : n0 ≤ h0.size) (hc0 : p1 < (4 : Int32)) (hret : (f_orig p1 p2 p3) = ((p2 >>> (((24 : Int32) - ((8 : Int32) * (p1 &&& (3 : Int32)))) &&& 31)) &&& (255 : Int32))) :
    MetFree l (⟨"com/example/herald/herald/bytecode/BytesPutU4PinLaw", "orig", "(III)I"⟩ : MethodName) (head1 (Jvm.Cond.code (⟨"com/example/herald/herald/bytecode/BytesPutU4PinLaw", "orig", "(III)I"⟩ : MethodName) method_3_code 5 (some .int) :: ws) ({ frames := 0, cells := 0, slots := 0, locals := 0 } : Room)) (fun a U => a = #[(.int p1), (.int p2), (.int p3)] ∧ Z.Warmed39 U.vm ∧ U.heap = h0) (fun _ _ _ _ _ => True) (fun _ U o U' => ∃ v L, o = .returned v ∧ Q_orig Z p1 p2 p3 h0 n0 v U'.heap L ∧ FrameEnd U o U' L ({ frames := 0, cells := 0, slots := 0, locals := 0 } : Room).cells ({ frames := 0, cells := 0, slots := 0, locals := 0 } : Room).slots) := by
  refine MetFree.of_bodySF (plainFor_of_name pn_com_example_herald_herald_bytecode_BytesPutU4PinLaw) hisR ?_
  intro p e s m args below meth c s₁ Bd hml0 hP hK
  obtain ⟨rfl, hZ, hh⟩ := hP
  have hx := Bd.exec
  have hby := Bd.bytes
  have hml : c.maxLocals = 5 := hml0
  have hown : s.vm.findClass "com/example/herald/herald/bytecode/BytesPutU4PinLaw" = some m.cls := findClass_of_methodNamed Bd.named
  have hnm := (name_of_methodNamed Bd.named Bd.method).1
  have X0 : Stand p l e ({ frames := 0, cells := 0, slots := 0, locals := 0 } : Room) s m #[(.int p1), (.int p2), (.int p3)] below meth c s₁ [] 0 0 := Stand.of_body Bd
  have e0 : s₁.heap = h0 := by rw [← hh, Bd.state]; rfl
  have N0 := Fr.nil n0
  have pre0 : ∀ t, Steps p.tables e below (s₁.setTop (mkF m 0 #[.val (.int p1), .val (.int p2), .val (.int p3), .unset, .unset] [])) t → Steps p.tables e below (s₁.setTop (entryFrame m #[(.int p1), (.int p2), (.int p3)] 5)) t := fun t k => castTop (ef_12_III m p1 p2 p3) k
  obtain ⟨fs, hr, hrun, hended, hW, hsame⟩ := X0.leave (v := some (.int ((p2 >>> (((24 : Int32) - ((8 : Int32) * (p1 &&& (3 : Int32)))) &&& 31)) &&& (255 : Int32)))) (fun h => by rw [Bd.returns] at h; cases h) Bd.notSynchronized
  refine ⟨_, _, pre0 _ ?_, hrun, hended, _, _, rfl, ?_, ⟨_, rfl⟩, hW, hsame.mono (by decide) (by decide)⟩
  · show Steps p.tables e below (s₁.setTop (mkF m 0 #[.val (.int p1), .val (.int p2), .val (.int p3), .unset, .unset] [])) _
    refine XS.iloadN X0.here hx rfl (hb hby d12_0) rfl ?_
    show Steps p.tables e below (s₁.setTop (mkF m 1 #[.val (.int p1), .val (.int p2), .val (.int p3), .unset, .unset] [(.int p1)])) _
    refine XS.iconst X0.here hx rfl (hb hby d12_1) ?_
    show Steps p.tables e below (s₁.setTop (mkF m 2 #[.val (.int p1), .val (.int p2), .val (.int p3), .unset, .unset] [(.int (4 : Int32)), (.int p1)])) _
    refine XS.icmpNo X0.here hx rfl (hb hby d12_2) rfl (tlt hc0).2.1 ?_
    show Steps p.tables e below (s₁.setTop (mkF m 5 #[.val (.int p1), .val (.int p2), .val (.int p3), .unset, .unset] [])) _
    refine XS.iloadN X0.here hx rfl (hb hby d12_5) rfl ?_
    show Steps p.tables e below (s₁.setTop (mkF m 6 #[.val (.int p1), .val (.int p2), .val (.int p3), .unset, .unset] [(.int p2)])) _
    refine XS.goto X0.here hx rfl (pc0 := 6) (pc' := 10) rfl (hb hby d12_6) (by decide) (by decide) ?_
    show Steps p.tables e below (s₁.setTop (mkF m 10 #[.val (.int p1), .val (.int p2), .val (.int p3), .unset, .unset] [(.int p2)])) _
    refine XS.istoreN X0.here hx rfl (hb hby d12_10) rfl (l' := #[.val (.int p1), .val (.int p2), .val (.int p3), .val (.int p2), .unset]) rfl ?_
    show Steps p.tables e below (s₁.setTop (mkF m 11 #[.val (.int p1), .val (.int p2), .val (.int p3), .val (.int p2), .unset] [])) _
    refine XS.iloadN X0.here hx rfl (hb hby d12_11) rfl ?_
    show Steps p.tables e below (s₁.setTop (mkF m 12 #[.val (.int p1), .val (.int p2), .val (.int p3), .val (.int p2), .unset] [(.int p1)])) _
    refine XS.iconst X0.here hx rfl (hb hby d12_12) ?_
    show Steps p.tables e below (s₁.setTop (mkF m 13 #[.val (.int p1), .val (.int p2), .val (.int p3), .val (.int p2), .unset] [(.int (3 : Int32)), (.int p1)])) _
    refine XS.iand X0.here hx rfl (hb hby d12_13) rfl ?_
    show Steps p.tables e below (s₁.setTop (mkF m 14 #[.val (.int p1), .val (.int p2), .val (.int p3), .val (.int p2), .unset] [(.int (p1 &&& (3 : Int32)))])) _
    refine XS.istore X0.here hx rfl (hb hby d12_14) rfl (l' := #[.val (.int p1), .val (.int p2), .val (.int p3), .val (.int p2), .val (.int (p1 &&& (3 : Int32)))]) rfl ?_
    show Steps p.tables e below (s₁.setTop (mkF m 16 #[.val (.int p1), .val (.int p2), .val (.int p3), .val (.int p2), .val (.int (p1 &&& (3 : Int32)))] [])) _
    refine XS.iloadN X0.here hx rfl (hb hby d12_16) rfl ?_
    show Steps p.tables e below (s₁.setTop (mkF m 17 #[.val (.int p1), .val (.int p2), .val (.int p3), .val (.int p2), .val (.int (p1 &&& (3 : Int32)))] [(.int p2)])) _
    refine XS.bipush X0.here hx rfl (hb hby d12_17) ?_
    show Steps p.tables e below (s₁.setTop (mkF m 19 #[.val (.int p1), .val (.int p2), .val (.int p3), .val (.int p2), .val (.int (p1 &&& (3 : Int32)))] [(.int (24 : Int32)), (.int p2)])) _
    refine XS.bipush X0.here hx rfl (hb hby d12_19) ?_
    show Steps p.tables e below (s₁.setTop (mkF m 21 #[.val (.int p1), .val (.int p2), .val (.int p3), .val (.int p2), .val (.int (p1 &&& (3 : Int32)))] [(.int (8 : Int32)), (.int (24 : Int32)), (.int p2)])) _
    refine XS.iload X0.here hx rfl (hb hby d12_21) rfl ?_
    show Steps p.tables e below (s₁.setTop (mkF m 23 #[.val (.int p1), .val (.int p2), .val (.int p3), .val (.int p2), .val (.int (p1 &&& (3 : Int32)))] [(.int (p1 &&& (3 : Int32))), (.int (8 : Int32)), (.int (24 : Int32)), (.int p2)])) _
    refine XS.imul X0.here hx rfl (hb hby d12_23) rfl ?_
    show Steps p.tables e below (s₁.setTop (mkF m 24 #[.val (.int p1), .val (.int p2), .val (.int p3), .val (.int p2), .val (.int (p1 &&& (3 : Int32)))] [(.int ((8 : Int32) * (p1 &&& (3 : Int32)))), (.int (24 : Int32)), (.int p2)])) _
    refine XS.isub X0.here hx rfl (hb hby d12_24) rfl ?_
    show Steps p.tables e below (s₁.setTop (mkF m 25 #[.val (.int p1), .val (.int p2), .val (.int p3), .val (.int p2), .val (.int (p1 &&& (3 : Int32)))] [(.int ((24 : Int32) - ((8 : Int32) * (p1 &&& (3 : Int32))))), (.int p2)])) _
    refine XS.ishr X0.here hx rfl (hb hby d12_25) rfl ?_
    show Steps p.tables e below (s₁.setTop (mkF m 26 #[.val (.int p1), .val (.int p2), .val (.int p3), .val (.int p2), .val (.int (p1 &&& (3 : Int32)))] [(.int (p2 >>> (((24 : Int32) - ((8 : Int32) * (p1 &&& (3 : Int32)))) &&& 31)))])) _
    refine XS.sipush X0.here hx rfl (hb hby d12_26) ?_
    show Steps p.tables e below (s₁.setTop (mkF m 29 #[.val (.int p1), .val (.int p2), .val (.int p3), .val (.int p2), .val (.int (p1 &&& (3 : Int32)))] [(.int (255 : Int32)), (.int (p2 >>> (((24 : Int32) - ((8 : Int32) * (p1 &&& (3 : Int32)))) &&& 31)))])) _
    refine XS.iand X0.here hx rfl (hb hby d12_29) rfl ?_
    show Steps p.tables e below (s₁.setTop (mkF m 30 #[.val (.int p1), .val (.int p2), .val (.int p3), .val (.int p2), .val (.int (p1 &&& (3 : Int32)))] [(.int ((p2 >>> (((24 : Int32) - ((8 : Int32) * (p1 &&& (3 : Int32)))) &&& 31)) &&& (255 : Int32)))])) _
    exact retI X0 hx Bd.returns (hb hby d12_30) hr
  · show Q_orig Z p1 p2 p3 h0 n0 _ s₁.heap _
    rw [e0]
    exact ⟨by rw [hret], N0, rfl⟩
set_option maxRecDepth 65536 in
set_option maxHeartbeats 40000000 in
theorem rm_orig (l : Launch) (Z : State) (a0 : Array Value) (hw : ∀ d ∈ tables_1, d.before a0 Z = true) (ws : List Jvm.Cond) (p1 : Int32) (p2 : Int32) (p3 : Int32) (h0 : Heap) (n0 : Nat) (Z0 : n0 ≤ h0.size) :
    MetFree l (⟨"com/example/herald/herald/bytecode/BytesPutU4PinLaw", "orig", "(III)I"⟩ : MethodName) (head1 (Jvm.Cond.code (⟨"com/example/herald/herald/bytecode/BytesPutU4PinLaw", "orig", "(III)I"⟩ : MethodName) method_3_code 5 (some .int) :: ws) ({ frames := 0, cells := 0, slots := 0, locals := 0 } : Room)) (fun a U => a = #[(.int p1), (.int p2), (.int p3)] ∧ Z.Warmed39 U.vm ∧ U.heap = h0) (fun _ _ _ _ _ => True) (fun _ U o U' => ∃ v L, o = .returned v ∧ Q_orig Z p1 p2 p3 h0 n0 v U'.heap L ∧ FrameEnd U o U' L ({ frames := 0, cells := 0, slots := 0, locals := 0 } : Room).cells ({ frames := 0, cells := 0, slots := 0, locals := 0 } : Room).slots) := by
  by_cases c0 : p1 < (4 : Int32)
  · skip
    exact rm_orig_f l Z a0 hw ws p1 p2 p3 h0 n0 Z0  c0 (by unfold f_orig; rw [if_pos c0])
  · skip
    exact rm_orig_t l Z a0 hw ws p1 p2 p3 h0 n0 Z0  c0 (by unfold f_orig; rw [if_neg c0])
theorem d11_0 : decode method_4_code 0 = .ok (.iload_n 1, 1) := by decide +kernel
theorem d11_1 : decode method_4_code 1 = .ok (.iload 4, 2) := by decide +kernel
theorem d11_3 : decode method_4_code 3 = .ok (.if_icmp .lt 33, 3) := by decide +kernel
theorem d11_6 : decode method_4_code 6 = .ok (.iload_n 1, 1) := by decide +kernel
theorem d11_7 : decode method_4_code 7 = .ok (.iload 4, 2) := by decide +kernel
theorem d11_9 : decode method_4_code 9 = .ok (.iconst 4, 1) := by decide +kernel
theorem d11_10 : decode method_4_code 10 = .ok (.iadd, 1) := by decide +kernel
theorem d11_11 : decode method_4_code 11 = .ok (.if_icmp .ge 25, 3) := by decide +kernel
theorem d11_14 : decode method_4_code 14 = .ok (.iload 5, 2) := by decide +kernel
theorem d11_16 : decode method_4_code 16 = .ok (.bipush 24, 2) := by decide +kernel
theorem d11_18 : decode method_4_code 18 = .ok (.bipush 8, 2) := by decide +kernel
theorem d11_20 : decode method_4_code 20 = .ok (.iload_n 1, 1) := by decide +kernel
theorem d11_21 : decode method_4_code 21 = .ok (.iload 4, 2) := by decide +kernel
theorem d11_23 : decode method_4_code 23 = .ok (.isub, 1) := by decide +kernel
theorem d11_24 : decode method_4_code 24 = .ok (.imul, 1) := by decide +kernel
theorem d11_25 : decode method_4_code 25 = .ok (.isub, 1) := by decide +kernel
theorem d11_26 : decode method_4_code 26 = .ok (.ishr, 1) := by decide +kernel
theorem d11_27 : decode method_4_code 27 = .ok (.sipush 255, 3) := by decide +kernel
theorem d11_30 : decode method_4_code 30 = .ok (.iand, 1) := by decide +kernel
theorem d11_31 : decode method_4_code 31 = .ok (.istore 6, 2) := by decide +kernel
theorem d11_33 : decode method_4_code 33 = .ok (.goto 11, 3) := by decide +kernel
theorem d11_44 : decode method_4_code 44 = .ok (.aload_n 0, 1) := by decide +kernel
theorem d11_45 : decode method_4_code 45 = .ok (.iload_n 1, 1) := by decide +kernel
theorem d11_46 : decode method_4_code 46 = .ok (.baload, 1) := by decide +kernel
theorem d11_47 : decode method_4_code 47 = .ok (.sipush 255, 3) := by decide +kernel
theorem d11_50 : decode method_4_code 50 = .ok (.iand, 1) := by decide +kernel
theorem d11_51 : decode method_4_code 51 = .ok (.iload 6, 2) := by decide +kernel
theorem d11_53 : decode method_4_code 53 = .ok (.if_icmp .ne 7, 3) := by decide +kernel
theorem d11_56 : decode method_4_code 56 = .ok (.iconst 1, 1) := by decide +kernel
theorem d11_57 : decode method_4_code 57 = .ok (.goto 4, 3) := by decide +kernel
theorem d11_61 : decode method_4_code 61 = .ok (.ireturn, 1) := by decide +kernel
theorem ef_11_RIIIII (m : MethodId) (x0 : Addr) (x1 : Int32) (x2 : Int32) (x3 : Int32) (x4 : Int32) (x5 : Int32) : entryFrame m #[(.ref x0), (.int x1), (.int x2), (.int x3), (.int x4), (.int x5)] 7 = mkF m 0 #[.val (.ref x0), .val (.int x1), .val (.int x2), .val (.int x3), .val (.int x4), .val (.int x5), .unset] [] := by first | (simp [entryFrame, mkF, argsToLocals, Value.category]; done) | rfl
def Q_okV (Z : State) (a1 : Addr) (p2 : Int32) (p3 : Int32) (p4 : Int32) (p5 : Int32) (p6 : Int32) (k_a1 : ClassId) (n_a1 : Int32) (vs_a1 : List Value) (h0 : Heap) (n0 : Nat) (v : Option Value) (h : Heap) (L : List Loc) : Prop := v = some (.int (1 : Int32)) ∧ Fr n0 L ∧ h = h0
set_option maxRecDepth 65536 in
set_option maxHeartbeats 40000000 in
theorem rm_okV (l : Launch) (Z : State) (a0 : Array Value) (hw : ∀ d ∈ tables_1, d.before a0 Z = true) (ws : List Jvm.Cond) (a1 : Addr) (p2 : Int32) (p3 : Int32) (p4 : Int32) (p5 : Int32) (p6 : Int32) (k_a1 : ClassId) (n_a1 : Int32) (vs_a1 : List Value) (h0 : Heap) (n0 : Nat) (Z0 : n0 ≤ h0.size) (V_a1 : Arv Z h0 a1 k_a1 .byte n_a1 vs_a1 (.int (0 : Int32))) (hp0 : ¬ (p2 < (0 : Int32))) (hp1 : p2 < n_a1) (hc0 : ¬ (p2 < p5)) (hc1 : p2 < (p5 + (4 : Int32))) (hc2 : ((own_at vs_a1 (p2).toNatClampNeg (.int (0 : Int32))) &&& (255 : Int32)) = ((p6 >>> (((24 : Int32) - ((8 : Int32) * (p2 - p5))) &&& 31)) &&& (255 : Int32))) :
    MetFree l (⟨"com/example/herald/herald/bytecode/BytesPutU4PinLaw", "ok", "([BIIIII)Z"⟩ : MethodName) (head1 (Jvm.Cond.code (⟨"com/example/herald/herald/bytecode/BytesPutU4PinLaw", "ok", "([BIIIII)Z"⟩ : MethodName) method_4_code 7 (some .boolean) :: ws) ({ frames := 0, cells := 0, slots := 0, locals := 0 } : Room)) (fun a U => a = #[(.ref a1), (.int p2), (.int p3), (.int p4), (.int p5), (.int p6)] ∧ Z.Warmed39 U.vm ∧ U.heap = h0) (fun _ _ _ _ _ => True) (fun _ U o U' => ∃ v L, o = .returned v ∧ Q_okV Z a1 p2 p3 p4 p5 p6 k_a1 n_a1 vs_a1 h0 n0 v U'.heap L ∧ FrameEnd U o U' L ({ frames := 0, cells := 0, slots := 0, locals := 0 } : Room).cells ({ frames := 0, cells := 0, slots := 0, locals := 0 } : Room).slots) := by
  refine MetFree.of_bodySF (plainFor_of_name pn_com_example_herald_herald_bytecode_BytesPutU4PinLaw) hisR ?_
  intro p e s m args below meth c s₁ Bd hml0 hP hK
  obtain ⟨rfl, hZ, hh⟩ := hP
  have hx := Bd.exec
  have hby := Bd.bytes
  have hml : c.maxLocals = 7 := hml0
  have hown : s.vm.findClass "com/example/herald/herald/bytecode/BytesPutU4PinLaw" = some m.cls := findClass_of_methodNamed Bd.named
  have hnm := (name_of_methodNamed Bd.named Bd.method).1
  have X0 : Stand p l e ({ frames := 0, cells := 0, slots := 0, locals := 0 } : Room) s m #[(.ref a1), (.int p2), (.int p3), (.int p4), (.int p5), (.int p6)] below meth c s₁ [] 0 0 := Stand.of_body Bd
  have e0 : s₁.heap = h0 := by rw [← hh, Bd.state]; rfl
  have N0 := Fr.nil n0
  have pre0 : ∀ t, Steps p.tables e below (s₁.setTop (mkF m 0 #[.val (.ref a1), .val (.int p2), .val (.int p3), .val (.int p4), .val (.int p5), .val (.int p6), .unset] [])) t → Steps p.tables e below (s₁.setTop (entryFrame m #[(.ref a1), (.int p2), (.int p3), (.int p4), (.int p5), (.int p6)] 7)) t := fun t k => castTop (ef_11_RIIIII m a1 p2 p3 p4 p5 p6) k
  obtain ⟨clo1, Aro1, qo1, So1, No1, Ho1, Go1⟩ := id V_a1
  have hino1 : ¬ (p2 < 0 ∨ clo1.slots.size ≤ (p2).toNatClampNeg) := inb_of So1 ⟨hp0, hp1⟩
  obtain ⟨fs, hr, hrun, hended, hW, hsame⟩ := X0.leave (v := some (.int (1 : Int32))) (fun h => by rw [Bd.returns] at h; cases h) Bd.notSynchronized
  refine ⟨_, _, pre0 _ ?_, hrun, hended, _, _, rfl, ?_, ⟨_, rfl⟩, hW, hsame.mono (by decide) (by decide)⟩
  · show Steps p.tables e below (s₁.setTop (mkF m 0 #[.val (.ref a1), .val (.int p2), .val (.int p3), .val (.int p4), .val (.int p5), .val (.int p6), .unset] [])) _
    refine XS.iloadN X0.here hx rfl (hb hby d11_0) rfl ?_
    show Steps p.tables e below (s₁.setTop (mkF m 1 #[.val (.ref a1), .val (.int p2), .val (.int p3), .val (.int p4), .val (.int p5), .val (.int p6), .unset] [(.int p2)])) _
    refine XS.iload X0.here hx rfl (hb hby d11_1) rfl ?_
    show Steps p.tables e below (s₁.setTop (mkF m 3 #[.val (.ref a1), .val (.int p2), .val (.int p3), .val (.int p4), .val (.int p5), .val (.int p6), .unset] [(.int p5), (.int p2)])) _
    refine XS.icmpNo X0.here hx rfl (hb hby d11_3) rfl (flt hc0).1 ?_
    show Steps p.tables e below (s₁.setTop (mkF m 6 #[.val (.ref a1), .val (.int p2), .val (.int p3), .val (.int p4), .val (.int p5), .val (.int p6), .unset] [])) _
    refine XS.iloadN X0.here hx rfl (hb hby d11_6) rfl ?_
    show Steps p.tables e below (s₁.setTop (mkF m 7 #[.val (.ref a1), .val (.int p2), .val (.int p3), .val (.int p4), .val (.int p5), .val (.int p6), .unset] [(.int p2)])) _
    refine XS.iload X0.here hx rfl (hb hby d11_7) rfl ?_
    show Steps p.tables e below (s₁.setTop (mkF m 9 #[.val (.ref a1), .val (.int p2), .val (.int p3), .val (.int p4), .val (.int p5), .val (.int p6), .unset] [(.int p5), (.int p2)])) _
    refine XS.iconst X0.here hx rfl (hb hby d11_9) ?_
    show Steps p.tables e below (s₁.setTop (mkF m 10 #[.val (.ref a1), .val (.int p2), .val (.int p3), .val (.int p4), .val (.int p5), .val (.int p6), .unset] [(.int (4 : Int32)), (.int p5), (.int p2)])) _
    refine XS.iadd X0.here hx rfl (hb hby d11_10) rfl ?_
    show Steps p.tables e below (s₁.setTop (mkF m 11 #[.val (.ref a1), .val (.int p2), .val (.int p3), .val (.int p4), .val (.int p5), .val (.int p6), .unset] [(.int (p5 + (4 : Int32))), (.int p2)])) _
    refine XS.icmpNo X0.here hx rfl (hb hby d11_11) rfl (tlt hc1).2.1 ?_
    show Steps p.tables e below (s₁.setTop (mkF m 14 #[.val (.ref a1), .val (.int p2), .val (.int p3), .val (.int p4), .val (.int p5), .val (.int p6), .unset] [])) _
    refine XS.iload X0.here hx rfl (hb hby d11_14) rfl ?_
    show Steps p.tables e below (s₁.setTop (mkF m 16 #[.val (.ref a1), .val (.int p2), .val (.int p3), .val (.int p4), .val (.int p5), .val (.int p6), .unset] [(.int p6)])) _
    refine XS.bipush X0.here hx rfl (hb hby d11_16) ?_
    show Steps p.tables e below (s₁.setTop (mkF m 18 #[.val (.ref a1), .val (.int p2), .val (.int p3), .val (.int p4), .val (.int p5), .val (.int p6), .unset] [(.int (24 : Int32)), (.int p6)])) _
    refine XS.bipush X0.here hx rfl (hb hby d11_18) ?_
    show Steps p.tables e below (s₁.setTop (mkF m 20 #[.val (.ref a1), .val (.int p2), .val (.int p3), .val (.int p4), .val (.int p5), .val (.int p6), .unset] [(.int (8 : Int32)), (.int (24 : Int32)), (.int p6)])) _
    refine XS.iloadN X0.here hx rfl (hb hby d11_20) rfl ?_
    show Steps p.tables e below (s₁.setTop (mkF m 21 #[.val (.ref a1), .val (.int p2), .val (.int p3), .val (.int p4), .val (.int p5), .val (.int p6), .unset] [(.int p2), (.int (8 : Int32)), (.int (24 : Int32)), (.int p6)])) _
    refine XS.iload X0.here hx rfl (hb hby d11_21) rfl ?_
    show Steps p.tables e below (s₁.setTop (mkF m 23 #[.val (.ref a1), .val (.int p2), .val (.int p3), .val (.int p4), .val (.int p5), .val (.int p6), .unset] [(.int p5), (.int p2), (.int (8 : Int32)), (.int (24 : Int32)), (.int p6)])) _
    refine XS.isub X0.here hx rfl (hb hby d11_23) rfl ?_
    show Steps p.tables e below (s₁.setTop (mkF m 24 #[.val (.ref a1), .val (.int p2), .val (.int p3), .val (.int p4), .val (.int p5), .val (.int p6), .unset] [(.int (p2 - p5)), (.int (8 : Int32)), (.int (24 : Int32)), (.int p6)])) _
    refine XS.imul X0.here hx rfl (hb hby d11_24) rfl ?_
    show Steps p.tables e below (s₁.setTop (mkF m 25 #[.val (.ref a1), .val (.int p2), .val (.int p3), .val (.int p4), .val (.int p5), .val (.int p6), .unset] [(.int ((8 : Int32) * (p2 - p5))), (.int (24 : Int32)), (.int p6)])) _
    refine XS.isub X0.here hx rfl (hb hby d11_25) rfl ?_
    show Steps p.tables e below (s₁.setTop (mkF m 26 #[.val (.ref a1), .val (.int p2), .val (.int p3), .val (.int p4), .val (.int p5), .val (.int p6), .unset] [(.int ((24 : Int32) - ((8 : Int32) * (p2 - p5)))), (.int p6)])) _
    refine XS.ishr X0.here hx rfl (hb hby d11_26) rfl ?_
    show Steps p.tables e below (s₁.setTop (mkF m 27 #[.val (.ref a1), .val (.int p2), .val (.int p3), .val (.int p4), .val (.int p5), .val (.int p6), .unset] [(.int (p6 >>> (((24 : Int32) - ((8 : Int32) * (p2 - p5))) &&& 31)))])) _
    refine XS.sipush X0.here hx rfl (hb hby d11_27) ?_
    show Steps p.tables e below (s₁.setTop (mkF m 30 #[.val (.ref a1), .val (.int p2), .val (.int p3), .val (.int p4), .val (.int p5), .val (.int p6), .unset] [(.int (255 : Int32)), (.int (p6 >>> (((24 : Int32) - ((8 : Int32) * (p2 - p5))) &&& 31)))])) _
    refine XS.iand X0.here hx rfl (hb hby d11_30) rfl ?_
    show Steps p.tables e below (s₁.setTop (mkF m 31 #[.val (.ref a1), .val (.int p2), .val (.int p3), .val (.int p4), .val (.int p5), .val (.int p6), .unset] [(.int ((p6 >>> (((24 : Int32) - ((8 : Int32) * (p2 - p5))) &&& 31)) &&& (255 : Int32)))])) _
    refine XS.istore X0.here hx rfl (hb hby d11_31) rfl (l' := #[.val (.ref a1), .val (.int p2), .val (.int p3), .val (.int p4), .val (.int p5), .val (.int p6), .val (.int ((p6 >>> (((24 : Int32) - ((8 : Int32) * (p2 - p5))) &&& 31)) &&& (255 : Int32)))]) rfl ?_
    show Steps p.tables e below (s₁.setTop (mkF m 33 #[.val (.ref a1), .val (.int p2), .val (.int p3), .val (.int p4), .val (.int p5), .val (.int p6), .val (.int ((p6 >>> (((24 : Int32) - ((8 : Int32) * (p2 - p5))) &&& 31)) &&& (255 : Int32)))] [])) _
    refine XS.goto X0.here hx rfl (pc0 := 33) (pc' := 44) rfl (hb hby d11_33) (by decide) (by decide) ?_
    show Steps p.tables e below (s₁.setTop (mkF m 44 #[.val (.ref a1), .val (.int p2), .val (.int p3), .val (.int p4), .val (.int p5), .val (.int p6), .val (.int ((p6 >>> (((24 : Int32) - ((8 : Int32) * (p2 - p5))) &&& 31)) &&& (255 : Int32)))] [])) _
    refine XS.aloadN X0.here hx rfl (hb hby d11_44) rfl rfl ?_
    show Steps p.tables e below (s₁.setTop (mkF m 45 #[.val (.ref a1), .val (.int p2), .val (.int p3), .val (.int p4), .val (.int p5), .val (.int p6), .val (.int ((p6 >>> (((24 : Int32) - ((8 : Int32) * (p2 - p5))) &&& 31)) &&& (255 : Int32)))] [(.ref a1)])) _
    refine XS.iloadN X0.here hx rfl (hb hby d11_45) rfl ?_
    show Steps p.tables e below (s₁.setTop (mkF m 46 #[.val (.ref a1), .val (.int p2), .val (.int p3), .val (.int p4), .val (.int p5), .val (.int p6), .val (.int ((p6 >>> (((24 : Int32) - ((8 : Int32) * (p2 - p5))) &&& 31)) &&& (255 : Int32)))] [(.int p2), (.ref a1)])) _
    refine X0.baloadBytes hx (j := p2) (v := (.int (own_at vs_a1 (p2).toNatClampNeg (.int (0 : Int32))))) (by rw [e0]; exact Aro1.1) (State.isArrayOf_alike hZ.alike Aro1.2.1) Aro1.2.2 hino1 (Ho1.at hino1 (own_at_eq (Go1 _ (Nat.lt_of_not_le fun y => hino1 (Or.inr y))) (by simp))) (g := (mkF m 46 #[.val (.ref a1), .val (.int p2), .val (.int p3), .val (.int p4), .val (.int p5), .val (.int p6), .val (.int ((p6 >>> (((24 : Int32) - ((8 : Int32) * (p2 - p5))) &&& 31)) &&& (255 : Int32)))] [(.int p2), (.ref a1)])) rfl rfl (hb hby d11_46) _ ?_
    show Steps p.tables e below (s₁.setTop (mkF m 47 #[.val (.ref a1), .val (.int p2), .val (.int p3), .val (.int p4), .val (.int p5), .val (.int p6), .val (.int ((p6 >>> (((24 : Int32) - ((8 : Int32) * (p2 - p5))) &&& 31)) &&& (255 : Int32)))] [(.int (own_at vs_a1 (p2).toNatClampNeg (.int (0 : Int32))))])) _
    refine XS.sipush X0.here hx rfl (hb hby d11_47) ?_
    show Steps p.tables e below (s₁.setTop (mkF m 50 #[.val (.ref a1), .val (.int p2), .val (.int p3), .val (.int p4), .val (.int p5), .val (.int p6), .val (.int ((p6 >>> (((24 : Int32) - ((8 : Int32) * (p2 - p5))) &&& 31)) &&& (255 : Int32)))] [(.int (255 : Int32)), (.int (own_at vs_a1 (p2).toNatClampNeg (.int (0 : Int32))))])) _
    refine XS.iand X0.here hx rfl (hb hby d11_50) rfl ?_
    show Steps p.tables e below (s₁.setTop (mkF m 51 #[.val (.ref a1), .val (.int p2), .val (.int p3), .val (.int p4), .val (.int p5), .val (.int p6), .val (.int ((p6 >>> (((24 : Int32) - ((8 : Int32) * (p2 - p5))) &&& 31)) &&& (255 : Int32)))] [(.int ((own_at vs_a1 (p2).toNatClampNeg (.int (0 : Int32))) &&& (255 : Int32)))])) _
    refine XS.iload X0.here hx rfl (hb hby d11_51) rfl ?_
    show Steps p.tables e below (s₁.setTop (mkF m 53 #[.val (.ref a1), .val (.int p2), .val (.int p3), .val (.int p4), .val (.int p5), .val (.int p6), .val (.int ((p6 >>> (((24 : Int32) - ((8 : Int32) * (p2 - p5))) &&& 31)) &&& (255 : Int32)))] [(.int ((p6 >>> (((24 : Int32) - ((8 : Int32) * (p2 - p5))) &&& 31)) &&& (255 : Int32))), (.int ((own_at vs_a1 (p2).toNatClampNeg (.int (0 : Int32))) &&& (255 : Int32)))])) _
    refine XS.icmpNo X0.here hx rfl (hb hby d11_53) rfl (teq hc2).2 ?_
    show Steps p.tables e below (s₁.setTop (mkF m 56 #[.val (.ref a1), .val (.int p2), .val (.int p3), .val (.int p4), .val (.int p5), .val (.int p6), .val (.int ((p6 >>> (((24 : Int32) - ((8 : Int32) * (p2 - p5))) &&& 31)) &&& (255 : Int32)))] [])) _
    refine XS.iconst X0.here hx rfl (hb hby d11_56) ?_
    show Steps p.tables e below (s₁.setTop (mkF m 57 #[.val (.ref a1), .val (.int p2), .val (.int p3), .val (.int p4), .val (.int p5), .val (.int p6), .val (.int ((p6 >>> (((24 : Int32) - ((8 : Int32) * (p2 - p5))) &&& 31)) &&& (255 : Int32)))] [(.int (1 : Int32))])) _
    refine XS.goto X0.here hx rfl (pc0 := 57) (pc' := 61) rfl (hb hby d11_57) (by decide) (by decide) ?_
    show Steps p.tables e below (s₁.setTop (mkF m 61 #[.val (.ref a1), .val (.int p2), .val (.int p3), .val (.int p4), .val (.int p5), .val (.int p6), .val (.int ((p6 >>> (((24 : Int32) - ((8 : Int32) * (p2 - p5))) &&& 31)) &&& (255 : Int32)))] [(.int (1 : Int32))])) _
    exact retN X0 hx (t := .boolean) Bd.returns (by simp) (hb hby d11_61) hr
  · show Q_okV Z a1 p2 p3 p4 p5 p6 k_a1 n_a1 vs_a1 h0 n0 _ s₁.heap _
    rw [e0]
    exact ⟨rfl, N0, rfl⟩
theorem pd_3 : parseMethodDescriptor "(III)I" = some ⟨[.int, .int, .int], some .int⟩ := by decide +kernel
theorem d11_36 : decode method_4_code 36 = .ok (.iload_n 1, 1) := by decide +kernel
theorem d11_37 : decode method_4_code 37 = .ok (.iload_n 2, 1) := by decide +kernel
theorem d11_38 : decode method_4_code 38 = .ok (.iload_n 3, 1) := by decide +kernel
theorem d11_39 : decode method_4_code 39 = .ok (.invokestatic 34, 3) := by decide +kernel
theorem d11_42 : decode method_4_code 42 = .ok (.istore 6, 2) := by decide +kernel
def Q_okA (Z : State) (a1 : Addr) (p2 : Int32) (p3 : Int32) (p4 : Int32) (p5 : Int32) (p6 : Int32) (k_a1 : ClassId) (n_a1 : Int32) (vs_a1 : List Value) (h0 : Heap) (n0 : Nat) (v : Option Value) (h : Heap) (L : List Loc) : Prop := v = some (.int (1 : Int32)) ∧ Fr n0 L ∧ h = h0
set_option maxRecDepth 65536 in
set_option maxHeartbeats 40000000 in
theorem rm_okA (l : Launch) (Z : State) (a0 : Array Value) (hw : ∀ d ∈ tables_1, d.before a0 Z = true) (ws : List Jvm.Cond) (a1 : Addr) (p2 : Int32) (p3 : Int32) (p4 : Int32) (p5 : Int32) (p6 : Int32) (k_a1 : ClassId) (n_a1 : Int32) (vs_a1 : List Value) (h0 : Heap) (n0 : Nat) (Z0 : n0 ≤ h0.size) (V_a1 : Arv Z h0 a1 k_a1 .byte n_a1 vs_a1 (.int (0 : Int32))) (hp0 : ¬ (p2 < (0 : Int32))) (hp1 : p2 < n_a1) (hc0 : p2 < p5) (hc1 : ((own_at vs_a1 (p2).toNatClampNeg (.int (0 : Int32))) &&& (255 : Int32)) = (f_orig p2 p3 p4)) :
    MetFree l (⟨"com/example/herald/herald/bytecode/BytesPutU4PinLaw", "ok", "([BIIIII)Z"⟩ : MethodName) (head1 (Jvm.Cond.code (⟨"com/example/herald/herald/bytecode/BytesPutU4PinLaw", "ok", "([BIIIII)Z"⟩ : MethodName) method_4_code 7 (some .boolean) :: ws) ({ frames := 1, cells := 0, slots := 0, locals := 16 } : Room)) (fun a U => a = #[(.ref a1), (.int p2), (.int p3), (.int p4), (.int p5), (.int p6)] ∧ Z.Warmed39 U.vm ∧ U.heap = h0) (fun _ _ _ _ _ => True) (fun _ U o U' => ∃ v L, o = .returned v ∧ Q_okA Z a1 p2 p3 p4 p5 p6 k_a1 n_a1 vs_a1 h0 n0 v U'.heap L ∧ FrameEnd U o U' L ({ frames := 1, cells := 0, slots := 0, locals := 16 } : Room).cells ({ frames := 1, cells := 0, slots := 0, locals := 16 } : Room).slots) := by
  refine MetFree.of_bodySF (plainFor_of_name pn_com_example_herald_herald_bytecode_BytesPutU4PinLaw) hisR ?_
  intro p e s m args below meth c s₁ Bd hml0 hP hK
  obtain ⟨rfl, hZ, hh⟩ := hP
  have hx := Bd.exec
  have hby := Bd.bytes
  have hml : c.maxLocals = 7 := hml0
  have hown : s.vm.findClass "com/example/herald/herald/bytecode/BytesPutU4PinLaw" = some m.cls := findClass_of_methodNamed Bd.named
  have hnm := (name_of_methodNamed Bd.named Bd.method).1
  have X0 : Stand p l e ({ frames := 1, cells := 0, slots := 0, locals := 16 } : Room) s m #[(.ref a1), (.int p2), (.int p3), (.int p4), (.int p5), (.int p6)] below meth c s₁ [] 0 0 := Stand.of_body Bd
  have e0 : s₁.heap = h0 := by rw [← hh, Bd.state]; rfl
  have N0 := Fr.nil n0
  have pre0 : ∀ t, Steps p.tables e below (s₁.setTop (mkF m 0 #[.val (.ref a1), .val (.int p2), .val (.int p3), .val (.int p4), .val (.int p5), .val (.int p6), .unset] [])) t → Steps p.tables e below (s₁.setTop (entryFrame m #[(.ref a1), (.int p2), (.int p3), (.int p4), (.int p5), (.int p6)] 7)) t := fun t k => castTop (ef_11_RIIIII m a1 p2 p3 p4 p5 p6) k
  obtain ⟨_, _, ⟨T1, L1, k1, n1⟩, -, X1, ⟨Lc1, hQ1, l1, y1, z1⟩, st1⟩ := Jvm.LawKit.callS X0 hx (y := (⟨"com/example/herald/herald/bytecode/BytesPutU4PinLaw", "orig", "(III)I"⟩ : MethodName)) hown (mvT hZ (hw _ (List.mem_of_getElem? (i := 67) rfl))) (mvT hZ (hw _ (List.mem_of_getElem? (i := 68) rfl))) (mvT hZ (hw _ (List.mem_of_getElem? (i := 65) rfl))) (mvT hZ (hw _ (List.mem_of_getElem? (i := 69) rfl))) (by decide) (backOf (W := 0) (rm_orig l Z a0 hw [] p2 p3 p4 h0 n0 Z0 ) hZ (hw _ (List.mem_of_getElem? (i := 69) rfl)) (hw _ (List.mem_of_getElem? (i := 65) rfl)) (by decide) (by decide)) (g := (mkF m 39 #[.val (.ref a1), .val (.int p2), .val (.int p3), .val (.int p4), .val (.int p5), .val (.int p6), .unset] [(.int p4), (.int p3), (.int p2)])) rfl (by rw [hml]; rfl) (argsL := [(.int p2), (.int p3), (.int p4)]) (rest := []) (lenOf pd_3 rfl) rfl (by show 2 * 0 + _ ≤ _; exact Nat.le_of_eq rfl) (hb hby d11_39) (fun _ _ => ⟨rfl, e0, (by decide : 0 + 0 ≤ _), (by decide : 0 + 0 ≤ _)⟩)
  dsimp only [Pt.U, Pt.locs, Pt.cells, Pt.slots] at X1 l1 y1 z1 st1 hQ1
  subst l1 y1 z1
  obtain ⟨rfl, Nq1, e1⟩ := hQ1
  have N2 := Fr.app N0 Nq1
  obtain ⟨clo3, Aro3, qo3, So3, No3, Ho3, Go3⟩ := id V_a1
  have hino3 : ¬ (p2 < 0 ∨ clo3.slots.size ≤ (p2).toNatClampNeg) := inb_of So3 ⟨hp0, hp1⟩
  obtain ⟨fs, hr, hrun, hended, hW, hsame⟩ := X1.leave (v := some (.int (1 : Int32))) (fun h => by rw [Bd.returns] at h; cases h) Bd.notSynchronized
  refine ⟨_, _, pre0 _ ?_, hrun, hended, _, _, rfl, ?_, ⟨_, rfl⟩, hW, hsame.mono (by decide) (by decide)⟩
  · show Steps p.tables e below (s₁.setTop (mkF m 0 #[.val (.ref a1), .val (.int p2), .val (.int p3), .val (.int p4), .val (.int p5), .val (.int p6), .unset] [])) _
    refine XS.iloadN X0.here hx rfl (hb hby d11_0) rfl ?_
    show Steps p.tables e below (s₁.setTop (mkF m 1 #[.val (.ref a1), .val (.int p2), .val (.int p3), .val (.int p4), .val (.int p5), .val (.int p6), .unset] [(.int p2)])) _
    refine XS.iload X0.here hx rfl (hb hby d11_1) rfl ?_
    show Steps p.tables e below (s₁.setTop (mkF m 3 #[.val (.ref a1), .val (.int p2), .val (.int p3), .val (.int p4), .val (.int p5), .val (.int p6), .unset] [(.int p5), (.int p2)])) _
    refine XS.icmpYes X0.here hx rfl (pc0 := 3) (pc' := 36) rfl (hb hby d11_3) rfl (tlt hc0).1 (by decide) (by decide) ?_
    show Steps p.tables e below (s₁.setTop (mkF m 36 #[.val (.ref a1), .val (.int p2), .val (.int p3), .val (.int p4), .val (.int p5), .val (.int p6), .unset] [])) _
    refine XS.iloadN X0.here hx rfl (hb hby d11_36) rfl ?_
    show Steps p.tables e below (s₁.setTop (mkF m 37 #[.val (.ref a1), .val (.int p2), .val (.int p3), .val (.int p4), .val (.int p5), .val (.int p6), .unset] [(.int p2)])) _
    refine XS.iloadN X0.here hx rfl (hb hby d11_37) rfl ?_
    show Steps p.tables e below (s₁.setTop (mkF m 38 #[.val (.ref a1), .val (.int p2), .val (.int p3), .val (.int p4), .val (.int p5), .val (.int p6), .unset] [(.int p3), (.int p2)])) _
    refine XS.iloadN X0.here hx rfl (hb hby d11_38) rfl ?_
    show Steps p.tables e below (s₁.setTop (mkF m 39 #[.val (.ref a1), .val (.int p2), .val (.int p3), .val (.int p4), .val (.int p5), .val (.int p6), .unset] [(.int p4), (.int p3), (.int p2)])) _
    refine st1 _ ?_
    show Steps p.tables e below (T1.setTop (mkF m 42 #[.val (.ref a1), .val (.int p2), .val (.int p3), .val (.int p4), .val (.int p5), .val (.int p6), .unset] [(.int (f_orig p2 p3 p4))])) _
    refine XS.istore X1.here hx rfl (hb hby d11_42) rfl (l' := #[.val (.ref a1), .val (.int p2), .val (.int p3), .val (.int p4), .val (.int p5), .val (.int p6), .val (.int (f_orig p2 p3 p4))]) rfl ?_
    show Steps p.tables e below (T1.setTop (mkF m 44 #[.val (.ref a1), .val (.int p2), .val (.int p3), .val (.int p4), .val (.int p5), .val (.int p6), .val (.int (f_orig p2 p3 p4))] [])) _
    refine XS.aloadN X1.here hx rfl (hb hby d11_44) rfl rfl ?_
    show Steps p.tables e below (T1.setTop (mkF m 45 #[.val (.ref a1), .val (.int p2), .val (.int p3), .val (.int p4), .val (.int p5), .val (.int p6), .val (.int (f_orig p2 p3 p4))] [(.ref a1)])) _
    refine XS.iloadN X1.here hx rfl (hb hby d11_45) rfl ?_
    show Steps p.tables e below (T1.setTop (mkF m 46 #[.val (.ref a1), .val (.int p2), .val (.int p3), .val (.int p4), .val (.int p5), .val (.int p6), .val (.int (f_orig p2 p3 p4))] [(.int p2), (.ref a1)])) _
    refine X1.baloadBytes hx (j := p2) (v := (.int (own_at vs_a1 (p2).toNatClampNeg (.int (0 : Int32))))) (by rw [e1]; exact Aro3.1) (State.isArrayOf_alike hZ.alike Aro3.2.1) Aro3.2.2 hino3 (Ho3.at hino3 (own_at_eq (Go3 _ (Nat.lt_of_not_le fun y => hino3 (Or.inr y))) (by simp))) (g := (mkF m 46 #[.val (.ref a1), .val (.int p2), .val (.int p3), .val (.int p4), .val (.int p5), .val (.int p6), .val (.int (f_orig p2 p3 p4))] [(.int p2), (.ref a1)])) rfl rfl (hb hby d11_46) _ ?_
    show Steps p.tables e below (T1.setTop (mkF m 47 #[.val (.ref a1), .val (.int p2), .val (.int p3), .val (.int p4), .val (.int p5), .val (.int p6), .val (.int (f_orig p2 p3 p4))] [(.int (own_at vs_a1 (p2).toNatClampNeg (.int (0 : Int32))))])) _
    refine XS.sipush X1.here hx rfl (hb hby d11_47) ?_
    show Steps p.tables e below (T1.setTop (mkF m 50 #[.val (.ref a1), .val (.int p2), .val (.int p3), .val (.int p4), .val (.int p5), .val (.int p6), .val (.int (f_orig p2 p3 p4))] [(.int (255 : Int32)), (.int (own_at vs_a1 (p2).toNatClampNeg (.int (0 : Int32))))])) _
    refine XS.iand X1.here hx rfl (hb hby d11_50) rfl ?_
    show Steps p.tables e below (T1.setTop (mkF m 51 #[.val (.ref a1), .val (.int p2), .val (.int p3), .val (.int p4), .val (.int p5), .val (.int p6), .val (.int (f_orig p2 p3 p4))] [(.int ((own_at vs_a1 (p2).toNatClampNeg (.int (0 : Int32))) &&& (255 : Int32)))])) _
    refine XS.iload X1.here hx rfl (hb hby d11_51) rfl ?_
    show Steps p.tables e below (T1.setTop (mkF m 53 #[.val (.ref a1), .val (.int p2), .val (.int p3), .val (.int p4), .val (.int p5), .val (.int p6), .val (.int (f_orig p2 p3 p4))] [(.int (f_orig p2 p3 p4)), (.int ((own_at vs_a1 (p2).toNatClampNeg (.int (0 : Int32))) &&& (255 : Int32)))])) _
    refine XS.icmpNo X1.here hx rfl (hb hby d11_53) rfl (teq hc1).2 ?_
    show Steps p.tables e below (T1.setTop (mkF m 56 #[.val (.ref a1), .val (.int p2), .val (.int p3), .val (.int p4), .val (.int p5), .val (.int p6), .val (.int (f_orig p2 p3 p4))] [])) _
    refine XS.iconst X1.here hx rfl (hb hby d11_56) ?_
    show Steps p.tables e below (T1.setTop (mkF m 57 #[.val (.ref a1), .val (.int p2), .val (.int p3), .val (.int p4), .val (.int p5), .val (.int p6), .val (.int (f_orig p2 p3 p4))] [(.int (1 : Int32))])) _
    refine XS.goto X1.here hx rfl (pc0 := 57) (pc' := 61) rfl (hb hby d11_57) (by decide) (by decide) ?_
    show Steps p.tables e below (T1.setTop (mkF m 61 #[.val (.ref a1), .val (.int p2), .val (.int p3), .val (.int p4), .val (.int p5), .val (.int p6), .val (.int (f_orig p2 p3 p4))] [(.int (1 : Int32))])) _
    exact retN X1 hx (t := .boolean) Bd.returns (by simp) (hb hby d11_61) hr
  · show Q_okA Z a1 p2 p3 p4 p5 p6 k_a1 n_a1 vs_a1 h0 n0 _ T1.heap _
    rw [e1]
    exact ⟨rfl, N2, rfl⟩
def Q_okB (Z : State) (a1 : Addr) (p2 : Int32) (p3 : Int32) (p4 : Int32) (p5 : Int32) (p6 : Int32) (k_a1 : ClassId) (n_a1 : Int32) (vs_a1 : List Value) (h0 : Heap) (n0 : Nat) (v : Option Value) (h : Heap) (L : List Loc) : Prop := v = some (.int (1 : Int32)) ∧ Fr n0 L ∧ h = h0
set_option maxRecDepth 65536 in
set_option maxHeartbeats 40000000 in
theorem rm_okB (l : Launch) (Z : State) (a0 : Array Value) (hw : ∀ d ∈ tables_1, d.before a0 Z = true) (ws : List Jvm.Cond) (a1 : Addr) (p2 : Int32) (p3 : Int32) (p4 : Int32) (p5 : Int32) (p6 : Int32) (k_a1 : ClassId) (n_a1 : Int32) (vs_a1 : List Value) (h0 : Heap) (n0 : Nat) (Z0 : n0 ≤ h0.size) (V_a1 : Arv Z h0 a1 k_a1 .byte n_a1 vs_a1 (.int (0 : Int32))) (hp0 : ¬ (p2 < (0 : Int32))) (hp1 : p2 < n_a1) (hc0 : ¬ (p2 < p5)) (hc1 : ¬ (p2 < (p5 + (4 : Int32)))) (hc2 : ((own_at vs_a1 (p2).toNatClampNeg (.int (0 : Int32))) &&& (255 : Int32)) = (f_orig p2 p3 p4)) :
    MetFree l (⟨"com/example/herald/herald/bytecode/BytesPutU4PinLaw", "ok", "([BIIIII)Z"⟩ : MethodName) (head1 (Jvm.Cond.code (⟨"com/example/herald/herald/bytecode/BytesPutU4PinLaw", "ok", "([BIIIII)Z"⟩ : MethodName) method_4_code 7 (some .boolean) :: ws) ({ frames := 1, cells := 0, slots := 0, locals := 16 } : Room)) (fun a U => a = #[(.ref a1), (.int p2), (.int p3), (.int p4), (.int p5), (.int p6)] ∧ Z.Warmed39 U.vm ∧ U.heap = h0) (fun _ _ _ _ _ => True) (fun _ U o U' => ∃ v L, o = .returned v ∧ Q_okB Z a1 p2 p3 p4 p5 p6 k_a1 n_a1 vs_a1 h0 n0 v U'.heap L ∧ FrameEnd U o U' L ({ frames := 1, cells := 0, slots := 0, locals := 16 } : Room).cells ({ frames := 1, cells := 0, slots := 0, locals := 16 } : Room).slots) := by
  refine MetFree.of_bodySF (plainFor_of_name pn_com_example_herald_herald_bytecode_BytesPutU4PinLaw) hisR ?_
  intro p e s m args below meth c s₁ Bd hml0 hP hK
  obtain ⟨rfl, hZ, hh⟩ := hP
  have hx := Bd.exec
  have hby := Bd.bytes
  have hml : c.maxLocals = 7 := hml0
  have hown : s.vm.findClass "com/example/herald/herald/bytecode/BytesPutU4PinLaw" = some m.cls := findClass_of_methodNamed Bd.named
  have hnm := (name_of_methodNamed Bd.named Bd.method).1
  have X0 : Stand p l e ({ frames := 1, cells := 0, slots := 0, locals := 16 } : Room) s m #[(.ref a1), (.int p2), (.int p3), (.int p4), (.int p5), (.int p6)] below meth c s₁ [] 0 0 := Stand.of_body Bd
  have e0 : s₁.heap = h0 := by rw [← hh, Bd.state]; rfl
  have N0 := Fr.nil n0
  have pre0 : ∀ t, Steps p.tables e below (s₁.setTop (mkF m 0 #[.val (.ref a1), .val (.int p2), .val (.int p3), .val (.int p4), .val (.int p5), .val (.int p6), .unset] [])) t → Steps p.tables e below (s₁.setTop (entryFrame m #[(.ref a1), (.int p2), (.int p3), (.int p4), (.int p5), (.int p6)] 7)) t := fun t k => castTop (ef_11_RIIIII m a1 p2 p3 p4 p5 p6) k
  obtain ⟨_, _, ⟨T1, L1, k1, n1⟩, -, X1, ⟨Lc1, hQ1, l1, y1, z1⟩, st1⟩ := Jvm.LawKit.callS X0 hx (y := (⟨"com/example/herald/herald/bytecode/BytesPutU4PinLaw", "orig", "(III)I"⟩ : MethodName)) hown (mvT hZ (hw _ (List.mem_of_getElem? (i := 67) rfl))) (mvT hZ (hw _ (List.mem_of_getElem? (i := 68) rfl))) (mvT hZ (hw _ (List.mem_of_getElem? (i := 65) rfl))) (mvT hZ (hw _ (List.mem_of_getElem? (i := 69) rfl))) (by decide) (backOf (W := 0) (rm_orig l Z a0 hw [] p2 p3 p4 h0 n0 Z0 ) hZ (hw _ (List.mem_of_getElem? (i := 69) rfl)) (hw _ (List.mem_of_getElem? (i := 65) rfl)) (by decide) (by decide)) (g := (mkF m 39 #[.val (.ref a1), .val (.int p2), .val (.int p3), .val (.int p4), .val (.int p5), .val (.int p6), .unset] [(.int p4), (.int p3), (.int p2)])) rfl (by rw [hml]; rfl) (argsL := [(.int p2), (.int p3), (.int p4)]) (rest := []) (lenOf pd_3 rfl) rfl (by show 2 * 0 + _ ≤ _; exact Nat.le_of_eq rfl) (hb hby d11_39) (fun _ _ => ⟨rfl, e0, (by decide : 0 + 0 ≤ _), (by decide : 0 + 0 ≤ _)⟩)
  dsimp only [Pt.U, Pt.locs, Pt.cells, Pt.slots] at X1 l1 y1 z1 st1 hQ1
  subst l1 y1 z1
  obtain ⟨rfl, Nq1, e1⟩ := hQ1
  have N2 := Fr.app N0 Nq1
  obtain ⟨clo3, Aro3, qo3, So3, No3, Ho3, Go3⟩ := id V_a1
  have hino3 : ¬ (p2 < 0 ∨ clo3.slots.size ≤ (p2).toNatClampNeg) := inb_of So3 ⟨hp0, hp1⟩
  obtain ⟨fs, hr, hrun, hended, hW, hsame⟩ := X1.leave (v := some (.int (1 : Int32))) (fun h => by rw [Bd.returns] at h; cases h) Bd.notSynchronized
  refine ⟨_, _, pre0 _ ?_, hrun, hended, _, _, rfl, ?_, ⟨_, rfl⟩, hW, hsame.mono (by decide) (by decide)⟩
  · show Steps p.tables e below (s₁.setTop (mkF m 0 #[.val (.ref a1), .val (.int p2), .val (.int p3), .val (.int p4), .val (.int p5), .val (.int p6), .unset] [])) _
    refine XS.iloadN X0.here hx rfl (hb hby d11_0) rfl ?_
    show Steps p.tables e below (s₁.setTop (mkF m 1 #[.val (.ref a1), .val (.int p2), .val (.int p3), .val (.int p4), .val (.int p5), .val (.int p6), .unset] [(.int p2)])) _
    refine XS.iload X0.here hx rfl (hb hby d11_1) rfl ?_
    show Steps p.tables e below (s₁.setTop (mkF m 3 #[.val (.ref a1), .val (.int p2), .val (.int p3), .val (.int p4), .val (.int p5), .val (.int p6), .unset] [(.int p5), (.int p2)])) _
    refine XS.icmpNo X0.here hx rfl (hb hby d11_3) rfl (flt hc0).1 ?_
    show Steps p.tables e below (s₁.setTop (mkF m 6 #[.val (.ref a1), .val (.int p2), .val (.int p3), .val (.int p4), .val (.int p5), .val (.int p6), .unset] [])) _
    refine XS.iloadN X0.here hx rfl (hb hby d11_6) rfl ?_
    show Steps p.tables e below (s₁.setTop (mkF m 7 #[.val (.ref a1), .val (.int p2), .val (.int p3), .val (.int p4), .val (.int p5), .val (.int p6), .unset] [(.int p2)])) _
    refine XS.iload X0.here hx rfl (hb hby d11_7) rfl ?_
    show Steps p.tables e below (s₁.setTop (mkF m 9 #[.val (.ref a1), .val (.int p2), .val (.int p3), .val (.int p4), .val (.int p5), .val (.int p6), .unset] [(.int p5), (.int p2)])) _
    refine XS.iconst X0.here hx rfl (hb hby d11_9) ?_
    show Steps p.tables e below (s₁.setTop (mkF m 10 #[.val (.ref a1), .val (.int p2), .val (.int p3), .val (.int p4), .val (.int p5), .val (.int p6), .unset] [(.int (4 : Int32)), (.int p5), (.int p2)])) _
    refine XS.iadd X0.here hx rfl (hb hby d11_10) rfl ?_
    show Steps p.tables e below (s₁.setTop (mkF m 11 #[.val (.ref a1), .val (.int p2), .val (.int p3), .val (.int p4), .val (.int p5), .val (.int p6), .unset] [(.int (p5 + (4 : Int32))), (.int p2)])) _
    refine XS.icmpYes X0.here hx rfl (pc0 := 11) (pc' := 36) rfl (hb hby d11_11) rfl (flt hc1).2.1 (by decide) (by decide) ?_
    show Steps p.tables e below (s₁.setTop (mkF m 36 #[.val (.ref a1), .val (.int p2), .val (.int p3), .val (.int p4), .val (.int p5), .val (.int p6), .unset] [])) _
    refine XS.iloadN X0.here hx rfl (hb hby d11_36) rfl ?_
    show Steps p.tables e below (s₁.setTop (mkF m 37 #[.val (.ref a1), .val (.int p2), .val (.int p3), .val (.int p4), .val (.int p5), .val (.int p6), .unset] [(.int p2)])) _
    refine XS.iloadN X0.here hx rfl (hb hby d11_37) rfl ?_
    show Steps p.tables e below (s₁.setTop (mkF m 38 #[.val (.ref a1), .val (.int p2), .val (.int p3), .val (.int p4), .val (.int p5), .val (.int p6), .unset] [(.int p3), (.int p2)])) _
    refine XS.iloadN X0.here hx rfl (hb hby d11_38) rfl ?_
    show Steps p.tables e below (s₁.setTop (mkF m 39 #[.val (.ref a1), .val (.int p2), .val (.int p3), .val (.int p4), .val (.int p5), .val (.int p6), .unset] [(.int p4), (.int p3), (.int p2)])) _
    refine st1 _ ?_
    show Steps p.tables e below (T1.setTop (mkF m 42 #[.val (.ref a1), .val (.int p2), .val (.int p3), .val (.int p4), .val (.int p5), .val (.int p6), .unset] [(.int (f_orig p2 p3 p4))])) _
    refine XS.istore X1.here hx rfl (hb hby d11_42) rfl (l' := #[.val (.ref a1), .val (.int p2), .val (.int p3), .val (.int p4), .val (.int p5), .val (.int p6), .val (.int (f_orig p2 p3 p4))]) rfl ?_
    show Steps p.tables e below (T1.setTop (mkF m 44 #[.val (.ref a1), .val (.int p2), .val (.int p3), .val (.int p4), .val (.int p5), .val (.int p6), .val (.int (f_orig p2 p3 p4))] [])) _
    refine XS.aloadN X1.here hx rfl (hb hby d11_44) rfl rfl ?_
    show Steps p.tables e below (T1.setTop (mkF m 45 #[.val (.ref a1), .val (.int p2), .val (.int p3), .val (.int p4), .val (.int p5), .val (.int p6), .val (.int (f_orig p2 p3 p4))] [(.ref a1)])) _
    refine XS.iloadN X1.here hx rfl (hb hby d11_45) rfl ?_
    show Steps p.tables e below (T1.setTop (mkF m 46 #[.val (.ref a1), .val (.int p2), .val (.int p3), .val (.int p4), .val (.int p5), .val (.int p6), .val (.int (f_orig p2 p3 p4))] [(.int p2), (.ref a1)])) _
    refine X1.baloadBytes hx (j := p2) (v := (.int (own_at vs_a1 (p2).toNatClampNeg (.int (0 : Int32))))) (by rw [e1]; exact Aro3.1) (State.isArrayOf_alike hZ.alike Aro3.2.1) Aro3.2.2 hino3 (Ho3.at hino3 (own_at_eq (Go3 _ (Nat.lt_of_not_le fun y => hino3 (Or.inr y))) (by simp))) (g := (mkF m 46 #[.val (.ref a1), .val (.int p2), .val (.int p3), .val (.int p4), .val (.int p5), .val (.int p6), .val (.int (f_orig p2 p3 p4))] [(.int p2), (.ref a1)])) rfl rfl (hb hby d11_46) _ ?_
    show Steps p.tables e below (T1.setTop (mkF m 47 #[.val (.ref a1), .val (.int p2), .val (.int p3), .val (.int p4), .val (.int p5), .val (.int p6), .val (.int (f_orig p2 p3 p4))] [(.int (own_at vs_a1 (p2).toNatClampNeg (.int (0 : Int32))))])) _
    refine XS.sipush X1.here hx rfl (hb hby d11_47) ?_
    show Steps p.tables e below (T1.setTop (mkF m 50 #[.val (.ref a1), .val (.int p2), .val (.int p3), .val (.int p4), .val (.int p5), .val (.int p6), .val (.int (f_orig p2 p3 p4))] [(.int (255 : Int32)), (.int (own_at vs_a1 (p2).toNatClampNeg (.int (0 : Int32))))])) _
    refine XS.iand X1.here hx rfl (hb hby d11_50) rfl ?_
    show Steps p.tables e below (T1.setTop (mkF m 51 #[.val (.ref a1), .val (.int p2), .val (.int p3), .val (.int p4), .val (.int p5), .val (.int p6), .val (.int (f_orig p2 p3 p4))] [(.int ((own_at vs_a1 (p2).toNatClampNeg (.int (0 : Int32))) &&& (255 : Int32)))])) _
    refine XS.iload X1.here hx rfl (hb hby d11_51) rfl ?_
    show Steps p.tables e below (T1.setTop (mkF m 53 #[.val (.ref a1), .val (.int p2), .val (.int p3), .val (.int p4), .val (.int p5), .val (.int p6), .val (.int (f_orig p2 p3 p4))] [(.int (f_orig p2 p3 p4)), (.int ((own_at vs_a1 (p2).toNatClampNeg (.int (0 : Int32))) &&& (255 : Int32)))])) _
    refine XS.icmpNo X1.here hx rfl (hb hby d11_53) rfl (teq hc2).2 ?_
    show Steps p.tables e below (T1.setTop (mkF m 56 #[.val (.ref a1), .val (.int p2), .val (.int p3), .val (.int p4), .val (.int p5), .val (.int p6), .val (.int (f_orig p2 p3 p4))] [])) _
    refine XS.iconst X1.here hx rfl (hb hby d11_56) ?_
    show Steps p.tables e below (T1.setTop (mkF m 57 #[.val (.ref a1), .val (.int p2), .val (.int p3), .val (.int p4), .val (.int p5), .val (.int p6), .val (.int (f_orig p2 p3 p4))] [(.int (1 : Int32))])) _
    refine XS.goto X1.here hx rfl (pc0 := 57) (pc' := 61) rfl (hb hby d11_57) (by decide) (by decide) ?_
    show Steps p.tables e below (T1.setTop (mkF m 61 #[.val (.ref a1), .val (.int p2), .val (.int p3), .val (.int p4), .val (.int p5), .val (.int p6), .val (.int (f_orig p2 p3 p4))] [(.int (1 : Int32))])) _
    exact retN X1 hx (t := .boolean) Bd.returns (by simp) (hb hby d11_61) hr
  · show Q_okB Z a1 p2 p3 p4 p5 p6 k_a1 n_a1 vs_a1 h0 n0 _ T1.heap _
    rw [e1]
    exact ⟨rfl, N2, rfl⟩
theorem pd_4 : parseMethodDescriptor "(II)V" = some ⟨[.int, .int], none⟩ := by decide +kernel
theorem pd_5 : parseMethodDescriptor "()I" = some ⟨[], some .int⟩ := by decide +kernel
theorem pd_6 : parseMethodDescriptor "()[B" = some ⟨[], some (.array .byte)⟩ := by decide +kernel
theorem pd_7 : parseMethodDescriptor "([BIIIII)Z" = some ⟨[(.array .byte), .int, .int, .int, .int, .int], some .boolean⟩ := by decide +kernel
theorem ef_0_IIIII (m : MethodId) (x0 : Int32) (x1 : Int32) (x2 : Int32) (x3 : Int32) (x4 : Int32) : entryFrame m #[(.int x0), (.int x1), (.int x2), (.int x3), (.int x4)] maxLocals = mkF m 0 #[.val (.int x0), .val (.int x1), .val (.int x2), .val (.int x3), .val (.int x4), .unset, .unset, .unset] [] := by first | (simp [entryFrame, mkF, argsToLocals, Value.category, maxLocals]; done) | rfl
def Q_law (Z : State) (p1 : Int32) (p2 : Int32) (p3 : Int32) (p4 : Int32) (p5 : Int32) (h0 : Heap) (n0 : Nat) (v : Option Value) (h : Heap) (L : List Loc) : Prop := v = some (.int (1 : Int32)) ∧ Fr n0 L
def Road_at0 (p1 : Int32) (p2 : Int32) (p3 : Int32) (p4 : Int32) (p5 : Int32) : Prop := (¬ ((p1 &&& (15 : Int32)) < (0 : Int32))) ∧ ((p1 &&& (15 : Int32)).toNatClampNeg ≤ 15) ∧ (own_B (0 : Int32) (p1 &&& (15 : Int32)) (List.replicate 16 (Value.int (0 : Int32)))) ∧ (((p4 &&& (2147483647 : Int32)) % (5 : Int32)) = (0 : Int32)) ∧ (((own_at (((((((((((((List.replicate 16 (Value.int (0 : Int32))).set (0 : Int32).toNatClampNeg (.int ((((p2.toUInt32 >>> ((24 : Int32) &&& 31).toUInt32).toInt32).toInt8.toInt32).toInt8.toInt32))).set (1 : Int32).toNatClampNeg (.int ((((p2.toUInt32 >>> ((16 : Int32) &&& 31).toUInt32).toInt32).toInt8.toInt32).toInt8.toInt32))).set (2 : Int32).toNatClampNeg (.int ((((p2.toUInt32 >>> ((8 : Int32) &&& 31).toUInt32).toInt32).toInt8.toInt32).toInt8.toInt32))).set (3 : Int32).toNatClampNeg (.int ((p2.toInt8.toInt32).toInt8.toInt32))).set (4 : Int32).toNatClampNeg (.int ((((p3.toUInt32 >>> ((24 : Int32) &&& 31).toUInt32).toInt32).toInt8.toInt32).toInt8.toInt32))).set (5 : Int32).toNatClampNeg (.int ((((p3.toUInt32 >>> ((16 : Int32) &&& 31).toUInt32).toInt32).toInt8.toInt32).toInt8.toInt32))).set (6 : Int32).toNatClampNeg (.int ((((p3.toUInt32 >>> ((8 : Int32) &&& 31).toUInt32).toInt32).toInt8.toInt32).toInt8.toInt32))).set (7 : Int32).toNatClampNeg (.int ((p3.toInt8.toInt32).toInt8.toInt32))).set (0 : Int32).toNatClampNeg (.int ((((p5.toUInt32 >>> ((24 : Int32) &&& 31).toUInt32).toInt32).toInt8.toInt32).toInt8.toInt32))).set (1 : Int32).toNatClampNeg (.int ((((p5.toUInt32 >>> ((16 : Int32) &&& 31).toUInt32).toInt32).toInt8.toInt32).toInt8.toInt32))).set (2 : Int32).toNatClampNeg (.int ((((p5.toUInt32 >>> ((8 : Int32) &&& 31).toUInt32).toInt32).toInt8.toInt32).toInt8.toInt32))).set (3 : Int32).toNatClampNeg (.int ((p5.toInt8.toInt32).toInt8.toInt32))) ((0 : Int32)).toNatClampNeg (.int (0 : Int32))) &&& (255 : Int32)) = ((p5 >>> ((24 : Int32) &&& 31)) &&& (255 : Int32))) ∧ (((own_at (((((((((((((List.replicate 16 (Value.int (0 : Int32))).set (0 : Int32).toNatClampNeg (.int ((((p2.toUInt32 >>> ((24 : Int32) &&& 31).toUInt32).toInt32).toInt8.toInt32).toInt8.toInt32))).set (1 : Int32).toNatClampNeg (.int ((((p2.toUInt32 >>> ((16 : Int32) &&& 31).toUInt32).toInt32).toInt8.toInt32).toInt8.toInt32))).set (2 : Int32).toNatClampNeg (.int ((((p2.toUInt32 >>> ((8 : Int32) &&& 31).toUInt32).toInt32).toInt8.toInt32).toInt8.toInt32))).set (3 : Int32).toNatClampNeg (.int ((p2.toInt8.toInt32).toInt8.toInt32))).set (4 : Int32).toNatClampNeg (.int ((((p3.toUInt32 >>> ((24 : Int32) &&& 31).toUInt32).toInt32).toInt8.toInt32).toInt8.toInt32))).set (5 : Int32).toNatClampNeg (.int ((((p3.toUInt32 >>> ((16 : Int32) &&& 31).toUInt32).toInt32).toInt8.toInt32).toInt8.toInt32))).set (6 : Int32).toNatClampNeg (.int ((((p3.toUInt32 >>> ((8 : Int32) &&& 31).toUInt32).toInt32).toInt8.toInt32).toInt8.toInt32))).set (7 : Int32).toNatClampNeg (.int ((p3.toInt8.toInt32).toInt8.toInt32))).set (0 : Int32).toNatClampNeg (.int ((((p5.toUInt32 >>> ((24 : Int32) &&& 31).toUInt32).toInt32).toInt8.toInt32).toInt8.toInt32))).set (1 : Int32).toNatClampNeg (.int ((((p5.toUInt32 >>> ((16 : Int32) &&& 31).toUInt32).toInt32).toInt8.toInt32).toInt8.toInt32))).set (2 : Int32).toNatClampNeg (.int ((((p5.toUInt32 >>> ((8 : Int32) &&& 31).toUInt32).toInt32).toInt8.toInt32).toInt8.toInt32))).set (3 : Int32).toNatClampNeg (.int ((p5.toInt8.toInt32).toInt8.toInt32))) ((1 : Int32)).toNatClampNeg (.int (0 : Int32))) &&& (255 : Int32)) = ((p5 >>> ((16 : Int32) &&& 31)) &&& (255 : Int32))) ∧ (((own_at (((((((((((((List.replicate 16 (Value.int (0 : Int32))).set (0 : Int32).toNatClampNeg (.int ((((p2.toUInt32 >>> ((24 : Int32) &&& 31).toUInt32).toInt32).toInt8.toInt32).toInt8.toInt32))).set (1 : Int32).toNatClampNeg (.int ((((p2.toUInt32 >>> ((16 : Int32) &&& 31).toUInt32).toInt32).toInt8.toInt32).toInt8.toInt32))).set (2 : Int32).toNatClampNeg (.int ((((p2.toUInt32 >>> ((8 : Int32) &&& 31).toUInt32).toInt32).toInt8.toInt32).toInt8.toInt32))).set (3 : Int32).toNatClampNeg (.int ((p2.toInt8.toInt32).toInt8.toInt32))).set (4 : Int32).toNatClampNeg (.int ((((p3.toUInt32 >>> ((24 : Int32) &&& 31).toUInt32).toInt32).toInt8.toInt32).toInt8.toInt32))).set (5 : Int32).toNatClampNeg (.int ((((p3.toUInt32 >>> ((16 : Int32) &&& 31).toUInt32).toInt32).toInt8.toInt32).toInt8.toInt32))).set (6 : Int32).toNatClampNeg (.int ((((p3.toUInt32 >>> ((8 : Int32) &&& 31).toUInt32).toInt32).toInt8.toInt32).toInt8.toInt32))).set (7 : Int32).toNatClampNeg (.int ((p3.toInt8.toInt32).toInt8.toInt32))).set (0 : Int32).toNatClampNeg (.int ((((p5.toUInt32 >>> ((24 : Int32) &&& 31).toUInt32).toInt32).toInt8.toInt32).toInt8.toInt32))).set (1 : Int32).toNatClampNeg (.int ((((p5.toUInt32 >>> ((16 : Int32) &&& 31).toUInt32).toInt32).toInt8.toInt32).toInt8.toInt32))).set (2 : Int32).toNatClampNeg (.int ((((p5.toUInt32 >>> ((8 : Int32) &&& 31).toUInt32).toInt32).toInt8.toInt32).toInt8.toInt32))).set (3 : Int32).toNatClampNeg (.int ((p5.toInt8.toInt32).toInt8.toInt32))) ((2 : Int32)).toNatClampNeg (.int (0 : Int32))) &&& (255 : Int32)) = ((p5 >>> ((8 : Int32) &&& 31)) &&& (255 : Int32))) ∧ (((own_at (((((((((((((List.replicate 16 (Value.int (0 : Int32))).set (0 : Int32).toNatClampNeg (.int ((((p2.toUInt32 >>> ((24 : Int32) &&& 31).toUInt32).toInt32).toInt8.toInt32).toInt8.toInt32))).set (1 : Int32).toNatClampNeg (.int ((((p2.toUInt32 >>> ((16 : Int32) &&& 31).toUInt32).toInt32).toInt8.toInt32).toInt8.toInt32))).set (2 : Int32).toNatClampNeg (.int ((((p2.toUInt32 >>> ((8 : Int32) &&& 31).toUInt32).toInt32).toInt8.toInt32).toInt8.toInt32))).set (3 : Int32).toNatClampNeg (.int ((p2.toInt8.toInt32).toInt8.toInt32))).set (4 : Int32).toNatClampNeg (.int ((((p3.toUInt32 >>> ((24 : Int32) &&& 31).toUInt32).toInt32).toInt8.toInt32).toInt8.toInt32))).set (5 : Int32).toNatClampNeg (.int ((((p3.toUInt32 >>> ((16 : Int32) &&& 31).toUInt32).toInt32).toInt8.toInt32).toInt8.toInt32))).set (6 : Int32).toNatClampNeg (.int ((((p3.toUInt32 >>> ((8 : Int32) &&& 31).toUInt32).toInt32).toInt8.toInt32).toInt8.toInt32))).set (7 : Int32).toNatClampNeg (.int ((p3.toInt8.toInt32).toInt8.toInt32))).set (0 : Int32).toNatClampNeg (.int ((((p5.toUInt32 >>> ((24 : Int32) &&& 31).toUInt32).toInt32).toInt8.toInt32).toInt8.toInt32))).set (1 : Int32).toNatClampNeg (.int ((((p5.toUInt32 >>> ((16 : Int32) &&& 31).toUInt32).toInt32).toInt8.toInt32).toInt8.toInt32))).set (2 : Int32).toNatClampNeg (.int ((((p5.toUInt32 >>> ((8 : Int32) &&& 31).toUInt32).toInt32).toInt8.toInt32).toInt8.toInt32))).set (3 : Int32).toNatClampNeg (.int ((p5.toInt8.toInt32).toInt8.toInt32))) ((3 : Int32)).toNatClampNeg (.int (0 : Int32))) &&& (255 : Int32)) = ((p5 >>> ((0 : Int32) &&& 31)) &&& (255 : Int32))) ∧ (((own_at (((((((((((((List.replicate 16 (Value.int (0 : Int32))).set (0 : Int32).toNatClampNeg (.int ((((p2.toUInt32 >>> ((24 : Int32) &&& 31).toUInt32).toInt32).toInt8.toInt32).toInt8.toInt32))).set (1 : Int32).toNatClampNeg (.int ((((p2.toUInt32 >>> ((16 : Int32) &&& 31).toUInt32).toInt32).toInt8.toInt32).toInt8.toInt32))).set (2 : Int32).toNatClampNeg (.int ((((p2.toUInt32 >>> ((8 : Int32) &&& 31).toUInt32).toInt32).toInt8.toInt32).toInt8.toInt32))).set (3 : Int32).toNatClampNeg (.int ((p2.toInt8.toInt32).toInt8.toInt32))).set (4 : Int32).toNatClampNeg (.int ((((p3.toUInt32 >>> ((24 : Int32) &&& 31).toUInt32).toInt32).toInt8.toInt32).toInt8.toInt32))).set (5 : Int32).toNatClampNeg (.int ((((p3.toUInt32 >>> ((16 : Int32) &&& 31).toUInt32).toInt32).toInt8.toInt32).toInt8.toInt32))).set (6 : Int32).toNatClampNeg (.int ((((p3.toUInt32 >>> ((8 : Int32) &&& 31).toUInt32).toInt32).toInt8.toInt32).toInt8.toInt32))).set (7 : Int32).toNatClampNeg (.int ((p3.toInt8.toInt32).toInt8.toInt32))).set (0 : Int32).toNatClampNeg (.int ((((p5.toUInt32 >>> ((24 : Int32) &&& 31).toUInt32).toInt32).toInt8.toInt32).toInt8.toInt32))).set (1 : Int32).toNatClampNeg (.int ((((p5.toUInt32 >>> ((16 : Int32) &&& 31).toUInt32).toInt32).toInt8.toInt32).toInt8.toInt32))).set (2 : Int32).toNatClampNeg (.int ((((p5.toUInt32 >>> ((8 : Int32) &&& 31).toUInt32).toInt32).toInt8.toInt32).toInt8.toInt32))).set (3 : Int32).toNatClampNeg (.int ((p5.toInt8.toInt32).toInt8.toInt32))) ((4 : Int32)).toNatClampNeg (.int (0 : Int32))) &&& (255 : Int32)) = (f_orig (4 : Int32) p2 p3)) ∧ (((own_at (((((((((((((List.replicate 16 (Value.int (0 : Int32))).set (0 : Int32).toNatClampNeg (.int ((((p2.toUInt32 >>> ((24 : Int32) &&& 31).toUInt32).toInt32).toInt8.toInt32).toInt8.toInt32))).set (1 : Int32).toNatClampNeg (.int ((((p2.toUInt32 >>> ((16 : Int32) &&& 31).toUInt32).toInt32).toInt8.toInt32).toInt8.toInt32))).set (2 : Int32).toNatClampNeg (.int ((((p2.toUInt32 >>> ((8 : Int32) &&& 31).toUInt32).toInt32).toInt8.toInt32).toInt8.toInt32))).set (3 : Int32).toNatClampNeg (.int ((p2.toInt8.toInt32).toInt8.toInt32))).set (4 : Int32).toNatClampNeg (.int ((((p3.toUInt32 >>> ((24 : Int32) &&& 31).toUInt32).toInt32).toInt8.toInt32).toInt8.toInt32))).set (5 : Int32).toNatClampNeg (.int ((((p3.toUInt32 >>> ((16 : Int32) &&& 31).toUInt32).toInt32).toInt8.toInt32).toInt8.toInt32))).set (6 : Int32).toNatClampNeg (.int ((((p3.toUInt32 >>> ((8 : Int32) &&& 31).toUInt32).toInt32).toInt8.toInt32).toInt8.toInt32))).set (7 : Int32).toNatClampNeg (.int ((p3.toInt8.toInt32).toInt8.toInt32))).set (0 : Int32).toNatClampNeg (.int ((((p5.toUInt32 >>> ((24 : Int32) &&& 31).toUInt32).toInt32).toInt8.toInt32).toInt8.toInt32))).set (1 : Int32).toNatClampNeg (.int ((((p5.toUInt32 >>> ((16 : Int32) &&& 31).toUInt32).toInt32).toInt8.toInt32).toInt8.toInt32))).set (2 : Int32).toNatClampNeg (.int ((((p5.toUInt32 >>> ((8 : Int32) &&& 31).toUInt32).toInt32).toInt8.toInt32).toInt8.toInt32))).set (3 : Int32).toNatClampNeg (.int ((p5.toInt8.toInt32).toInt8.toInt32))) ((5 : Int32)).toNatClampNeg (.int (0 : Int32))) &&& (255 : Int32)) = (f_orig (5 : Int32) p2 p3)) ∧ (((own_at (((((((((((((List.replicate 16 (Value.int (0 : Int32))).set (0 : Int32).toNatClampNeg (.int ((((p2.toUInt32 >>> ((24 : Int32) &&& 31).toUInt32).toInt32).toInt8.toInt32).toInt8.toInt32))).set (1 : Int32).toNatClampNeg (.int ((((p2.toUInt32 >>> ((16 : Int32) &&& 31).toUInt32).toInt32).toInt8.toInt32).toInt8.toInt32))).set (2 : Int32).toNatClampNeg (.int ((((p2.toUInt32 >>> ((8 : Int32) &&& 31).toUInt32).toInt32).toInt8.toInt32).toInt8.toInt32))).set (3 : Int32).toNatClampNeg (.int ((p2.toInt8.toInt32).toInt8.toInt32))).set (4 : Int32).toNatClampNeg (.int ((((p3.toUInt32 >>> ((24 : Int32) &&& 31).toUInt32).toInt32).toInt8.toInt32).toInt8.toInt32))).set (5 : Int32).toNatClampNeg (.int ((((p3.toUInt32 >>> ((16 : Int32) &&& 31).toUInt32).toInt32).toInt8.toInt32).toInt8.toInt32))).set (6 : Int32).toNatClampNeg (.int ((((p3.toUInt32 >>> ((8 : Int32) &&& 31).toUInt32).toInt32).toInt8.toInt32).toInt8.toInt32))).set (7 : Int32).toNatClampNeg (.int ((p3.toInt8.toInt32).toInt8.toInt32))).set (0 : Int32).toNatClampNeg (.int ((((p5.toUInt32 >>> ((24 : Int32) &&& 31).toUInt32).toInt32).toInt8.toInt32).toInt8.toInt32))).set (1 : Int32).toNatClampNeg (.int ((((p5.toUInt32 >>> ((16 : Int32) &&& 31).toUInt32).toInt32).toInt8.toInt32).toInt8.toInt32))).set (2 : Int32).toNatClampNeg (.int ((((p5.toUInt32 >>> ((8 : Int32) &&& 31).toUInt32).toInt32).toInt8.toInt32).toInt8.toInt32))).set (3 : Int32).toNatClampNeg (.int ((p5.toInt8.toInt32).toInt8.toInt32))) ((6 : Int32)).toNatClampNeg (.int (0 : Int32))) &&& (255 : Int32)) = (f_orig (6 : Int32) p2 p3)) ∧ (((own_at (((((((((((((List.replicate 16 (Value.int (0 : Int32))).set (0 : Int32).toNatClampNeg (.int ((((p2.toUInt32 >>> ((24 : Int32) &&& 31).toUInt32).toInt32).toInt8.toInt32).toInt8.toInt32))).set (1 : Int32).toNatClampNeg (.int ((((p2.toUInt32 >>> ((16 : Int32) &&& 31).toUInt32).toInt32).toInt8.toInt32).toInt8.toInt32))).set (2 : Int32).toNatClampNeg (.int ((((p2.toUInt32 >>> ((8 : Int32) &&& 31).toUInt32).toInt32).toInt8.toInt32).toInt8.toInt32))).set (3 : Int32).toNatClampNeg (.int ((p2.toInt8.toInt32).toInt8.toInt32))).set (4 : Int32).toNatClampNeg (.int ((((p3.toUInt32 >>> ((24 : Int32) &&& 31).toUInt32).toInt32).toInt8.toInt32).toInt8.toInt32))).set (5 : Int32).toNatClampNeg (.int ((((p3.toUInt32 >>> ((16 : Int32) &&& 31).toUInt32).toInt32).toInt8.toInt32).toInt8.toInt32))).set (6 : Int32).toNatClampNeg (.int ((((p3.toUInt32 >>> ((8 : Int32) &&& 31).toUInt32).toInt32).toInt8.toInt32).toInt8.toInt32))).set (7 : Int32).toNatClampNeg (.int ((p3.toInt8.toInt32).toInt8.toInt32))).set (0 : Int32).toNatClampNeg (.int ((((p5.toUInt32 >>> ((24 : Int32) &&& 31).toUInt32).toInt32).toInt8.toInt32).toInt8.toInt32))).set (1 : Int32).toNatClampNeg (.int ((((p5.toUInt32 >>> ((16 : Int32) &&& 31).toUInt32).toInt32).toInt8.toInt32).toInt8.toInt32))).set (2 : Int32).toNatClampNeg (.int ((((p5.toUInt32 >>> ((8 : Int32) &&& 31).toUInt32).toInt32).toInt8.toInt32).toInt8.toInt32))).set (3 : Int32).toNatClampNeg (.int ((p5.toInt8.toInt32).toInt8.toInt32))) ((7 : Int32)).toNatClampNeg (.int (0 : Int32))) &&& (255 : Int32)) = (f_orig (7 : Int32) p2 p3))
set_option maxRecDepth 65536 in
set_option maxHeartbeats 40000000 in
theorem rm_law_at0 (l : Launch) (Z : State) (a0 : Array Value) (hw : ∀ d ∈ tables_1, d.before a0 Z = true) (ws : List Jvm.Cond) (p1 : Int32) (p2 : Int32) (p3 : Int32) (p4 : Int32) (p5 : Int32) (h0 : Heap) (n0 : Nat) (Z0 : n0 ≤ h0.size) (hroad : Road_at0 p1 p2 p3 p4 p5) :
    MetFree l x (head1 (Jvm.Cond.code x code maxLocals ret :: ws) room_1) (fun a U => a = #[(.int p1), (.int p2), (.int p3), (.int p4), (.int p5)] ∧ Z.Warmed39 U.vm ∧ U.heap = h0) (fun _ _ _ _ _ => True) (fun _ U o U' => ∃ v L, o = .returned v ∧ Q_law Z p1 p2 p3 p4 p5 h0 n0 v U'.heap L ∧ FrameEnd U o U' L room_1.cells room_1.slots) := by
  obtain ⟨hp0, hp1, hp2, hw_5, hp7, hp8, hp9, hp10, hp11, hp12, hp13, hp14⟩ := hroad
  refine MetFree.of_bodySF (plainFor_of_name pn_com_example_herald_herald_bytecode_BytesPutU4PinLaw) hisR ?_
  intro p e s m args below meth c s₁ Bd hml0 hP hK
  obtain ⟨rfl, hZ, hh⟩ := hP
  have hx := Bd.exec
  have hby := Bd.bytes
  have hml : c.maxLocals = 8 := hml0
  have hown : s.vm.findClass "com/example/herald/herald/bytecode/BytesPutU4PinLaw" = some m.cls := findClass_of_methodNamed Bd.named
  have hnm := (name_of_methodNamed Bd.named Bd.method).1
  have X0 : Stand p l e room_1 s m #[(.int p1), (.int p2), (.int p3), (.int p4), (.int p5)] below meth c s₁ [] 0 0 := Stand.of_body Bd
  have e0 : s₁.heap = h0 := by rw [← hh, Bd.state]; rfl
  have N0 := Fr.nil n0
  have pre0 : ∀ t, Steps p.tables e below (s₁.setTop (mkF m 0 #[.val (.int p1), .val (.int p2), .val (.int p3), .val (.int p4), .val (.int p5), .unset, .unset, .unset] [])) t → Steps p.tables e below (s₁.setTop (entryFrame m #[(.int p1), (.int p2), (.int p3), (.int p4), (.int p5)] maxLocals)) t := fun t k => castTop (ef_0_IIIII m p1 p2 p3 p4 p5) k
  obtain ⟨T1, h1, X1, e1, E1, A1, D1, -, st1⟩ := newO X0 hx hZ hown (hw _ (List.mem_of_getElem? (i := 0) rfl)) (hw _ (List.mem_of_getElem? (i := 1) rfl)) (hw _ (List.mem_of_getElem? (i := 2) rfl)) e0 (g := (mkF m 0 #[.val (.int p1), .val (.int p2), .val (.int p3), .val (.int p4), .val (.int p5), .unset, .unset, .unset] [])) rfl (hb hby at_0) (by decide) (by decide)
  obtain ⟨b1, g1⟩ : ∃ z, z = h0.size := ⟨_, rfl⟩
  rw [← g1] at A1 D1 st1
  have g_b1 : n0 ≤ b1 := Nat.le_trans Z0 (Nat.le_of_eq g1.symm)
  have Zs2 : n0 ≤ h1.size := Nat.le_trans Z0 E1.1
  have f3 : Fld Z h1 b1 "com/example/herald/herald/bytecode/Bytes" "bytes" "[B" .null := D1 (Or.inl (hw _ (List.mem_of_getElem? (i := 11) rfl))) (ty := (.array .byte)) (by decide)
  have f4 : Fld Z h1 b1 "com/example/herald/herald/bytecode/Bytes" "length" "I" (.int (0 : Int32)) := D1 (Or.inl (hw _ (List.mem_of_getElem? (i := 22) rfl))) (ty := .int) (by decide)
  obtain ⟨_, _, ⟨T5, L5, k5, n5⟩, -, X5, ⟨Lc5, hQ5, l5, y5, z5⟩, st5⟩ := X1.specialBack hx (y := (⟨"com/example/herald/herald/bytecode/Bytes", "<init>", "(I)V"⟩ : MethodName)) rfl hown (mvT hZ (hw _ (List.mem_of_getElem? (i := 3) rfl))) (mvT hZ (hw _ (List.mem_of_getElem? (i := 4) rfl))) (mvT hZ (hw _ (List.mem_of_getElem? (i := 5) rfl))) (by decide) (backOf (W := 1) (rm_init l Z a0 hw [] b1 (p1 &&& (15 : Int32)) h1 n0 Zs2 A1 f3 g_b1 f4 hp0 hp1) hZ (hw _ (List.mem_of_getElem? (i := 5) rfl)) (hw _ (List.mem_of_getElem? (i := 2) rfl)) (by decide) (by decide)) (g := (mkF m 8 #[.val (.int p1), .val (.int p2), .val (.int p3), .val (.int p4), .val (.int p5), .unset, .unset, .unset] [(.int (p1 &&& (15 : Int32))), (.ref b1), (.ref b1)])) rfl (by rw [hml]; rfl) (Steps.refl _) (a := b1) (argsL := [(.int (p1 &&& (15 : Int32)))]) (rest := [(.ref b1)]) (lenOf pd_2 rfl) rfl (by show 2 * 0 + _ ≤ _; exact Nat.le_of_eq rfl) (hb hby at_8) (fun _ _ => ⟨rfl, e1, (by decide : 1 + 1 ≤ _), (by decide : 2 + 15 ≤ _)⟩)
  dsimp only [Pt.U, Pt.locs, Pt.cells, Pt.slots] at X5 l5 y5 z5 st5 hQ5
  subst l5 y5 z5
  obtain ⟨b5_1, k5_2, rfl, Nq5, g_b5_1, szq_b5_1, Kc5, fq5_0, fq5_1, fq5_2, fq5_3, fq5_4⟩ := hQ5
  have ne_b1_b5_1 : b1 ≠ b5_1 := Nat.ne_of_lt (Nat.lt_of_lt_of_le A1.lt szq_b5_1)
  have f7 : Fld Z T5.heap b1 "com/example/herald/herald/bytecode/Bytes" "bytes" "[B" (.ref b5_1) := fq5_1
  have f8 : Fld Z T5.heap b1 "com/example/herald/herald/bytecode/Bytes" "length" "I" (.int (0 : Int32)) := fq5_2
  have f9 : Arv Z T5.heap b5_1 k5_2 .byte (p1 &&& (15 : Int32)) (List.replicate 16 (Value.int (0 : Int32))) (.int (0 : Int32)) := fq5_4
  have Zs10 : n0 ≤ T5.heap.size := Nat.le_trans Zs2 Kc5.1
  have N6 := Fr.app N0 Nq5
  obtain ⟨cq11, kq11, q11a, q11b, q11c⟩ := isOf hZ rfl fq5_0
  obtain ⟨_, _, ⟨T11, L11, k11, n11⟩, -, X11, ⟨Lc11, hQ11, l11, y11, z11⟩, st11⟩ := X5.virtualBack hx (y := (⟨"com/example/herald/herald/bytecode/Bytes", "u4", "(I)V"⟩ : MethodName)) (z := (⟨"com/example/herald/herald/bytecode/Bytes", "u4", "(I)V"⟩ : MethodName)) hown (mvT hZ (hw _ (List.mem_of_getElem? (i := 12) rfl))) (mvT hZ (hw _ (List.mem_of_getElem? (i := 13) rfl))) (notFace_of_selects (args := #[]) (mvT hZ (hw _ (List.mem_of_getElem? (i := 15) rfl)))) (mvT hZ (hw _ (List.mem_of_getElem? (i := 15) rfl))) (mvT hZ (hw _ (List.mem_of_getElem? (i := 14) rfl))) (by decide) (backOf (W := 0) (rm_u4 l Z a0 hw [] b1 p2 b5_1 k5_2 (p1 &&& (15 : Int32)) (List.replicate 16 (Value.int (0 : Int32))) (0 : Int32) T5.heap n0 Zs10 f7 fq5_3 f9 f8 fq5_0 g_b1 g_b5_1 hp2 (by decide)) hZ (hw _ (List.mem_of_getElem? (i := 16) rfl)) (hw _ (List.mem_of_getElem? (i := 2) rfl)) (by decide) (by decide)) q11a q11c (g := (mkF m 16 #[.val (.int p1), .val (.int p2), .val (.int p3), .val (.int p4), .val (.int p5), .val (.ref b1), .unset, .unset] [(.int p2), (.ref b1)])) rfl (by rw [hml]; rfl) (Steps.refl _) (argsL := [(.int p2)]) (rest := []) (lenOf pd_2 rfl) rfl (by show 2 * 0 + _ ≤ _; exact Nat.le_of_eq rfl) (hb hby at_16) (fun _ _ => ⟨rfl, rfl, (by decide : 2 + 1 ≤ _), (by decide : 17 + 14 ≤ _)⟩)
  dsimp only [Pt.U, Pt.locs, Pt.cells, Pt.slots] at X11 l11 y11 z11 st11 hQ11
  subst l11 y11 z11
  obtain ⟨b11_1, k11_2, i11_3, rfl, Nq11, g_b11_1, hq11_0, Kc11, fq11_0, fq11_1, fq11_2, fq11_3, fq11_4⟩ := hQ11
  have f13 : Exa Z T11.heap b5_1 "[B" := fq5_3.keep Kc11
  have f14 : Fld Z T11.heap b1 "com/example/herald/herald/bytecode/Bytes" "bytes" "[B" (.ref b11_1) := fq11_1
  have f15 : Fld Z T11.heap b1 "com/example/herald/herald/bytecode/Bytes" "length" "I" (.int (4 : Int32)) := fq11_2
  have f16 : Arv Z T11.heap b11_1 k11_2 .byte i11_3 (((((List.replicate 16 (Value.int (0 : Int32))).set (0 : Int32).toNatClampNeg (.int ((((p2.toUInt32 >>> ((24 : Int32) &&& 31).toUInt32).toInt32).toInt8.toInt32).toInt8.toInt32))).set (1 : Int32).toNatClampNeg (.int ((((p2.toUInt32 >>> ((16 : Int32) &&& 31).toUInt32).toInt32).toInt8.toInt32).toInt8.toInt32))).set (2 : Int32).toNatClampNeg (.int ((((p2.toUInt32 >>> ((8 : Int32) &&& 31).toUInt32).toInt32).toInt8.toInt32).toInt8.toInt32))).set (3 : Int32).toNatClampNeg (.int ((p2.toInt8.toInt32).toInt8.toInt32))) (.int (0 : Int32)) := fq11_4
  have Zs17 : n0 ≤ T11.heap.size := Nat.le_trans Zs10 Kc11.1
  have N12 := Fr.app N6 Nq11
  obtain ⟨cq18, kq18, q18a, q18b, q18c⟩ := isOf hZ rfl fq11_0
  obtain ⟨_, _, ⟨T18, L18, k18, n18⟩, -, X18, ⟨Lc18, hQ18, l18, y18, z18⟩, st18⟩ := X11.virtualBack hx (y := (⟨"com/example/herald/herald/bytecode/Bytes", "u4", "(I)V"⟩ : MethodName)) (z := (⟨"com/example/herald/herald/bytecode/Bytes", "u4", "(I)V"⟩ : MethodName)) hown (mvT hZ (hw _ (List.mem_of_getElem? (i := 12) rfl))) (mvT hZ (hw _ (List.mem_of_getElem? (i := 13) rfl))) (notFace_of_selects (args := #[]) (mvT hZ (hw _ (List.mem_of_getElem? (i := 15) rfl)))) (mvT hZ (hw _ (List.mem_of_getElem? (i := 15) rfl))) (mvT hZ (hw _ (List.mem_of_getElem? (i := 14) rfl))) (by decide) (backOf (W := 0) (rm_u4 l Z a0 hw [] b1 p3 b11_1 k11_2 i11_3 (((((List.replicate 16 (Value.int (0 : Int32))).set (0 : Int32).toNatClampNeg (.int ((((p2.toUInt32 >>> ((24 : Int32) &&& 31).toUInt32).toInt32).toInt8.toInt32).toInt8.toInt32))).set (1 : Int32).toNatClampNeg (.int ((((p2.toUInt32 >>> ((16 : Int32) &&& 31).toUInt32).toInt32).toInt8.toInt32).toInt8.toInt32))).set (2 : Int32).toNatClampNeg (.int ((((p2.toUInt32 >>> ((8 : Int32) &&& 31).toUInt32).toInt32).toInt8.toInt32).toInt8.toInt32))).set (3 : Int32).toNatClampNeg (.int ((p2.toInt8.toInt32).toInt8.toInt32))) (4 : Int32) T11.heap n0 Zs17 f14 fq11_3 f16 f15 fq11_0 g_b1 g_b11_1 hq11_0 (by decide)) hZ (hw _ (List.mem_of_getElem? (i := 16) rfl)) (hw _ (List.mem_of_getElem? (i := 2) rfl)) (by decide) (by decide)) q18a q18c (g := (mkF m 22 #[.val (.int p1), .val (.int p2), .val (.int p3), .val (.int p4), .val (.int p5), .val (.ref b1), .unset, .unset] [(.int p3), (.ref b1)])) rfl (by rw [hml]; rfl) (Steps.refl _) (argsL := [(.int p3)]) (rest := []) (lenOf pd_2 rfl) rfl (by show 2 * 0 + _ ≤ _; exact Nat.le_of_eq rfl) (hb hby at_22) (fun _ _ => ⟨rfl, rfl, (by decide : 3 + 1 ≤ _), (by decide : 31 + 14 ≤ _)⟩)
  dsimp only [Pt.U, Pt.locs, Pt.cells, Pt.slots] at X18 l18 y18 z18 st18 hQ18
  subst l18 y18 z18
  obtain ⟨b18_1, k18_2, i18_3, rfl, Nq18, g_b18_1, hq18_0, Kc18, fq18_0, fq18_1, fq18_2, fq18_3, fq18_4⟩ := hQ18
  have ne_b1_b11_1 : b1 ≠ b11_1 := ne_exa fq11_0 fq11_3 (by decide)
  have f20 : Exa Z T18.heap b5_1 "[B" := f13.keep Kc18
  have f21 : Exa Z T18.heap b11_1 "[B" := fq11_3.keep Kc18
  have f22 : Fld Z T18.heap b1 "com/example/herald/herald/bytecode/Bytes" "bytes" "[B" (.ref b18_1) := fq18_1
  have f23 : Fld Z T18.heap b1 "com/example/herald/herald/bytecode/Bytes" "length" "I" (.int (8 : Int32)) := fq18_2
  have f24 : Arv Z T18.heap b18_1 k18_2 .byte i18_3 (((((((((List.replicate 16 (Value.int (0 : Int32))).set (0 : Int32).toNatClampNeg (.int ((((p2.toUInt32 >>> ((24 : Int32) &&& 31).toUInt32).toInt32).toInt8.toInt32).toInt8.toInt32))).set (1 : Int32).toNatClampNeg (.int ((((p2.toUInt32 >>> ((16 : Int32) &&& 31).toUInt32).toInt32).toInt8.toInt32).toInt8.toInt32))).set (2 : Int32).toNatClampNeg (.int ((((p2.toUInt32 >>> ((8 : Int32) &&& 31).toUInt32).toInt32).toInt8.toInt32).toInt8.toInt32))).set (3 : Int32).toNatClampNeg (.int ((p2.toInt8.toInt32).toInt8.toInt32))).set (4 : Int32).toNatClampNeg (.int ((((p3.toUInt32 >>> ((24 : Int32) &&& 31).toUInt32).toInt32).toInt8.toInt32).toInt8.toInt32))).set (5 : Int32).toNatClampNeg (.int ((((p3.toUInt32 >>> ((16 : Int32) &&& 31).toUInt32).toInt32).toInt8.toInt32).toInt8.toInt32))).set (6 : Int32).toNatClampNeg (.int ((((p3.toUInt32 >>> ((8 : Int32) &&& 31).toUInt32).toInt32).toInt8.toInt32).toInt8.toInt32))).set (7 : Int32).toNatClampNeg (.int ((p3.toInt8.toInt32).toInt8.toInt32))) (.int (0 : Int32)) := fq18_4
  have Zs25 : n0 ≤ T18.heap.size := Nat.le_trans Zs17 Kc18.1
  have N19 := Fr.app N12 Nq18
  obtain ⟨cq26, kq26, q26a, q26b, q26c⟩ := isOf hZ rfl fq18_0
  obtain ⟨_, _, ⟨T26, L26, k26, n26⟩, -, X26, ⟨Lc26, hQ26, l26, y26, z26⟩, st26⟩ := X18.virtualBack hx (y := (⟨"com/example/herald/herald/bytecode/Bytes", "putU4", "(II)V"⟩ : MethodName)) (z := (⟨"com/example/herald/herald/bytecode/Bytes", "putU4", "(II)V"⟩ : MethodName)) hown (mvT hZ (hw _ (List.mem_of_getElem? (i := 39) rfl))) (mvT hZ (hw _ (List.mem_of_getElem? (i := 40) rfl))) (notFace_of_selects (args := #[]) (mvT hZ (hw _ (List.mem_of_getElem? (i := 42) rfl)))) (mvT hZ (hw _ (List.mem_of_getElem? (i := 42) rfl))) (mvT hZ (hw _ (List.mem_of_getElem? (i := 41) rfl))) (by decide) (backOf (W := 0) (rm_put l Z a0 hw [] b1 (0 : Int32) p5 b18_1 k18_2 i18_3 (((((((((List.replicate 16 (Value.int (0 : Int32))).set (0 : Int32).toNatClampNeg (.int ((((p2.toUInt32 >>> ((24 : Int32) &&& 31).toUInt32).toInt32).toInt8.toInt32).toInt8.toInt32))).set (1 : Int32).toNatClampNeg (.int ((((p2.toUInt32 >>> ((16 : Int32) &&& 31).toUInt32).toInt32).toInt8.toInt32).toInt8.toInt32))).set (2 : Int32).toNatClampNeg (.int ((((p2.toUInt32 >>> ((8 : Int32) &&& 31).toUInt32).toInt32).toInt8.toInt32).toInt8.toInt32))).set (3 : Int32).toNatClampNeg (.int ((p2.toInt8.toInt32).toInt8.toInt32))).set (4 : Int32).toNatClampNeg (.int ((((p3.toUInt32 >>> ((24 : Int32) &&& 31).toUInt32).toInt32).toInt8.toInt32).toInt8.toInt32))).set (5 : Int32).toNatClampNeg (.int ((((p3.toUInt32 >>> ((16 : Int32) &&& 31).toUInt32).toInt32).toInt8.toInt32).toInt8.toInt32))).set (6 : Int32).toNatClampNeg (.int ((((p3.toUInt32 >>> ((8 : Int32) &&& 31).toUInt32).toInt32).toInt8.toInt32).toInt8.toInt32))).set (7 : Int32).toNatClampNeg (.int ((p3.toInt8.toInt32).toInt8.toInt32))) T18.heap n0 Zs25 f22 fq18_3 f24 fq18_0 g_b1 g_b18_1 hq18_0 (by decide) (by decide)) hZ (hw _ (List.mem_of_getElem? (i := 43) rfl)) (hw _ (List.mem_of_getElem? (i := 2) rfl)) (by decide) (by decide)) q26a q26c (g := (mkF m 39 #[.val (.int p1), .val (.int p2), .val (.int p3), .val (.int p4), .val (.int p5), .val (.ref b1), .val (.int (0 : Int32)), .unset] [(.int p5), (.int (0 : Int32)), (.ref b1)])) rfl (by rw [hml]; rfl) (Steps.refl _) (argsL := [(.int (0 : Int32)), (.int p5)]) (rest := []) (lenOf pd_4 rfl) rfl (by show 2 * 0 + _ ≤ _; exact Nat.le_of_eq rfl) (hb hby at_39) (fun _ _ => ⟨rfl, rfl, (by decide : 4 + 0 ≤ _), (by decide : 45 + 0 ≤ _)⟩)
  dsimp only [Pt.U, Pt.locs, Pt.cells, Pt.slots] at X26 l26 y26 z26 st26 hQ26
  subst l26 y26 z26
  obtain ⟨rfl, Nq26, hq26_0, Kc26, fq26_0, fq26_1⟩ := hQ26
  have ne_b1_b18_1 : b1 ≠ b18_1 := ne_exa fq18_0 fq18_3 (by decide)
  have f28 : Exa Z T26.heap b1 "com/example/herald/herald/bytecode/Bytes" := fq18_0.keep Kc26
  have f29 : Fld Z T26.heap b1 "com/example/herald/herald/bytecode/Bytes" "bytes" "[B" (.ref b18_1) := f22.keep Kc26 (ninS ne_b1_b18_1 nin0)
  have f30 : Fld Z T26.heap b1 "com/example/herald/herald/bytecode/Bytes" "length" "I" (.int (8 : Int32)) := f23.keep Kc26 (ninS ne_b1_b18_1 nin0)
  have f31 : Exa Z T26.heap b5_1 "[B" := f20.keep Kc26
  have f32 : Exa Z T26.heap b11_1 "[B" := f21.keep Kc26
  have f33 : Arv Z T26.heap b18_1 k18_2 .byte i18_3 (((((((((((((List.replicate 16 (Value.int (0 : Int32))).set (0 : Int32).toNatClampNeg (.int ((((p2.toUInt32 >>> ((24 : Int32) &&& 31).toUInt32).toInt32).toInt8.toInt32).toInt8.toInt32))).set (1 : Int32).toNatClampNeg (.int ((((p2.toUInt32 >>> ((16 : Int32) &&& 31).toUInt32).toInt32).toInt8.toInt32).toInt8.toInt32))).set (2 : Int32).toNatClampNeg (.int ((((p2.toUInt32 >>> ((8 : Int32) &&& 31).toUInt32).toInt32).toInt8.toInt32).toInt8.toInt32))).set (3 : Int32).toNatClampNeg (.int ((p2.toInt8.toInt32).toInt8.toInt32))).set (4 : Int32).toNatClampNeg (.int ((((p3.toUInt32 >>> ((24 : Int32) &&& 31).toUInt32).toInt32).toInt8.toInt32).toInt8.toInt32))).set (5 : Int32).toNatClampNeg (.int ((((p3.toUInt32 >>> ((16 : Int32) &&& 31).toUInt32).toInt32).toInt8.toInt32).toInt8.toInt32))).set (6 : Int32).toNatClampNeg (.int ((((p3.toUInt32 >>> ((8 : Int32) &&& 31).toUInt32).toInt32).toInt8.toInt32).toInt8.toInt32))).set (7 : Int32).toNatClampNeg (.int ((p3.toInt8.toInt32).toInt8.toInt32))).set (0 : Int32).toNatClampNeg (.int ((((p5.toUInt32 >>> ((24 : Int32) &&& 31).toUInt32).toInt32).toInt8.toInt32).toInt8.toInt32))).set (1 : Int32).toNatClampNeg (.int ((((p5.toUInt32 >>> ((16 : Int32) &&& 31).toUInt32).toInt32).toInt8.toInt32).toInt8.toInt32))).set (2 : Int32).toNatClampNeg (.int ((((p5.toUInt32 >>> ((8 : Int32) &&& 31).toUInt32).toInt32).toInt8.toInt32).toInt8.toInt32))).set (3 : Int32).toNatClampNeg (.int ((p5.toInt8.toInt32).toInt8.toInt32))) (.int (0 : Int32)) := fq26_1
  have Zs34 : n0 ≤ T26.heap.size := Nat.le_trans Zs25 Kc26.1
  have N27 := Fr.app N19 Nq26
  obtain ⟨cq35, kq35, q35a, q35b, q35c⟩ := isOf hZ rfl f28
  obtain ⟨_, _, ⟨T35, L35, k35, n35⟩, -, X35, ⟨Lc35, hQ35, l35, y35, z35⟩, st35⟩ := X26.virtualBack hx (y := (⟨"com/example/herald/herald/bytecode/Bytes", "length", "()I"⟩ : MethodName)) (z := (⟨"com/example/herald/herald/bytecode/Bytes", "length", "()I"⟩ : MethodName)) hown (mvT hZ (hw _ (List.mem_of_getElem? (i := 44) rfl))) (mvT hZ (hw _ (List.mem_of_getElem? (i := 45) rfl))) (notFace_of_selects (args := #[]) (mvT hZ (hw _ (List.mem_of_getElem? (i := 47) rfl)))) (mvT hZ (hw _ (List.mem_of_getElem? (i := 47) rfl))) (mvT hZ (hw _ (List.mem_of_getElem? (i := 46) rfl))) (by decide) (backOf (W := 0) (rm_length l Z a0 hw [] b1 (8 : Int32) T26.heap n0 Zs34 f30) hZ (hw _ (List.mem_of_getElem? (i := 48) rfl)) (hw _ (List.mem_of_getElem? (i := 2) rfl)) (by decide) (by decide)) q35a q35c (g := (mkF m 44 #[.val (.int p1), .val (.int p2), .val (.int p3), .val (.int p4), .val (.int p5), .val (.ref b1), .val (.int (0 : Int32)), .unset] [(.ref b1)])) rfl (by rw [hml]; rfl) (Steps.refl _) (argsL := []) (rest := []) (lenOf pd_5 rfl) rfl (by show 2 * 0 + _ ≤ _; exact Nat.le_of_eq rfl) (hb hby at_44) (fun _ _ => ⟨rfl, rfl, (by decide : 4 + 0 ≤ _), (by decide : 45 + 0 ≤ _)⟩)
  dsimp only [Pt.U, Pt.locs, Pt.cells, Pt.slots] at X35 l35 y35 z35 st35 hQ35
  subst l35 y35 z35
  obtain ⟨rfl, Nq35, e35⟩ := hQ35
  have N36 := Fr.app N27 Nq35
  obtain ⟨cq37, kq37, q37a, q37b, q37c⟩ := isOf hZ e35 f28
  obtain ⟨_, _, ⟨T37, L37, k37, n37⟩, -, X37, ⟨Lc37, hQ37, l37, y37, z37⟩, st37⟩ := X35.virtualBack hx (y := (⟨"com/example/herald/herald/bytecode/Bytes", "toArray", "()[B"⟩ : MethodName)) (z := (⟨"com/example/herald/herald/bytecode/Bytes", "toArray", "()[B"⟩ : MethodName)) hown (mvT hZ (hw _ (List.mem_of_getElem? (i := 49) rfl))) (mvT hZ (hw _ (List.mem_of_getElem? (i := 50) rfl))) (notFace_of_selects (args := #[]) (mvT hZ (hw _ (List.mem_of_getElem? (i := 52) rfl)))) (mvT hZ (hw _ (List.mem_of_getElem? (i := 52) rfl))) (mvT hZ (hw _ (List.mem_of_getElem? (i := 51) rfl))) (by decide) (backOf (W := 0) (rm_arr l Z a0 hw [] b1 b18_1 k18_2 i18_3 (((((((((((((List.replicate 16 (Value.int (0 : Int32))).set (0 : Int32).toNatClampNeg (.int ((((p2.toUInt32 >>> ((24 : Int32) &&& 31).toUInt32).toInt32).toInt8.toInt32).toInt8.toInt32))).set (1 : Int32).toNatClampNeg (.int ((((p2.toUInt32 >>> ((16 : Int32) &&& 31).toUInt32).toInt32).toInt8.toInt32).toInt8.toInt32))).set (2 : Int32).toNatClampNeg (.int ((((p2.toUInt32 >>> ((8 : Int32) &&& 31).toUInt32).toInt32).toInt8.toInt32).toInt8.toInt32))).set (3 : Int32).toNatClampNeg (.int ((p2.toInt8.toInt32).toInt8.toInt32))).set (4 : Int32).toNatClampNeg (.int ((((p3.toUInt32 >>> ((24 : Int32) &&& 31).toUInt32).toInt32).toInt8.toInt32).toInt8.toInt32))).set (5 : Int32).toNatClampNeg (.int ((((p3.toUInt32 >>> ((16 : Int32) &&& 31).toUInt32).toInt32).toInt8.toInt32).toInt8.toInt32))).set (6 : Int32).toNatClampNeg (.int ((((p3.toUInt32 >>> ((8 : Int32) &&& 31).toUInt32).toInt32).toInt8.toInt32).toInt8.toInt32))).set (7 : Int32).toNatClampNeg (.int ((p3.toInt8.toInt32).toInt8.toInt32))).set (0 : Int32).toNatClampNeg (.int ((((p5.toUInt32 >>> ((24 : Int32) &&& 31).toUInt32).toInt32).toInt8.toInt32).toInt8.toInt32))).set (1 : Int32).toNatClampNeg (.int ((((p5.toUInt32 >>> ((16 : Int32) &&& 31).toUInt32).toInt32).toInt8.toInt32).toInt8.toInt32))).set (2 : Int32).toNatClampNeg (.int ((((p5.toUInt32 >>> ((8 : Int32) &&& 31).toUInt32).toInt32).toInt8.toInt32).toInt8.toInt32))).set (3 : Int32).toNatClampNeg (.int ((p5.toInt8.toInt32).toInt8.toInt32))) (8 : Int32) T26.heap n0 Zs34 f29 fq26_0 f33 f30 f28 hq26_0 (by decide)) hZ (hw _ (List.mem_of_getElem? (i := 53) rfl)) (hw _ (List.mem_of_getElem? (i := 2) rfl)) (by decide) (by decide)) q37a q37c (g := (mkF m 56 #[.val (.int p1), .val (.int p2), .val (.int p3), .val (.int p4), .val (.int p5), .val (.ref b1), .val (.int (0 : Int32)), .unset] [(.ref b1)])) rfl (by rw [hml]; rfl) (Steps.refl _) (argsL := []) (rest := []) (lenOf pd_6 rfl) rfl (by show 2 * 0 + _ ≤ _; exact Nat.le_of_eq rfl) (hb hby at_56) (fun _ _ => ⟨rfl, e35, (by decide : 4 + 1 ≤ _), (by decide : 45 + 8 ≤ _)⟩)
  dsimp only [Pt.U, Pt.locs, Pt.cells, Pt.slots] at X37 l37 y37 z37 st37 hQ37
  subst l37 y37 z37
  obtain ⟨b37_1, k37_2, rfl, Nq37, g_b37_1, szq_b37_1, Kc37, fq37_0, fq37_1⟩ := hQ37
  have ne_b1_b37_1 : b1 ≠ b37_1 := Nat.ne_of_lt (Nat.lt_of_lt_of_le f28.lt szq_b37_1)
  have ne_b5_1_b37_1 : b5_1 ≠ b37_1 := Nat.ne_of_lt (Nat.lt_of_lt_of_le f31.lt szq_b37_1)
  have ne_b11_1_b37_1 : b11_1 ≠ b37_1 := Nat.ne_of_lt (Nat.lt_of_lt_of_le f32.lt szq_b37_1)
  have ne_b18_1_b37_1 : b18_1 ≠ b37_1 := Nat.ne_of_lt (Nat.lt_of_lt_of_le fq26_0.lt szq_b37_1)
  have f39 : Exa Z T37.heap b1 "com/example/herald/herald/bytecode/Bytes" := f28.keep Kc37
  have f40 : Fld Z T37.heap b1 "com/example/herald/herald/bytecode/Bytes" "bytes" "[B" (.ref b18_1) := f29.keep Kc37 nin0
  have f41 : Fld Z T37.heap b1 "com/example/herald/herald/bytecode/Bytes" "length" "I" (.int (8 : Int32)) := f30.keep Kc37 nin0
  have f42 : Exa Z T37.heap b5_1 "[B" := f31.keep Kc37
  have f43 : Exa Z T37.heap b11_1 "[B" := f32.keep Kc37
  have f44 : Exa Z T37.heap b18_1 "[B" := fq26_0.keep Kc37
  have f45 : Arv Z T37.heap b18_1 k18_2 .byte i18_3 (((((((((((((List.replicate 16 (Value.int (0 : Int32))).set (0 : Int32).toNatClampNeg (.int ((((p2.toUInt32 >>> ((24 : Int32) &&& 31).toUInt32).toInt32).toInt8.toInt32).toInt8.toInt32))).set (1 : Int32).toNatClampNeg (.int ((((p2.toUInt32 >>> ((16 : Int32) &&& 31).toUInt32).toInt32).toInt8.toInt32).toInt8.toInt32))).set (2 : Int32).toNatClampNeg (.int ((((p2.toUInt32 >>> ((8 : Int32) &&& 31).toUInt32).toInt32).toInt8.toInt32).toInt8.toInt32))).set (3 : Int32).toNatClampNeg (.int ((p2.toInt8.toInt32).toInt8.toInt32))).set (4 : Int32).toNatClampNeg (.int ((((p3.toUInt32 >>> ((24 : Int32) &&& 31).toUInt32).toInt32).toInt8.toInt32).toInt8.toInt32))).set (5 : Int32).toNatClampNeg (.int ((((p3.toUInt32 >>> ((16 : Int32) &&& 31).toUInt32).toInt32).toInt8.toInt32).toInt8.toInt32))).set (6 : Int32).toNatClampNeg (.int ((((p3.toUInt32 >>> ((8 : Int32) &&& 31).toUInt32).toInt32).toInt8.toInt32).toInt8.toInt32))).set (7 : Int32).toNatClampNeg (.int ((p3.toInt8.toInt32).toInt8.toInt32))).set (0 : Int32).toNatClampNeg (.int ((((p5.toUInt32 >>> ((24 : Int32) &&& 31).toUInt32).toInt32).toInt8.toInt32).toInt8.toInt32))).set (1 : Int32).toNatClampNeg (.int ((((p5.toUInt32 >>> ((16 : Int32) &&& 31).toUInt32).toInt32).toInt8.toInt32).toInt8.toInt32))).set (2 : Int32).toNatClampNeg (.int ((((p5.toUInt32 >>> ((8 : Int32) &&& 31).toUInt32).toInt32).toInt8.toInt32).toInt8.toInt32))).set (3 : Int32).toNatClampNeg (.int ((p5.toInt8.toInt32).toInt8.toInt32))) (.int (0 : Int32)) := f33.keep Kc37 nin0
  have f46 : Arv Z T37.heap b37_1 k37_2 .byte (8 : Int32) (((((((((((((List.replicate 16 (Value.int (0 : Int32))).set (0 : Int32).toNatClampNeg (.int ((((p2.toUInt32 >>> ((24 : Int32) &&& 31).toUInt32).toInt32).toInt8.toInt32).toInt8.toInt32))).set (1 : Int32).toNatClampNeg (.int ((((p2.toUInt32 >>> ((16 : Int32) &&& 31).toUInt32).toInt32).toInt8.toInt32).toInt8.toInt32))).set (2 : Int32).toNatClampNeg (.int ((((p2.toUInt32 >>> ((8 : Int32) &&& 31).toUInt32).toInt32).toInt8.toInt32).toInt8.toInt32))).set (3 : Int32).toNatClampNeg (.int ((p2.toInt8.toInt32).toInt8.toInt32))).set (4 : Int32).toNatClampNeg (.int ((((p3.toUInt32 >>> ((24 : Int32) &&& 31).toUInt32).toInt32).toInt8.toInt32).toInt8.toInt32))).set (5 : Int32).toNatClampNeg (.int ((((p3.toUInt32 >>> ((16 : Int32) &&& 31).toUInt32).toInt32).toInt8.toInt32).toInt8.toInt32))).set (6 : Int32).toNatClampNeg (.int ((((p3.toUInt32 >>> ((8 : Int32) &&& 31).toUInt32).toInt32).toInt8.toInt32).toInt8.toInt32))).set (7 : Int32).toNatClampNeg (.int ((p3.toInt8.toInt32).toInt8.toInt32))).set (0 : Int32).toNatClampNeg (.int ((((p5.toUInt32 >>> ((24 : Int32) &&& 31).toUInt32).toInt32).toInt8.toInt32).toInt8.toInt32))).set (1 : Int32).toNatClampNeg (.int ((((p5.toUInt32 >>> ((16 : Int32) &&& 31).toUInt32).toInt32).toInt8.toInt32).toInt8.toInt32))).set (2 : Int32).toNatClampNeg (.int ((((p5.toUInt32 >>> ((8 : Int32) &&& 31).toUInt32).toInt32).toInt8.toInt32).toInt8.toInt32))).set (3 : Int32).toNatClampNeg (.int ((p5.toInt8.toInt32).toInt8.toInt32))) (.int (0 : Int32)) := fq37_1
  have Zs47 : n0 ≤ T37.heap.size := Nat.le_trans Zs34 Kc37.1
  have N38 := Fr.app N36 Nq37
  obtain ⟨clo48, Aro48, -, So48, No48, -, -⟩ := id f46
  obtain ⟨_, _, ⟨T49, L49, k49, n49⟩, -, X49, ⟨Lc49, hQ49, l49, y49, z49⟩, st49⟩ := Jvm.LawKit.callS X37 hx (y := (⟨"com/example/herald/herald/bytecode/BytesPutU4PinLaw", "ok", "([BIIIII)Z"⟩ : MethodName)) hown (mvT hZ (hw _ (List.mem_of_getElem? (i := 63) rfl))) (mvT hZ (hw _ (List.mem_of_getElem? (i := 64) rfl))) (mvT hZ (hw _ (List.mem_of_getElem? (i := 65) rfl))) (mvT hZ (hw _ (List.mem_of_getElem? (i := 66) rfl))) (by decide) (backOf (W := 0) (rm_okV l Z a0 hw [] b37_1 (0 : Int32) p2 p3 (0 : Int32) p5 k37_2 (8 : Int32) (((((((((((((List.replicate 16 (Value.int (0 : Int32))).set (0 : Int32).toNatClampNeg (.int ((((p2.toUInt32 >>> ((24 : Int32) &&& 31).toUInt32).toInt32).toInt8.toInt32).toInt8.toInt32))).set (1 : Int32).toNatClampNeg (.int ((((p2.toUInt32 >>> ((16 : Int32) &&& 31).toUInt32).toInt32).toInt8.toInt32).toInt8.toInt32))).set (2 : Int32).toNatClampNeg (.int ((((p2.toUInt32 >>> ((8 : Int32) &&& 31).toUInt32).toInt32).toInt8.toInt32).toInt8.toInt32))).set (3 : Int32).toNatClampNeg (.int ((p2.toInt8.toInt32).toInt8.toInt32))).set (4 : Int32).toNatClampNeg (.int ((((p3.toUInt32 >>> ((24 : Int32) &&& 31).toUInt32).toInt32).toInt8.toInt32).toInt8.toInt32))).set (5 : Int32).toNatClampNeg (.int ((((p3.toUInt32 >>> ((16 : Int32) &&& 31).toUInt32).toInt32).toInt8.toInt32).toInt8.toInt32))).set (6 : Int32).toNatClampNeg (.int ((((p3.toUInt32 >>> ((8 : Int32) &&& 31).toUInt32).toInt32).toInt8.toInt32).toInt8.toInt32))).set (7 : Int32).toNatClampNeg (.int ((p3.toInt8.toInt32).toInt8.toInt32))).set (0 : Int32).toNatClampNeg (.int ((((p5.toUInt32 >>> ((24 : Int32) &&& 31).toUInt32).toInt32).toInt8.toInt32).toInt8.toInt32))).set (1 : Int32).toNatClampNeg (.int ((((p5.toUInt32 >>> ((16 : Int32) &&& 31).toUInt32).toInt32).toInt8.toInt32).toInt8.toInt32))).set (2 : Int32).toNatClampNeg (.int ((((p5.toUInt32 >>> ((8 : Int32) &&& 31).toUInt32).toInt32).toInt8.toInt32).toInt8.toInt32))).set (3 : Int32).toNatClampNeg (.int ((p5.toInt8.toInt32).toInt8.toInt32))) T37.heap n0 Zs47 f46 (by decide) (by decide) (by decide) (by decide) hp7) hZ (hw _ (List.mem_of_getElem? (i := 66) rfl)) (hw _ (List.mem_of_getElem? (i := 65) rfl)) (by decide) (by decide)) (g := (mkF m 80 #[.val (.int p1), .val (.int p2), .val (.int p3), .val (.int p4), .val (.int p5), .val (.ref b1), .val (.int (0 : Int32)), .val (.ref b37_1)] [(.int p5), (.int (0 : Int32)), (.int p3), (.int p2), (.int (0 : Int32)), (.ref b37_1)])) rfl (by rw [hml]; rfl) (argsL := [(.ref b37_1), (.int (0 : Int32)), (.int p2), (.int p3), (.int (0 : Int32)), (.int p5)]) (rest := []) (lenOf pd_7 rfl) rfl (by show 2 * 0 + _ ≤ _; exact Nat.le_of_eq rfl) (hb hby at_80) (fun _ _ => ⟨rfl, rfl, (by decide : 5 + 0 ≤ _), (by decide : 53 + 0 ≤ _)⟩)
  dsimp only [Pt.U, Pt.locs, Pt.cells, Pt.slots] at X49 l49 y49 z49 st49 hQ49
  subst l49 y49 z49
  obtain ⟨rfl, Nq49, e49⟩ := hQ49
  have N50 := Fr.app N38 Nq49
  obtain ⟨_, _, ⟨T51, L51, k51, n51⟩, -, X51, ⟨Lc51, hQ51, l51, y51, z51⟩, st51⟩ := Jvm.LawKit.callS X49 hx (y := (⟨"com/example/herald/herald/bytecode/BytesPutU4PinLaw", "ok", "([BIIIII)Z"⟩ : MethodName)) hown (mvT hZ (hw _ (List.mem_of_getElem? (i := 63) rfl))) (mvT hZ (hw _ (List.mem_of_getElem? (i := 64) rfl))) (mvT hZ (hw _ (List.mem_of_getElem? (i := 65) rfl))) (mvT hZ (hw _ (List.mem_of_getElem? (i := 66) rfl))) (by decide) (backOf (W := 0) (rm_okV l Z a0 hw [] b37_1 (1 : Int32) p2 p3 (0 : Int32) p5 k37_2 (8 : Int32) (((((((((((((List.replicate 16 (Value.int (0 : Int32))).set (0 : Int32).toNatClampNeg (.int ((((p2.toUInt32 >>> ((24 : Int32) &&& 31).toUInt32).toInt32).toInt8.toInt32).toInt8.toInt32))).set (1 : Int32).toNatClampNeg (.int ((((p2.toUInt32 >>> ((16 : Int32) &&& 31).toUInt32).toInt32).toInt8.toInt32).toInt8.toInt32))).set (2 : Int32).toNatClampNeg (.int ((((p2.toUInt32 >>> ((8 : Int32) &&& 31).toUInt32).toInt32).toInt8.toInt32).toInt8.toInt32))).set (3 : Int32).toNatClampNeg (.int ((p2.toInt8.toInt32).toInt8.toInt32))).set (4 : Int32).toNatClampNeg (.int ((((p3.toUInt32 >>> ((24 : Int32) &&& 31).toUInt32).toInt32).toInt8.toInt32).toInt8.toInt32))).set (5 : Int32).toNatClampNeg (.int ((((p3.toUInt32 >>> ((16 : Int32) &&& 31).toUInt32).toInt32).toInt8.toInt32).toInt8.toInt32))).set (6 : Int32).toNatClampNeg (.int ((((p3.toUInt32 >>> ((8 : Int32) &&& 31).toUInt32).toInt32).toInt8.toInt32).toInt8.toInt32))).set (7 : Int32).toNatClampNeg (.int ((p3.toInt8.toInt32).toInt8.toInt32))).set (0 : Int32).toNatClampNeg (.int ((((p5.toUInt32 >>> ((24 : Int32) &&& 31).toUInt32).toInt32).toInt8.toInt32).toInt8.toInt32))).set (1 : Int32).toNatClampNeg (.int ((((p5.toUInt32 >>> ((16 : Int32) &&& 31).toUInt32).toInt32).toInt8.toInt32).toInt8.toInt32))).set (2 : Int32).toNatClampNeg (.int ((((p5.toUInt32 >>> ((8 : Int32) &&& 31).toUInt32).toInt32).toInt8.toInt32).toInt8.toInt32))).set (3 : Int32).toNatClampNeg (.int ((p5.toInt8.toInt32).toInt8.toInt32))) T37.heap n0 Zs47 f46 (by decide) (by decide) (by decide) (by decide) hp8) hZ (hw _ (List.mem_of_getElem? (i := 66) rfl)) (hw _ (List.mem_of_getElem? (i := 65) rfl)) (by decide) (by decide)) (g := (mkF m 95 #[.val (.int p1), .val (.int p2), .val (.int p3), .val (.int p4), .val (.int p5), .val (.ref b1), .val (.int (0 : Int32)), .val (.ref b37_1)] [(.int p5), (.int (0 : Int32)), (.int p3), (.int p2), (.int (1 : Int32)), (.ref b37_1)])) rfl (by rw [hml]; rfl) (argsL := [(.ref b37_1), (.int (1 : Int32)), (.int p2), (.int p3), (.int (0 : Int32)), (.int p5)]) (rest := []) (lenOf pd_7 rfl) rfl (by show 2 * 0 + _ ≤ _; exact Nat.le_of_eq rfl) (hb hby at_95) (fun _ _ => ⟨rfl, e49, (by decide : 5 + 0 ≤ _), (by decide : 53 + 0 ≤ _)⟩)
  dsimp only [Pt.U, Pt.locs, Pt.cells, Pt.slots] at X51 l51 y51 z51 st51 hQ51
  subst l51 y51 z51
  obtain ⟨rfl, Nq51, e51⟩ := hQ51
  have N52 := Fr.app N50 Nq51
  obtain ⟨_, _, ⟨T53, L53, k53, n53⟩, -, X53, ⟨Lc53, hQ53, l53, y53, z53⟩, st53⟩ := Jvm.LawKit.callS X51 hx (y := (⟨"com/example/herald/herald/bytecode/BytesPutU4PinLaw", "ok", "([BIIIII)Z"⟩ : MethodName)) hown (mvT hZ (hw _ (List.mem_of_getElem? (i := 63) rfl))) (mvT hZ (hw _ (List.mem_of_getElem? (i := 64) rfl))) (mvT hZ (hw _ (List.mem_of_getElem? (i := 65) rfl))) (mvT hZ (hw _ (List.mem_of_getElem? (i := 66) rfl))) (by decide) (backOf (W := 0) (rm_okV l Z a0 hw [] b37_1 (2 : Int32) p2 p3 (0 : Int32) p5 k37_2 (8 : Int32) (((((((((((((List.replicate 16 (Value.int (0 : Int32))).set (0 : Int32).toNatClampNeg (.int ((((p2.toUInt32 >>> ((24 : Int32) &&& 31).toUInt32).toInt32).toInt8.toInt32).toInt8.toInt32))).set (1 : Int32).toNatClampNeg (.int ((((p2.toUInt32 >>> ((16 : Int32) &&& 31).toUInt32).toInt32).toInt8.toInt32).toInt8.toInt32))).set (2 : Int32).toNatClampNeg (.int ((((p2.toUInt32 >>> ((8 : Int32) &&& 31).toUInt32).toInt32).toInt8.toInt32).toInt8.toInt32))).set (3 : Int32).toNatClampNeg (.int ((p2.toInt8.toInt32).toInt8.toInt32))).set (4 : Int32).toNatClampNeg (.int ((((p3.toUInt32 >>> ((24 : Int32) &&& 31).toUInt32).toInt32).toInt8.toInt32).toInt8.toInt32))).set (5 : Int32).toNatClampNeg (.int ((((p3.toUInt32 >>> ((16 : Int32) &&& 31).toUInt32).toInt32).toInt8.toInt32).toInt8.toInt32))).set (6 : Int32).toNatClampNeg (.int ((((p3.toUInt32 >>> ((8 : Int32) &&& 31).toUInt32).toInt32).toInt8.toInt32).toInt8.toInt32))).set (7 : Int32).toNatClampNeg (.int ((p3.toInt8.toInt32).toInt8.toInt32))).set (0 : Int32).toNatClampNeg (.int ((((p5.toUInt32 >>> ((24 : Int32) &&& 31).toUInt32).toInt32).toInt8.toInt32).toInt8.toInt32))).set (1 : Int32).toNatClampNeg (.int ((((p5.toUInt32 >>> ((16 : Int32) &&& 31).toUInt32).toInt32).toInt8.toInt32).toInt8.toInt32))).set (2 : Int32).toNatClampNeg (.int ((((p5.toUInt32 >>> ((8 : Int32) &&& 31).toUInt32).toInt32).toInt8.toInt32).toInt8.toInt32))).set (3 : Int32).toNatClampNeg (.int ((p5.toInt8.toInt32).toInt8.toInt32))) T37.heap n0 Zs47 f46 (by decide) (by decide) (by decide) (by decide) hp9) hZ (hw _ (List.mem_of_getElem? (i := 66) rfl)) (hw _ (List.mem_of_getElem? (i := 65) rfl)) (by decide) (by decide)) (g := (mkF m 110 #[.val (.int p1), .val (.int p2), .val (.int p3), .val (.int p4), .val (.int p5), .val (.ref b1), .val (.int (0 : Int32)), .val (.ref b37_1)] [(.int p5), (.int (0 : Int32)), (.int p3), (.int p2), (.int (2 : Int32)), (.ref b37_1)])) rfl (by rw [hml]; rfl) (argsL := [(.ref b37_1), (.int (2 : Int32)), (.int p2), (.int p3), (.int (0 : Int32)), (.int p5)]) (rest := []) (lenOf pd_7 rfl) rfl (by show 2 * 0 + _ ≤ _; exact Nat.le_of_eq rfl) (hb hby at_110) (fun _ _ => ⟨rfl, e51, (by decide : 5 + 0 ≤ _), (by decide : 53 + 0 ≤ _)⟩)
  dsimp only [Pt.U, Pt.locs, Pt.cells, Pt.slots] at X53 l53 y53 z53 st53 hQ53
  subst l53 y53 z53
  obtain ⟨rfl, Nq53, e53⟩ := hQ53
  have N54 := Fr.app N52 Nq53
  obtain ⟨_, _, ⟨T55, L55, k55, n55⟩, -, X55, ⟨Lc55, hQ55, l55, y55, z55⟩, st55⟩ := Jvm.LawKit.callS X53 hx (y := (⟨"com/example/herald/herald/bytecode/BytesPutU4PinLaw", "ok", "([BIIIII)Z"⟩ : MethodName)) hown (mvT hZ (hw _ (List.mem_of_getElem? (i := 63) rfl))) (mvT hZ (hw _ (List.mem_of_getElem? (i := 64) rfl))) (mvT hZ (hw _ (List.mem_of_getElem? (i := 65) rfl))) (mvT hZ (hw _ (List.mem_of_getElem? (i := 66) rfl))) (by decide) (backOf (W := 0) (rm_okV l Z a0 hw [] b37_1 (3 : Int32) p2 p3 (0 : Int32) p5 k37_2 (8 : Int32) (((((((((((((List.replicate 16 (Value.int (0 : Int32))).set (0 : Int32).toNatClampNeg (.int ((((p2.toUInt32 >>> ((24 : Int32) &&& 31).toUInt32).toInt32).toInt8.toInt32).toInt8.toInt32))).set (1 : Int32).toNatClampNeg (.int ((((p2.toUInt32 >>> ((16 : Int32) &&& 31).toUInt32).toInt32).toInt8.toInt32).toInt8.toInt32))).set (2 : Int32).toNatClampNeg (.int ((((p2.toUInt32 >>> ((8 : Int32) &&& 31).toUInt32).toInt32).toInt8.toInt32).toInt8.toInt32))).set (3 : Int32).toNatClampNeg (.int ((p2.toInt8.toInt32).toInt8.toInt32))).set (4 : Int32).toNatClampNeg (.int ((((p3.toUInt32 >>> ((24 : Int32) &&& 31).toUInt32).toInt32).toInt8.toInt32).toInt8.toInt32))).set (5 : Int32).toNatClampNeg (.int ((((p3.toUInt32 >>> ((16 : Int32) &&& 31).toUInt32).toInt32).toInt8.toInt32).toInt8.toInt32))).set (6 : Int32).toNatClampNeg (.int ((((p3.toUInt32 >>> ((8 : Int32) &&& 31).toUInt32).toInt32).toInt8.toInt32).toInt8.toInt32))).set (7 : Int32).toNatClampNeg (.int ((p3.toInt8.toInt32).toInt8.toInt32))).set (0 : Int32).toNatClampNeg (.int ((((p5.toUInt32 >>> ((24 : Int32) &&& 31).toUInt32).toInt32).toInt8.toInt32).toInt8.toInt32))).set (1 : Int32).toNatClampNeg (.int ((((p5.toUInt32 >>> ((16 : Int32) &&& 31).toUInt32).toInt32).toInt8.toInt32).toInt8.toInt32))).set (2 : Int32).toNatClampNeg (.int ((((p5.toUInt32 >>> ((8 : Int32) &&& 31).toUInt32).toInt32).toInt8.toInt32).toInt8.toInt32))).set (3 : Int32).toNatClampNeg (.int ((p5.toInt8.toInt32).toInt8.toInt32))) T37.heap n0 Zs47 f46 (by decide) (by decide) (by decide) (by decide) hp10) hZ (hw _ (List.mem_of_getElem? (i := 66) rfl)) (hw _ (List.mem_of_getElem? (i := 65) rfl)) (by decide) (by decide)) (g := (mkF m 125 #[.val (.int p1), .val (.int p2), .val (.int p3), .val (.int p4), .val (.int p5), .val (.ref b1), .val (.int (0 : Int32)), .val (.ref b37_1)] [(.int p5), (.int (0 : Int32)), (.int p3), (.int p2), (.int (3 : Int32)), (.ref b37_1)])) rfl (by rw [hml]; rfl) (argsL := [(.ref b37_1), (.int (3 : Int32)), (.int p2), (.int p3), (.int (0 : Int32)), (.int p5)]) (rest := []) (lenOf pd_7 rfl) rfl (by show 2 * 0 + _ ≤ _; exact Nat.le_of_eq rfl) (hb hby at_125) (fun _ _ => ⟨rfl, e53, (by decide : 5 + 0 ≤ _), (by decide : 53 + 0 ≤ _)⟩)
  dsimp only [Pt.U, Pt.locs, Pt.cells, Pt.slots] at X55 l55 y55 z55 st55 hQ55
  subst l55 y55 z55
  obtain ⟨rfl, Nq55, e55⟩ := hQ55
  have N56 := Fr.app N54 Nq55
  obtain ⟨_, _, ⟨T57, L57, k57, n57⟩, -, X57, ⟨Lc57, hQ57, l57, y57, z57⟩, st57⟩ := Jvm.LawKit.callS X55 hx (y := (⟨"com/example/herald/herald/bytecode/BytesPutU4PinLaw", "ok", "([BIIIII)Z"⟩ : MethodName)) hown (mvT hZ (hw _ (List.mem_of_getElem? (i := 63) rfl))) (mvT hZ (hw _ (List.mem_of_getElem? (i := 64) rfl))) (mvT hZ (hw _ (List.mem_of_getElem? (i := 65) rfl))) (mvT hZ (hw _ (List.mem_of_getElem? (i := 66) rfl))) (by decide) (backOf (W := 0) (rm_okB l Z a0 hw [] b37_1 (4 : Int32) p2 p3 (0 : Int32) p5 k37_2 (8 : Int32) (((((((((((((List.replicate 16 (Value.int (0 : Int32))).set (0 : Int32).toNatClampNeg (.int ((((p2.toUInt32 >>> ((24 : Int32) &&& 31).toUInt32).toInt32).toInt8.toInt32).toInt8.toInt32))).set (1 : Int32).toNatClampNeg (.int ((((p2.toUInt32 >>> ((16 : Int32) &&& 31).toUInt32).toInt32).toInt8.toInt32).toInt8.toInt32))).set (2 : Int32).toNatClampNeg (.int ((((p2.toUInt32 >>> ((8 : Int32) &&& 31).toUInt32).toInt32).toInt8.toInt32).toInt8.toInt32))).set (3 : Int32).toNatClampNeg (.int ((p2.toInt8.toInt32).toInt8.toInt32))).set (4 : Int32).toNatClampNeg (.int ((((p3.toUInt32 >>> ((24 : Int32) &&& 31).toUInt32).toInt32).toInt8.toInt32).toInt8.toInt32))).set (5 : Int32).toNatClampNeg (.int ((((p3.toUInt32 >>> ((16 : Int32) &&& 31).toUInt32).toInt32).toInt8.toInt32).toInt8.toInt32))).set (6 : Int32).toNatClampNeg (.int ((((p3.toUInt32 >>> ((8 : Int32) &&& 31).toUInt32).toInt32).toInt8.toInt32).toInt8.toInt32))).set (7 : Int32).toNatClampNeg (.int ((p3.toInt8.toInt32).toInt8.toInt32))).set (0 : Int32).toNatClampNeg (.int ((((p5.toUInt32 >>> ((24 : Int32) &&& 31).toUInt32).toInt32).toInt8.toInt32).toInt8.toInt32))).set (1 : Int32).toNatClampNeg (.int ((((p5.toUInt32 >>> ((16 : Int32) &&& 31).toUInt32).toInt32).toInt8.toInt32).toInt8.toInt32))).set (2 : Int32).toNatClampNeg (.int ((((p5.toUInt32 >>> ((8 : Int32) &&& 31).toUInt32).toInt32).toInt8.toInt32).toInt8.toInt32))).set (3 : Int32).toNatClampNeg (.int ((p5.toInt8.toInt32).toInt8.toInt32))) T37.heap n0 Zs47 f46 (by decide) (by decide) (by decide) (by decide) hp11) hZ (hw _ (List.mem_of_getElem? (i := 66) rfl)) (hw _ (List.mem_of_getElem? (i := 65) rfl)) (by decide) (by decide)) (g := (mkF m 140 #[.val (.int p1), .val (.int p2), .val (.int p3), .val (.int p4), .val (.int p5), .val (.ref b1), .val (.int (0 : Int32)), .val (.ref b37_1)] [(.int p5), (.int (0 : Int32)), (.int p3), (.int p2), (.int (4 : Int32)), (.ref b37_1)])) rfl (by rw [hml]; rfl) (argsL := [(.ref b37_1), (.int (4 : Int32)), (.int p2), (.int p3), (.int (0 : Int32)), (.int p5)]) (rest := []) (lenOf pd_7 rfl) rfl (by show 2 * 0 + _ ≤ _; exact Nat.le_of_eq rfl) (hb hby at_140) (fun _ _ => ⟨rfl, e55, (by decide : 5 + 0 ≤ _), (by decide : 53 + 0 ≤ _)⟩)
  dsimp only [Pt.U, Pt.locs, Pt.cells, Pt.slots] at X57 l57 y57 z57 st57 hQ57
  subst l57 y57 z57
  obtain ⟨rfl, Nq57, e57⟩ := hQ57
  have N58 := Fr.app N56 Nq57
  obtain ⟨_, _, ⟨T59, L59, k59, n59⟩, -, X59, ⟨Lc59, hQ59, l59, y59, z59⟩, st59⟩ := Jvm.LawKit.callS X57 hx (y := (⟨"com/example/herald/herald/bytecode/BytesPutU4PinLaw", "ok", "([BIIIII)Z"⟩ : MethodName)) hown (mvT hZ (hw _ (List.mem_of_getElem? (i := 63) rfl))) (mvT hZ (hw _ (List.mem_of_getElem? (i := 64) rfl))) (mvT hZ (hw _ (List.mem_of_getElem? (i := 65) rfl))) (mvT hZ (hw _ (List.mem_of_getElem? (i := 66) rfl))) (by decide) (backOf (W := 0) (rm_okB l Z a0 hw [] b37_1 (5 : Int32) p2 p3 (0 : Int32) p5 k37_2 (8 : Int32) (((((((((((((List.replicate 16 (Value.int (0 : Int32))).set (0 : Int32).toNatClampNeg (.int ((((p2.toUInt32 >>> ((24 : Int32) &&& 31).toUInt32).toInt32).toInt8.toInt32).toInt8.toInt32))).set (1 : Int32).toNatClampNeg (.int ((((p2.toUInt32 >>> ((16 : Int32) &&& 31).toUInt32).toInt32).toInt8.toInt32).toInt8.toInt32))).set (2 : Int32).toNatClampNeg (.int ((((p2.toUInt32 >>> ((8 : Int32) &&& 31).toUInt32).toInt32).toInt8.toInt32).toInt8.toInt32))).set (3 : Int32).toNatClampNeg (.int ((p2.toInt8.toInt32).toInt8.toInt32))).set (4 : Int32).toNatClampNeg (.int ((((p3.toUInt32 >>> ((24 : Int32) &&& 31).toUInt32).toInt32).toInt8.toInt32).toInt8.toInt32))).set (5 : Int32).toNatClampNeg (.int ((((p3.toUInt32 >>> ((16 : Int32) &&& 31).toUInt32).toInt32).toInt8.toInt32).toInt8.toInt32))).set (6 : Int32).toNatClampNeg (.int ((((p3.toUInt32 >>> ((8 : Int32) &&& 31).toUInt32).toInt32).toInt8.toInt32).toInt8.toInt32))).set (7 : Int32).toNatClampNeg (.int ((p3.toInt8.toInt32).toInt8.toInt32))).set (0 : Int32).toNatClampNeg (.int ((((p5.toUInt32 >>> ((24 : Int32) &&& 31).toUInt32).toInt32).toInt8.toInt32).toInt8.toInt32))).set (1 : Int32).toNatClampNeg (.int ((((p5.toUInt32 >>> ((16 : Int32) &&& 31).toUInt32).toInt32).toInt8.toInt32).toInt8.toInt32))).set (2 : Int32).toNatClampNeg (.int ((((p5.toUInt32 >>> ((8 : Int32) &&& 31).toUInt32).toInt32).toInt8.toInt32).toInt8.toInt32))).set (3 : Int32).toNatClampNeg (.int ((p5.toInt8.toInt32).toInt8.toInt32))) T37.heap n0 Zs47 f46 (by decide) (by decide) (by decide) (by decide) hp12) hZ (hw _ (List.mem_of_getElem? (i := 66) rfl)) (hw _ (List.mem_of_getElem? (i := 65) rfl)) (by decide) (by decide)) (g := (mkF m 155 #[.val (.int p1), .val (.int p2), .val (.int p3), .val (.int p4), .val (.int p5), .val (.ref b1), .val (.int (0 : Int32)), .val (.ref b37_1)] [(.int p5), (.int (0 : Int32)), (.int p3), (.int p2), (.int (5 : Int32)), (.ref b37_1)])) rfl (by rw [hml]; rfl) (argsL := [(.ref b37_1), (.int (5 : Int32)), (.int p2), (.int p3), (.int (0 : Int32)), (.int p5)]) (rest := []) (lenOf pd_7 rfl) rfl (by show 2 * 0 + _ ≤ _; exact Nat.le_of_eq rfl) (hb hby at_155) (fun _ _ => ⟨rfl, e57, (by decide : 5 + 0 ≤ _), (by decide : 53 + 0 ≤ _)⟩)
  dsimp only [Pt.U, Pt.locs, Pt.cells, Pt.slots] at X59 l59 y59 z59 st59 hQ59
  subst l59 y59 z59
  obtain ⟨rfl, Nq59, e59⟩ := hQ59
  have N60 := Fr.app N58 Nq59
  obtain ⟨_, _, ⟨T61, L61, k61, n61⟩, -, X61, ⟨Lc61, hQ61, l61, y61, z61⟩, st61⟩ := Jvm.LawKit.callS X59 hx (y := (⟨"com/example/herald/herald/bytecode/BytesPutU4PinLaw", "ok", "([BIIIII)Z"⟩ : MethodName)) hown (mvT hZ (hw _ (List.mem_of_getElem? (i := 63) rfl))) (mvT hZ (hw _ (List.mem_of_getElem? (i := 64) rfl))) (mvT hZ (hw _ (List.mem_of_getElem? (i := 65) rfl))) (mvT hZ (hw _ (List.mem_of_getElem? (i := 66) rfl))) (by decide) (backOf (W := 0) (rm_okB l Z a0 hw [] b37_1 (6 : Int32) p2 p3 (0 : Int32) p5 k37_2 (8 : Int32) (((((((((((((List.replicate 16 (Value.int (0 : Int32))).set (0 : Int32).toNatClampNeg (.int ((((p2.toUInt32 >>> ((24 : Int32) &&& 31).toUInt32).toInt32).toInt8.toInt32).toInt8.toInt32))).set (1 : Int32).toNatClampNeg (.int ((((p2.toUInt32 >>> ((16 : Int32) &&& 31).toUInt32).toInt32).toInt8.toInt32).toInt8.toInt32))).set (2 : Int32).toNatClampNeg (.int ((((p2.toUInt32 >>> ((8 : Int32) &&& 31).toUInt32).toInt32).toInt8.toInt32).toInt8.toInt32))).set (3 : Int32).toNatClampNeg (.int ((p2.toInt8.toInt32).toInt8.toInt32))).set (4 : Int32).toNatClampNeg (.int ((((p3.toUInt32 >>> ((24 : Int32) &&& 31).toUInt32).toInt32).toInt8.toInt32).toInt8.toInt32))).set (5 : Int32).toNatClampNeg (.int ((((p3.toUInt32 >>> ((16 : Int32) &&& 31).toUInt32).toInt32).toInt8.toInt32).toInt8.toInt32))).set (6 : Int32).toNatClampNeg (.int ((((p3.toUInt32 >>> ((8 : Int32) &&& 31).toUInt32).toInt32).toInt8.toInt32).toInt8.toInt32))).set (7 : Int32).toNatClampNeg (.int ((p3.toInt8.toInt32).toInt8.toInt32))).set (0 : Int32).toNatClampNeg (.int ((((p5.toUInt32 >>> ((24 : Int32) &&& 31).toUInt32).toInt32).toInt8.toInt32).toInt8.toInt32))).set (1 : Int32).toNatClampNeg (.int ((((p5.toUInt32 >>> ((16 : Int32) &&& 31).toUInt32).toInt32).toInt8.toInt32).toInt8.toInt32))).set (2 : Int32).toNatClampNeg (.int ((((p5.toUInt32 >>> ((8 : Int32) &&& 31).toUInt32).toInt32).toInt8.toInt32).toInt8.toInt32))).set (3 : Int32).toNatClampNeg (.int ((p5.toInt8.toInt32).toInt8.toInt32))) T37.heap n0 Zs47 f46 (by decide) (by decide) (by decide) (by decide) hp13) hZ (hw _ (List.mem_of_getElem? (i := 66) rfl)) (hw _ (List.mem_of_getElem? (i := 65) rfl)) (by decide) (by decide)) (g := (mkF m 171 #[.val (.int p1), .val (.int p2), .val (.int p3), .val (.int p4), .val (.int p5), .val (.ref b1), .val (.int (0 : Int32)), .val (.ref b37_1)] [(.int p5), (.int (0 : Int32)), (.int p3), (.int p2), (.int (6 : Int32)), (.ref b37_1)])) rfl (by rw [hml]; rfl) (argsL := [(.ref b37_1), (.int (6 : Int32)), (.int p2), (.int p3), (.int (0 : Int32)), (.int p5)]) (rest := []) (lenOf pd_7 rfl) rfl (by show 2 * 0 + _ ≤ _; exact Nat.le_of_eq rfl) (hb hby at_171) (fun _ _ => ⟨rfl, e59, (by decide : 5 + 0 ≤ _), (by decide : 53 + 0 ≤ _)⟩)
  dsimp only [Pt.U, Pt.locs, Pt.cells, Pt.slots] at X61 l61 y61 z61 st61 hQ61
  subst l61 y61 z61
  obtain ⟨rfl, Nq61, e61⟩ := hQ61
  have N62 := Fr.app N60 Nq61
  obtain ⟨_, _, ⟨T63, L63, k63, n63⟩, -, X63, ⟨Lc63, hQ63, l63, y63, z63⟩, st63⟩ := Jvm.LawKit.callS X61 hx (y := (⟨"com/example/herald/herald/bytecode/BytesPutU4PinLaw", "ok", "([BIIIII)Z"⟩ : MethodName)) hown (mvT hZ (hw _ (List.mem_of_getElem? (i := 63) rfl))) (mvT hZ (hw _ (List.mem_of_getElem? (i := 64) rfl))) (mvT hZ (hw _ (List.mem_of_getElem? (i := 65) rfl))) (mvT hZ (hw _ (List.mem_of_getElem? (i := 66) rfl))) (by decide) (backOf (W := 0) (rm_okB l Z a0 hw [] b37_1 (7 : Int32) p2 p3 (0 : Int32) p5 k37_2 (8 : Int32) (((((((((((((List.replicate 16 (Value.int (0 : Int32))).set (0 : Int32).toNatClampNeg (.int ((((p2.toUInt32 >>> ((24 : Int32) &&& 31).toUInt32).toInt32).toInt8.toInt32).toInt8.toInt32))).set (1 : Int32).toNatClampNeg (.int ((((p2.toUInt32 >>> ((16 : Int32) &&& 31).toUInt32).toInt32).toInt8.toInt32).toInt8.toInt32))).set (2 : Int32).toNatClampNeg (.int ((((p2.toUInt32 >>> ((8 : Int32) &&& 31).toUInt32).toInt32).toInt8.toInt32).toInt8.toInt32))).set (3 : Int32).toNatClampNeg (.int ((p2.toInt8.toInt32).toInt8.toInt32))).set (4 : Int32).toNatClampNeg (.int ((((p3.toUInt32 >>> ((24 : Int32) &&& 31).toUInt32).toInt32).toInt8.toInt32).toInt8.toInt32))).set (5 : Int32).toNatClampNeg (.int ((((p3.toUInt32 >>> ((16 : Int32) &&& 31).toUInt32).toInt32).toInt8.toInt32).toInt8.toInt32))).set (6 : Int32).toNatClampNeg (.int ((((p3.toUInt32 >>> ((8 : Int32) &&& 31).toUInt32).toInt32).toInt8.toInt32).toInt8.toInt32))).set (7 : Int32).toNatClampNeg (.int ((p3.toInt8.toInt32).toInt8.toInt32))).set (0 : Int32).toNatClampNeg (.int ((((p5.toUInt32 >>> ((24 : Int32) &&& 31).toUInt32).toInt32).toInt8.toInt32).toInt8.toInt32))).set (1 : Int32).toNatClampNeg (.int ((((p5.toUInt32 >>> ((16 : Int32) &&& 31).toUInt32).toInt32).toInt8.toInt32).toInt8.toInt32))).set (2 : Int32).toNatClampNeg (.int ((((p5.toUInt32 >>> ((8 : Int32) &&& 31).toUInt32).toInt32).toInt8.toInt32).toInt8.toInt32))).set (3 : Int32).toNatClampNeg (.int ((p5.toInt8.toInt32).toInt8.toInt32))) T37.heap n0 Zs47 f46 (by decide) (by decide) (by decide) (by decide) hp14) hZ (hw _ (List.mem_of_getElem? (i := 66) rfl)) (hw _ (List.mem_of_getElem? (i := 65) rfl)) (by decide) (by decide)) (g := (mkF m 187 #[.val (.int p1), .val (.int p2), .val (.int p3), .val (.int p4), .val (.int p5), .val (.ref b1), .val (.int (0 : Int32)), .val (.ref b37_1)] [(.int p5), (.int (0 : Int32)), (.int p3), (.int p2), (.int (7 : Int32)), (.ref b37_1)])) rfl (by rw [hml]; rfl) (argsL := [(.ref b37_1), (.int (7 : Int32)), (.int p2), (.int p3), (.int (0 : Int32)), (.int p5)]) (rest := []) (lenOf pd_7 rfl) rfl (by show 2 * 0 + _ ≤ _; exact Nat.le_of_eq rfl) (hb hby at_187) (fun _ _ => ⟨rfl, e61, (by decide : 5 + 0 ≤ _), (by decide : 53 + 0 ≤ _)⟩)
  dsimp only [Pt.U, Pt.locs, Pt.cells, Pt.slots] at X63 l63 y63 z63 st63 hQ63
  subst l63 y63 z63
  obtain ⟨rfl, Nq63, e63⟩ := hQ63
  have N64 := Fr.app N62 Nq63
  obtain ⟨fs, hr, hrun, hended, hW, hsame⟩ := X63.leave (v := some (.int (1 : Int32))) (fun h => by rw [Bd.returns] at h; cases h) Bd.notSynchronized
  refine ⟨_, _, pre0 _ ?_, hrun, hended, _, _, rfl, ?_, ⟨_, rfl⟩, hW, hsame.mono (by decide) (by decide)⟩
  · show Steps p.tables e below (s₁.setTop (mkF m 0 #[.val (.int p1), .val (.int p2), .val (.int p3), .val (.int p4), .val (.int p5), .unset, .unset, .unset] [])) _
    refine st1 _ ?_
    show Steps p.tables e below (T1.setTop (mkF m 3 #[.val (.int p1), .val (.int p2), .val (.int p3), .val (.int p4), .val (.int p5), .unset, .unset, .unset] [(.ref b1)])) _
    refine XS.dup X1.here hx rfl (hb hby at_3) rfl rfl ?_
    show Steps p.tables e below (T1.setTop (mkF m 4 #[.val (.int p1), .val (.int p2), .val (.int p3), .val (.int p4), .val (.int p5), .unset, .unset, .unset] [(.ref b1), (.ref b1)])) _
    refine XS.iloadN X1.here hx rfl (hb hby at_4) rfl ?_
    show Steps p.tables e below (T1.setTop (mkF m 5 #[.val (.int p1), .val (.int p2), .val (.int p3), .val (.int p4), .val (.int p5), .unset, .unset, .unset] [(.int p1), (.ref b1), (.ref b1)])) _
    refine XS.bipush X1.here hx rfl (hb hby at_5) ?_
    show Steps p.tables e below (T1.setTop (mkF m 7 #[.val (.int p1), .val (.int p2), .val (.int p3), .val (.int p4), .val (.int p5), .unset, .unset, .unset] [(.int (15 : Int32)), (.int p1), (.ref b1), (.ref b1)])) _
    refine XS.iand X1.here hx rfl (hb hby at_7) rfl ?_
    show Steps p.tables e below (T1.setTop (mkF m 8 #[.val (.int p1), .val (.int p2), .val (.int p3), .val (.int p4), .val (.int p5), .unset, .unset, .unset] [(.int (p1 &&& (15 : Int32))), (.ref b1), (.ref b1)])) _
    refine st5.trans ?_
    show Steps p.tables e below (T5.setTop (mkF m 11 #[.val (.int p1), .val (.int p2), .val (.int p3), .val (.int p4), .val (.int p5), .unset, .unset, .unset] [(.ref b1)])) _
    refine XS.astore X5.here hx rfl (hb hby at_11) rfl rfl (l' := #[.val (.int p1), .val (.int p2), .val (.int p3), .val (.int p4), .val (.int p5), .val (.ref b1), .unset, .unset]) rfl ?_
    show Steps p.tables e below (T5.setTop (mkF m 13 #[.val (.int p1), .val (.int p2), .val (.int p3), .val (.int p4), .val (.int p5), .val (.ref b1), .unset, .unset] [])) _
    refine XS.aload X5.here hx rfl (hb hby at_13) rfl rfl ?_
    show Steps p.tables e below (T5.setTop (mkF m 15 #[.val (.int p1), .val (.int p2), .val (.int p3), .val (.int p4), .val (.int p5), .val (.ref b1), .unset, .unset] [(.ref b1)])) _
    refine XS.iloadN X5.here hx rfl (hb hby at_15) rfl ?_
    show Steps p.tables e below (T5.setTop (mkF m 16 #[.val (.int p1), .val (.int p2), .val (.int p3), .val (.int p4), .val (.int p5), .val (.ref b1), .unset, .unset] [(.int p2), (.ref b1)])) _
    refine st11.trans ?_
    show Steps p.tables e below (T11.setTop (mkF m 19 #[.val (.int p1), .val (.int p2), .val (.int p3), .val (.int p4), .val (.int p5), .val (.ref b1), .unset, .unset] [])) _
    refine XS.aload X11.here hx rfl (hb hby at_19) rfl rfl ?_
    show Steps p.tables e below (T11.setTop (mkF m 21 #[.val (.int p1), .val (.int p2), .val (.int p3), .val (.int p4), .val (.int p5), .val (.ref b1), .unset, .unset] [(.ref b1)])) _
    refine XS.iloadN X11.here hx rfl (hb hby at_21) rfl ?_
    show Steps p.tables e below (T11.setTop (mkF m 22 #[.val (.int p1), .val (.int p2), .val (.int p3), .val (.int p4), .val (.int p5), .val (.ref b1), .unset, .unset] [(.int p3), (.ref b1)])) _
    refine st18.trans ?_
    show Steps p.tables e below (T18.setTop (mkF m 25 #[.val (.int p1), .val (.int p2), .val (.int p3), .val (.int p4), .val (.int p5), .val (.ref b1), .unset, .unset] [])) _
    refine XS.iloadN X18.here hx rfl (hb hby at_25) rfl ?_
    show Steps p.tables e below (T18.setTop (mkF m 26 #[.val (.int p1), .val (.int p2), .val (.int p3), .val (.int p4), .val (.int p5), .val (.ref b1), .unset, .unset] [(.int p4)])) _
    refine X18.ldcInt hx hown (mvT hZ (hw _ (List.mem_of_getElem? (i := 38) rfl))) (g := (mkF m 26 #[.val (.int p1), .val (.int p2), .val (.int p3), .val (.int p4), .val (.int p5), .val (.ref b1), .unset, .unset] [(.int p4)])) rfl (hb hby at_26) _ ?_
    show Steps p.tables e below (T18.setTop (mkF m 28 #[.val (.int p1), .val (.int p2), .val (.int p3), .val (.int p4), .val (.int p5), .val (.ref b1), .unset, .unset] [(.int (2147483647 : Int32)), (.int p4)])) _
    refine XS.iand X18.here hx rfl (hb hby at_28) rfl ?_
    show Steps p.tables e below (T18.setTop (mkF m 29 #[.val (.int p1), .val (.int p2), .val (.int p3), .val (.int p4), .val (.int p5), .val (.ref b1), .unset, .unset] [(.int (p4 &&& (2147483647 : Int32)))])) _
    refine XS.iconst X18.here hx rfl (hb hby at_29) ?_
    show Steps p.tables e below (T18.setTop (mkF m 30 #[.val (.int p1), .val (.int p2), .val (.int p3), .val (.int p4), .val (.int p5), .val (.ref b1), .unset, .unset] [(.int (5 : Int32)), (.int (p4 &&& (2147483647 : Int32)))])) _
    refine iremM X18 hx rfl (hb hby at_30) rfl (by decide) ?_
    show Steps p.tables e below (T18.setTop (mkF m 31 #[.val (.int p1), .val (.int p2), .val (.int p3), .val (.int p4), .val (.int p5), .val (.ref b1), .unset, .unset] [(.int ((p4 &&& (2147483647 : Int32)) % (5 : Int32)))])) _
    refine XS.istore X18.here hx rfl (hb hby at_31) rfl (l' := #[.val (.int p1), .val (.int p2), .val (.int p3), .val (.int p4), .val (.int p5), .val (.ref b1), .val (.int ((p4 &&& (2147483647 : Int32)) % (5 : Int32))), .unset]) rfl ?_
    show Steps p.tables e below (T18.setTop (mkF m 33 #[.val (.int p1), .val (.int p2), .val (.int p3), .val (.int p4), .val (.int p5), .val (.ref b1), .val (.int ((p4 &&& (2147483647 : Int32)) % (5 : Int32))), .unset] [])) _
    rw [hw_5]
    show Steps p.tables e below (T18.setTop (mkF m 33 #[.val (.int p1), .val (.int p2), .val (.int p3), .val (.int p4), .val (.int p5), .val (.ref b1), .val (.int (0 : Int32)), .unset] [])) _
    refine XS.aload X18.here hx rfl (hb hby at_33) rfl rfl ?_
    show Steps p.tables e below (T18.setTop (mkF m 35 #[.val (.int p1), .val (.int p2), .val (.int p3), .val (.int p4), .val (.int p5), .val (.ref b1), .val (.int (0 : Int32)), .unset] [(.ref b1)])) _
    refine XS.iload X18.here hx rfl (hb hby at_35) rfl ?_
    show Steps p.tables e below (T18.setTop (mkF m 37 #[.val (.int p1), .val (.int p2), .val (.int p3), .val (.int p4), .val (.int p5), .val (.ref b1), .val (.int (0 : Int32)), .unset] [(.int (0 : Int32)), (.ref b1)])) _
    refine XS.iload X18.here hx rfl (hb hby at_37) rfl ?_
    show Steps p.tables e below (T18.setTop (mkF m 39 #[.val (.int p1), .val (.int p2), .val (.int p3), .val (.int p4), .val (.int p5), .val (.ref b1), .val (.int (0 : Int32)), .unset] [(.int p5), (.int (0 : Int32)), (.ref b1)])) _
    refine st26.trans ?_
    show Steps p.tables e below (T26.setTop (mkF m 42 #[.val (.int p1), .val (.int p2), .val (.int p3), .val (.int p4), .val (.int p5), .val (.ref b1), .val (.int (0 : Int32)), .unset] [])) _
    refine XS.aload X26.here hx rfl (hb hby at_42) rfl rfl ?_
    show Steps p.tables e below (T26.setTop (mkF m 44 #[.val (.int p1), .val (.int p2), .val (.int p3), .val (.int p4), .val (.int p5), .val (.ref b1), .val (.int (0 : Int32)), .unset] [(.ref b1)])) _
    refine st35.trans ?_
    show Steps p.tables e below (T35.setTop (mkF m 47 #[.val (.int p1), .val (.int p2), .val (.int p3), .val (.int p4), .val (.int p5), .val (.ref b1), .val (.int (0 : Int32)), .unset] [(.int (8 : Int32))])) _
    refine XS.bipush X35.here hx rfl (hb hby at_47) ?_
    show Steps p.tables e below (T35.setTop (mkF m 49 #[.val (.int p1), .val (.int p2), .val (.int p3), .val (.int p4), .val (.int p5), .val (.ref b1), .val (.int (0 : Int32)), .unset] [(.int (8 : Int32)), (.int (8 : Int32))])) _
    refine XS.icmpYes X35.here hx rfl (pc0 := 49) (pc' := 54) rfl (hb hby at_49) rfl (teq (by decide : (8 : Int32) = (8 : Int32))).1 (by decide) (by decide) ?_
    show Steps p.tables e below (T35.setTop (mkF m 54 #[.val (.int p1), .val (.int p2), .val (.int p3), .val (.int p4), .val (.int p5), .val (.ref b1), .val (.int (0 : Int32)), .unset] [])) _
    refine XS.aload X35.here hx rfl (hb hby at_54) rfl rfl ?_
    show Steps p.tables e below (T35.setTop (mkF m 56 #[.val (.int p1), .val (.int p2), .val (.int p3), .val (.int p4), .val (.int p5), .val (.ref b1), .val (.int (0 : Int32)), .unset] [(.ref b1)])) _
    refine st37.trans ?_
    show Steps p.tables e below (T37.setTop (mkF m 59 #[.val (.int p1), .val (.int p2), .val (.int p3), .val (.int p4), .val (.int p5), .val (.ref b1), .val (.int (0 : Int32)), .unset] [(.ref b37_1)])) _
    refine XS.astore X37.here hx rfl (hb hby at_59) rfl rfl (l' := #[.val (.int p1), .val (.int p2), .val (.int p3), .val (.int p4), .val (.int p5), .val (.ref b1), .val (.int (0 : Int32)), .val (.ref b37_1)]) rfl ?_
    show Steps p.tables e below (T37.setTop (mkF m 61 #[.val (.int p1), .val (.int p2), .val (.int p3), .val (.int p4), .val (.int p5), .val (.ref b1), .val (.int (0 : Int32)), .val (.ref b37_1)] [])) _
    refine XS.aload X37.here hx rfl (hb hby at_61) rfl rfl ?_
    show Steps p.tables e below (T37.setTop (mkF m 63 #[.val (.int p1), .val (.int p2), .val (.int p3), .val (.int p4), .val (.int p5), .val (.ref b1), .val (.int (0 : Int32)), .val (.ref b37_1)] [(.ref b37_1)])) _
    refine X37.arraylength hx Aro48.1 (State.isArrayOf_alike hZ.alike Aro48.2.1) (g := (mkF m 63 #[.val (.int p1), .val (.int p2), .val (.int p3), .val (.int p4), .val (.int p5), .val (.ref b1), .val (.int (0 : Int32)), .val (.ref b37_1)] [(.ref b37_1)])) rfl rfl (hb hby at_63) _ ?_
    rw [len_of So48 No48]
    show Steps p.tables e below (T37.setTop (mkF m 64 #[.val (.int p1), .val (.int p2), .val (.int p3), .val (.int p4), .val (.int p5), .val (.ref b1), .val (.int (0 : Int32)), .val (.ref b37_1)] [(.int (8 : Int32))])) _
    refine XS.bipush X37.here hx rfl (hb hby at_64) ?_
    show Steps p.tables e below (T37.setTop (mkF m 66 #[.val (.int p1), .val (.int p2), .val (.int p3), .val (.int p4), .val (.int p5), .val (.ref b1), .val (.int (0 : Int32)), .val (.ref b37_1)] [(.int (8 : Int32)), (.int (8 : Int32))])) _
    refine XS.icmpYes X37.here hx rfl (pc0 := 66) (pc' := 71) rfl (hb hby at_66) rfl (teq (by decide : (8 : Int32) = (8 : Int32))).1 (by decide) (by decide) ?_
    show Steps p.tables e below (T37.setTop (mkF m 71 #[.val (.int p1), .val (.int p2), .val (.int p3), .val (.int p4), .val (.int p5), .val (.ref b1), .val (.int (0 : Int32)), .val (.ref b37_1)] [])) _
    refine XS.aload X37.here hx rfl (hb hby at_71) rfl rfl ?_
    show Steps p.tables e below (T37.setTop (mkF m 73 #[.val (.int p1), .val (.int p2), .val (.int p3), .val (.int p4), .val (.int p5), .val (.ref b1), .val (.int (0 : Int32)), .val (.ref b37_1)] [(.ref b37_1)])) _
    refine XS.iconst X37.here hx rfl (hb hby at_73) ?_
    show Steps p.tables e below (T37.setTop (mkF m 74 #[.val (.int p1), .val (.int p2), .val (.int p3), .val (.int p4), .val (.int p5), .val (.ref b1), .val (.int (0 : Int32)), .val (.ref b37_1)] [(.int (0 : Int32)), (.ref b37_1)])) _
    refine XS.iloadN X37.here hx rfl (hb hby at_74) rfl ?_
    show Steps p.tables e below (T37.setTop (mkF m 75 #[.val (.int p1), .val (.int p2), .val (.int p3), .val (.int p4), .val (.int p5), .val (.ref b1), .val (.int (0 : Int32)), .val (.ref b37_1)] [(.int p2), (.int (0 : Int32)), (.ref b37_1)])) _
    refine XS.iloadN X37.here hx rfl (hb hby at_75) rfl ?_
    show Steps p.tables e below (T37.setTop (mkF m 76 #[.val (.int p1), .val (.int p2), .val (.int p3), .val (.int p4), .val (.int p5), .val (.ref b1), .val (.int (0 : Int32)), .val (.ref b37_1)] [(.int p3), (.int p2), (.int (0 : Int32)), (.ref b37_1)])) _
    refine XS.iload X37.here hx rfl (hb hby at_76) rfl ?_
    show Steps p.tables e below (T37.setTop (mkF m 78 #[.val (.int p1), .val (.int p2), .val (.int p3), .val (.int p4), .val (.int p5), .val (.ref b1), .val (.int (0 : Int32)), .val (.ref b37_1)] [(.int (0 : Int32)), (.int p3), (.int p2), (.int (0 : Int32)), (.ref b37_1)])) _
    refine XS.iload X37.here hx rfl (hb hby at_78) rfl ?_
    show Steps p.tables e below (T37.setTop (mkF m 80 #[.val (.int p1), .val (.int p2), .val (.int p3), .val (.int p4), .val (.int p5), .val (.ref b1), .val (.int (0 : Int32)), .val (.ref b37_1)] [(.int p5), (.int (0 : Int32)), (.int p3), (.int p2), (.int (0 : Int32)), (.ref b37_1)])) _
    refine st49 _ ?_
    show Steps p.tables e below (T49.setTop (mkF m 83 #[.val (.int p1), .val (.int p2), .val (.int p3), .val (.int p4), .val (.int p5), .val (.ref b1), .val (.int (0 : Int32)), .val (.ref b37_1)] [(.int (1 : Int32))])) _
    refine XS.ifNo X49.here hx rfl (hb hby at_83) rfl ((if0 _ _).trans (feq (by decide : ¬ ((1 : Int32) = (0 : Int32)))).1) ?_
    show Steps p.tables e below (T49.setTop (mkF m 86 #[.val (.int p1), .val (.int p2), .val (.int p3), .val (.int p4), .val (.int p5), .val (.ref b1), .val (.int (0 : Int32)), .val (.ref b37_1)] [])) _
    refine XS.aload X49.here hx rfl (hb hby at_86) rfl rfl ?_
    show Steps p.tables e below (T49.setTop (mkF m 88 #[.val (.int p1), .val (.int p2), .val (.int p3), .val (.int p4), .val (.int p5), .val (.ref b1), .val (.int (0 : Int32)), .val (.ref b37_1)] [(.ref b37_1)])) _
    refine XS.iconst X49.here hx rfl (hb hby at_88) ?_
    show Steps p.tables e below (T49.setTop (mkF m 89 #[.val (.int p1), .val (.int p2), .val (.int p3), .val (.int p4), .val (.int p5), .val (.ref b1), .val (.int (0 : Int32)), .val (.ref b37_1)] [(.int (1 : Int32)), (.ref b37_1)])) _
    refine XS.iloadN X49.here hx rfl (hb hby at_89) rfl ?_
    show Steps p.tables e below (T49.setTop (mkF m 90 #[.val (.int p1), .val (.int p2), .val (.int p3), .val (.int p4), .val (.int p5), .val (.ref b1), .val (.int (0 : Int32)), .val (.ref b37_1)] [(.int p2), (.int (1 : Int32)), (.ref b37_1)])) _
    refine XS.iloadN X49.here hx rfl (hb hby at_90) rfl ?_
    show Steps p.tables e below (T49.setTop (mkF m 91 #[.val (.int p1), .val (.int p2), .val (.int p3), .val (.int p4), .val (.int p5), .val (.ref b1), .val (.int (0 : Int32)), .val (.ref b37_1)] [(.int p3), (.int p2), (.int (1 : Int32)), (.ref b37_1)])) _
    refine XS.iload X49.here hx rfl (hb hby at_91) rfl ?_
    show Steps p.tables e below (T49.setTop (mkF m 93 #[.val (.int p1), .val (.int p2), .val (.int p3), .val (.int p4), .val (.int p5), .val (.ref b1), .val (.int (0 : Int32)), .val (.ref b37_1)] [(.int (0 : Int32)), (.int p3), (.int p2), (.int (1 : Int32)), (.ref b37_1)])) _
    refine XS.iload X49.here hx rfl (hb hby at_93) rfl ?_
    show Steps p.tables e below (T49.setTop (mkF m 95 #[.val (.int p1), .val (.int p2), .val (.int p3), .val (.int p4), .val (.int p5), .val (.ref b1), .val (.int (0 : Int32)), .val (.ref b37_1)] [(.int p5), (.int (0 : Int32)), (.int p3), (.int p2), (.int (1 : Int32)), (.ref b37_1)])) _
    refine st51 _ ?_
    show Steps p.tables e below (T51.setTop (mkF m 98 #[.val (.int p1), .val (.int p2), .val (.int p3), .val (.int p4), .val (.int p5), .val (.ref b1), .val (.int (0 : Int32)), .val (.ref b37_1)] [(.int (1 : Int32))])) _
    refine XS.ifNo X51.here hx rfl (hb hby at_98) rfl ((if0 _ _).trans (feq (by decide : ¬ ((1 : Int32) = (0 : Int32)))).1) ?_
    show Steps p.tables e below (T51.setTop (mkF m 101 #[.val (.int p1), .val (.int p2), .val (.int p3), .val (.int p4), .val (.int p5), .val (.ref b1), .val (.int (0 : Int32)), .val (.ref b37_1)] [])) _
    refine XS.aload X51.here hx rfl (hb hby at_101) rfl rfl ?_
    show Steps p.tables e below (T51.setTop (mkF m 103 #[.val (.int p1), .val (.int p2), .val (.int p3), .val (.int p4), .val (.int p5), .val (.ref b1), .val (.int (0 : Int32)), .val (.ref b37_1)] [(.ref b37_1)])) _
    refine XS.iconst X51.here hx rfl (hb hby at_103) ?_
    show Steps p.tables e below (T51.setTop (mkF m 104 #[.val (.int p1), .val (.int p2), .val (.int p3), .val (.int p4), .val (.int p5), .val (.ref b1), .val (.int (0 : Int32)), .val (.ref b37_1)] [(.int (2 : Int32)), (.ref b37_1)])) _
    refine XS.iloadN X51.here hx rfl (hb hby at_104) rfl ?_
    show Steps p.tables e below (T51.setTop (mkF m 105 #[.val (.int p1), .val (.int p2), .val (.int p3), .val (.int p4), .val (.int p5), .val (.ref b1), .val (.int (0 : Int32)), .val (.ref b37_1)] [(.int p2), (.int (2 : Int32)), (.ref b37_1)])) _
    refine XS.iloadN X51.here hx rfl (hb hby at_105) rfl ?_
    show Steps p.tables e below (T51.setTop (mkF m 106 #[.val (.int p1), .val (.int p2), .val (.int p3), .val (.int p4), .val (.int p5), .val (.ref b1), .val (.int (0 : Int32)), .val (.ref b37_1)] [(.int p3), (.int p2), (.int (2 : Int32)), (.ref b37_1)])) _
    refine XS.iload X51.here hx rfl (hb hby at_106) rfl ?_
    show Steps p.tables e below (T51.setTop (mkF m 108 #[.val (.int p1), .val (.int p2), .val (.int p3), .val (.int p4), .val (.int p5), .val (.ref b1), .val (.int (0 : Int32)), .val (.ref b37_1)] [(.int (0 : Int32)), (.int p3), (.int p2), (.int (2 : Int32)), (.ref b37_1)])) _
    refine XS.iload X51.here hx rfl (hb hby at_108) rfl ?_
    show Steps p.tables e below (T51.setTop (mkF m 110 #[.val (.int p1), .val (.int p2), .val (.int p3), .val (.int p4), .val (.int p5), .val (.ref b1), .val (.int (0 : Int32)), .val (.ref b37_1)] [(.int p5), (.int (0 : Int32)), (.int p3), (.int p2), (.int (2 : Int32)), (.ref b37_1)])) _
    refine st53 _ ?_
    show Steps p.tables e below (T53.setTop (mkF m 113 #[.val (.int p1), .val (.int p2), .val (.int p3), .val (.int p4), .val (.int p5), .val (.ref b1), .val (.int (0 : Int32)), .val (.ref b37_1)] [(.int (1 : Int32))])) _
    refine XS.ifNo X53.here hx rfl (hb hby at_113) rfl ((if0 _ _).trans (feq (by decide : ¬ ((1 : Int32) = (0 : Int32)))).1) ?_
    show Steps p.tables e below (T53.setTop (mkF m 116 #[.val (.int p1), .val (.int p2), .val (.int p3), .val (.int p4), .val (.int p5), .val (.ref b1), .val (.int (0 : Int32)), .val (.ref b37_1)] [])) _
    refine XS.aload X53.here hx rfl (hb hby at_116) rfl rfl ?_
    show Steps p.tables e below (T53.setTop (mkF m 118 #[.val (.int p1), .val (.int p2), .val (.int p3), .val (.int p4), .val (.int p5), .val (.ref b1), .val (.int (0 : Int32)), .val (.ref b37_1)] [(.ref b37_1)])) _
    refine XS.iconst X53.here hx rfl (hb hby at_118) ?_
    show Steps p.tables e below (T53.setTop (mkF m 119 #[.val (.int p1), .val (.int p2), .val (.int p3), .val (.int p4), .val (.int p5), .val (.ref b1), .val (.int (0 : Int32)), .val (.ref b37_1)] [(.int (3 : Int32)), (.ref b37_1)])) _
    refine XS.iloadN X53.here hx rfl (hb hby at_119) rfl ?_
    show Steps p.tables e below (T53.setTop (mkF m 120 #[.val (.int p1), .val (.int p2), .val (.int p3), .val (.int p4), .val (.int p5), .val (.ref b1), .val (.int (0 : Int32)), .val (.ref b37_1)] [(.int p2), (.int (3 : Int32)), (.ref b37_1)])) _
    refine XS.iloadN X53.here hx rfl (hb hby at_120) rfl ?_
    show Steps p.tables e below (T53.setTop (mkF m 121 #[.val (.int p1), .val (.int p2), .val (.int p3), .val (.int p4), .val (.int p5), .val (.ref b1), .val (.int (0 : Int32)), .val (.ref b37_1)] [(.int p3), (.int p2), (.int (3 : Int32)), (.ref b37_1)])) _
    refine XS.iload X53.here hx rfl (hb hby at_121) rfl ?_
    show Steps p.tables e below (T53.setTop (mkF m 123 #[.val (.int p1), .val (.int p2), .val (.int p3), .val (.int p4), .val (.int p5), .val (.ref b1), .val (.int (0 : Int32)), .val (.ref b37_1)] [(.int (0 : Int32)), (.int p3), (.int p2), (.int (3 : Int32)), (.ref b37_1)])) _
    refine XS.iload X53.here hx rfl (hb hby at_123) rfl ?_
    show Steps p.tables e below (T53.setTop (mkF m 125 #[.val (.int p1), .val (.int p2), .val (.int p3), .val (.int p4), .val (.int p5), .val (.ref b1), .val (.int (0 : Int32)), .val (.ref b37_1)] [(.int p5), (.int (0 : Int32)), (.int p3), (.int p2), (.int (3 : Int32)), (.ref b37_1)])) _
    refine st55 _ ?_
    show Steps p.tables e below (T55.setTop (mkF m 128 #[.val (.int p1), .val (.int p2), .val (.int p3), .val (.int p4), .val (.int p5), .val (.ref b1), .val (.int (0 : Int32)), .val (.ref b37_1)] [(.int (1 : Int32))])) _
    refine XS.ifNo X55.here hx rfl (hb hby at_128) rfl ((if0 _ _).trans (feq (by decide : ¬ ((1 : Int32) = (0 : Int32)))).1) ?_
    show Steps p.tables e below (T55.setTop (mkF m 131 #[.val (.int p1), .val (.int p2), .val (.int p3), .val (.int p4), .val (.int p5), .val (.ref b1), .val (.int (0 : Int32)), .val (.ref b37_1)] [])) _
    refine XS.aload X55.here hx rfl (hb hby at_131) rfl rfl ?_
    show Steps p.tables e below (T55.setTop (mkF m 133 #[.val (.int p1), .val (.int p2), .val (.int p3), .val (.int p4), .val (.int p5), .val (.ref b1), .val (.int (0 : Int32)), .val (.ref b37_1)] [(.ref b37_1)])) _
    refine XS.iconst X55.here hx rfl (hb hby at_133) ?_
    show Steps p.tables e below (T55.setTop (mkF m 134 #[.val (.int p1), .val (.int p2), .val (.int p3), .val (.int p4), .val (.int p5), .val (.ref b1), .val (.int (0 : Int32)), .val (.ref b37_1)] [(.int (4 : Int32)), (.ref b37_1)])) _
    refine XS.iloadN X55.here hx rfl (hb hby at_134) rfl ?_
    show Steps p.tables e below (T55.setTop (mkF m 135 #[.val (.int p1), .val (.int p2), .val (.int p3), .val (.int p4), .val (.int p5), .val (.ref b1), .val (.int (0 : Int32)), .val (.ref b37_1)] [(.int p2), (.int (4 : Int32)), (.ref b37_1)])) _
    refine XS.iloadN X55.here hx rfl (hb hby at_135) rfl ?_
    show Steps p.tables e below (T55.setTop (mkF m 136 #[.val (.int p1), .val (.int p2), .val (.int p3), .val (.int p4), .val (.int p5), .val (.ref b1), .val (.int (0 : Int32)), .val (.ref b37_1)] [(.int p3), (.int p2), (.int (4 : Int32)), (.ref b37_1)])) _
    refine XS.iload X55.here hx rfl (hb hby at_136) rfl ?_
    show Steps p.tables e below (T55.setTop (mkF m 138 #[.val (.int p1), .val (.int p2), .val (.int p3), .val (.int p4), .val (.int p5), .val (.ref b1), .val (.int (0 : Int32)), .val (.ref b37_1)] [(.int (0 : Int32)), (.int p3), (.int p2), (.int (4 : Int32)), (.ref b37_1)])) _
    refine XS.iload X55.here hx rfl (hb hby at_138) rfl ?_
    show Steps p.tables e below (T55.setTop (mkF m 140 #[.val (.int p1), .val (.int p2), .val (.int p3), .val (.int p4), .val (.int p5), .val (.ref b1), .val (.int (0 : Int32)), .val (.ref b37_1)] [(.int p5), (.int (0 : Int32)), (.int p3), (.int p2), (.int (4 : Int32)), (.ref b37_1)])) _
    refine st57 _ ?_
    show Steps p.tables e below (T57.setTop (mkF m 143 #[.val (.int p1), .val (.int p2), .val (.int p3), .val (.int p4), .val (.int p5), .val (.ref b1), .val (.int (0 : Int32)), .val (.ref b37_1)] [(.int (1 : Int32))])) _
    refine XS.ifNo X57.here hx rfl (hb hby at_143) rfl ((if0 _ _).trans (feq (by decide : ¬ ((1 : Int32) = (0 : Int32)))).1) ?_
    show Steps p.tables e below (T57.setTop (mkF m 146 #[.val (.int p1), .val (.int p2), .val (.int p3), .val (.int p4), .val (.int p5), .val (.ref b1), .val (.int (0 : Int32)), .val (.ref b37_1)] [])) _
    refine XS.aload X57.here hx rfl (hb hby at_146) rfl rfl ?_
    show Steps p.tables e below (T57.setTop (mkF m 148 #[.val (.int p1), .val (.int p2), .val (.int p3), .val (.int p4), .val (.int p5), .val (.ref b1), .val (.int (0 : Int32)), .val (.ref b37_1)] [(.ref b37_1)])) _
    refine XS.iconst X57.here hx rfl (hb hby at_148) ?_
    show Steps p.tables e below (T57.setTop (mkF m 149 #[.val (.int p1), .val (.int p2), .val (.int p3), .val (.int p4), .val (.int p5), .val (.ref b1), .val (.int (0 : Int32)), .val (.ref b37_1)] [(.int (5 : Int32)), (.ref b37_1)])) _
    refine XS.iloadN X57.here hx rfl (hb hby at_149) rfl ?_
    show Steps p.tables e below (T57.setTop (mkF m 150 #[.val (.int p1), .val (.int p2), .val (.int p3), .val (.int p4), .val (.int p5), .val (.ref b1), .val (.int (0 : Int32)), .val (.ref b37_1)] [(.int p2), (.int (5 : Int32)), (.ref b37_1)])) _
    refine XS.iloadN X57.here hx rfl (hb hby at_150) rfl ?_
    show Steps p.tables e below (T57.setTop (mkF m 151 #[.val (.int p1), .val (.int p2), .val (.int p3), .val (.int p4), .val (.int p5), .val (.ref b1), .val (.int (0 : Int32)), .val (.ref b37_1)] [(.int p3), (.int p2), (.int (5 : Int32)), (.ref b37_1)])) _
    refine XS.iload X57.here hx rfl (hb hby at_151) rfl ?_
    show Steps p.tables e below (T57.setTop (mkF m 153 #[.val (.int p1), .val (.int p2), .val (.int p3), .val (.int p4), .val (.int p5), .val (.ref b1), .val (.int (0 : Int32)), .val (.ref b37_1)] [(.int (0 : Int32)), (.int p3), (.int p2), (.int (5 : Int32)), (.ref b37_1)])) _
    refine XS.iload X57.here hx rfl (hb hby at_153) rfl ?_
    show Steps p.tables e below (T57.setTop (mkF m 155 #[.val (.int p1), .val (.int p2), .val (.int p3), .val (.int p4), .val (.int p5), .val (.ref b1), .val (.int (0 : Int32)), .val (.ref b37_1)] [(.int p5), (.int (0 : Int32)), (.int p3), (.int p2), (.int (5 : Int32)), (.ref b37_1)])) _
    refine st59 _ ?_
    show Steps p.tables e below (T59.setTop (mkF m 158 #[.val (.int p1), .val (.int p2), .val (.int p3), .val (.int p4), .val (.int p5), .val (.ref b1), .val (.int (0 : Int32)), .val (.ref b37_1)] [(.int (1 : Int32))])) _
    refine XS.ifNo X59.here hx rfl (hb hby at_158) rfl ((if0 _ _).trans (feq (by decide : ¬ ((1 : Int32) = (0 : Int32)))).1) ?_
    show Steps p.tables e below (T59.setTop (mkF m 161 #[.val (.int p1), .val (.int p2), .val (.int p3), .val (.int p4), .val (.int p5), .val (.ref b1), .val (.int (0 : Int32)), .val (.ref b37_1)] [])) _
    refine XS.aload X59.here hx rfl (hb hby at_161) rfl rfl ?_
    show Steps p.tables e below (T59.setTop (mkF m 163 #[.val (.int p1), .val (.int p2), .val (.int p3), .val (.int p4), .val (.int p5), .val (.ref b1), .val (.int (0 : Int32)), .val (.ref b37_1)] [(.ref b37_1)])) _
    refine XS.bipush X59.here hx rfl (hb hby at_163) ?_
    show Steps p.tables e below (T59.setTop (mkF m 165 #[.val (.int p1), .val (.int p2), .val (.int p3), .val (.int p4), .val (.int p5), .val (.ref b1), .val (.int (0 : Int32)), .val (.ref b37_1)] [(.int (6 : Int32)), (.ref b37_1)])) _
    refine XS.iloadN X59.here hx rfl (hb hby at_165) rfl ?_
    show Steps p.tables e below (T59.setTop (mkF m 166 #[.val (.int p1), .val (.int p2), .val (.int p3), .val (.int p4), .val (.int p5), .val (.ref b1), .val (.int (0 : Int32)), .val (.ref b37_1)] [(.int p2), (.int (6 : Int32)), (.ref b37_1)])) _
    refine XS.iloadN X59.here hx rfl (hb hby at_166) rfl ?_
    show Steps p.tables e below (T59.setTop (mkF m 167 #[.val (.int p1), .val (.int p2), .val (.int p3), .val (.int p4), .val (.int p5), .val (.ref b1), .val (.int (0 : Int32)), .val (.ref b37_1)] [(.int p3), (.int p2), (.int (6 : Int32)), (.ref b37_1)])) _
    refine XS.iload X59.here hx rfl (hb hby at_167) rfl ?_
    show Steps p.tables e below (T59.setTop (mkF m 169 #[.val (.int p1), .val (.int p2), .val (.int p3), .val (.int p4), .val (.int p5), .val (.ref b1), .val (.int (0 : Int32)), .val (.ref b37_1)] [(.int (0 : Int32)), (.int p3), (.int p2), (.int (6 : Int32)), (.ref b37_1)])) _
    refine XS.iload X59.here hx rfl (hb hby at_169) rfl ?_
    show Steps p.tables e below (T59.setTop (mkF m 171 #[.val (.int p1), .val (.int p2), .val (.int p3), .val (.int p4), .val (.int p5), .val (.ref b1), .val (.int (0 : Int32)), .val (.ref b37_1)] [(.int p5), (.int (0 : Int32)), (.int p3), (.int p2), (.int (6 : Int32)), (.ref b37_1)])) _
    refine st61 _ ?_
    show Steps p.tables e below (T61.setTop (mkF m 174 #[.val (.int p1), .val (.int p2), .val (.int p3), .val (.int p4), .val (.int p5), .val (.ref b1), .val (.int (0 : Int32)), .val (.ref b37_1)] [(.int (1 : Int32))])) _
    refine XS.ifNo X61.here hx rfl (hb hby at_174) rfl ((if0 _ _).trans (feq (by decide : ¬ ((1 : Int32) = (0 : Int32)))).1) ?_
    show Steps p.tables e below (T61.setTop (mkF m 177 #[.val (.int p1), .val (.int p2), .val (.int p3), .val (.int p4), .val (.int p5), .val (.ref b1), .val (.int (0 : Int32)), .val (.ref b37_1)] [])) _
    refine XS.aload X61.here hx rfl (hb hby at_177) rfl rfl ?_
    show Steps p.tables e below (T61.setTop (mkF m 179 #[.val (.int p1), .val (.int p2), .val (.int p3), .val (.int p4), .val (.int p5), .val (.ref b1), .val (.int (0 : Int32)), .val (.ref b37_1)] [(.ref b37_1)])) _
    refine XS.bipush X61.here hx rfl (hb hby at_179) ?_
    show Steps p.tables e below (T61.setTop (mkF m 181 #[.val (.int p1), .val (.int p2), .val (.int p3), .val (.int p4), .val (.int p5), .val (.ref b1), .val (.int (0 : Int32)), .val (.ref b37_1)] [(.int (7 : Int32)), (.ref b37_1)])) _
    refine XS.iloadN X61.here hx rfl (hb hby at_181) rfl ?_
    show Steps p.tables e below (T61.setTop (mkF m 182 #[.val (.int p1), .val (.int p2), .val (.int p3), .val (.int p4), .val (.int p5), .val (.ref b1), .val (.int (0 : Int32)), .val (.ref b37_1)] [(.int p2), (.int (7 : Int32)), (.ref b37_1)])) _
    refine XS.iloadN X61.here hx rfl (hb hby at_182) rfl ?_
    show Steps p.tables e below (T61.setTop (mkF m 183 #[.val (.int p1), .val (.int p2), .val (.int p3), .val (.int p4), .val (.int p5), .val (.ref b1), .val (.int (0 : Int32)), .val (.ref b37_1)] [(.int p3), (.int p2), (.int (7 : Int32)), (.ref b37_1)])) _
    refine XS.iload X61.here hx rfl (hb hby at_183) rfl ?_
    show Steps p.tables e below (T61.setTop (mkF m 185 #[.val (.int p1), .val (.int p2), .val (.int p3), .val (.int p4), .val (.int p5), .val (.ref b1), .val (.int (0 : Int32)), .val (.ref b37_1)] [(.int (0 : Int32)), (.int p3), (.int p2), (.int (7 : Int32)), (.ref b37_1)])) _
    refine XS.iload X61.here hx rfl (hb hby at_185) rfl ?_
    show Steps p.tables e below (T61.setTop (mkF m 187 #[.val (.int p1), .val (.int p2), .val (.int p3), .val (.int p4), .val (.int p5), .val (.ref b1), .val (.int (0 : Int32)), .val (.ref b37_1)] [(.int p5), (.int (0 : Int32)), (.int p3), (.int p2), (.int (7 : Int32)), (.ref b37_1)])) _
    refine st63 _ ?_
    show Steps p.tables e below (T63.setTop (mkF m 190 #[.val (.int p1), .val (.int p2), .val (.int p3), .val (.int p4), .val (.int p5), .val (.ref b1), .val (.int (0 : Int32)), .val (.ref b37_1)] [(.int (1 : Int32))])) _
    refine XS.ifNo X63.here hx rfl (hb hby at_190) rfl ((if0 _ _).trans (feq (by decide : ¬ ((1 : Int32) = (0 : Int32)))).1) ?_
    show Steps p.tables e below (T63.setTop (mkF m 193 #[.val (.int p1), .val (.int p2), .val (.int p3), .val (.int p4), .val (.int p5), .val (.ref b1), .val (.int (0 : Int32)), .val (.ref b37_1)] [])) _
    refine XS.iconst X63.here hx rfl (hb hby at_193) ?_
    show Steps p.tables e below (T63.setTop (mkF m 194 #[.val (.int p1), .val (.int p2), .val (.int p3), .val (.int p4), .val (.int p5), .val (.ref b1), .val (.int (0 : Int32)), .val (.ref b37_1)] [(.int (1 : Int32))])) _
    refine XS.goto X63.here hx rfl (pc0 := 194) (pc' := 198) rfl (hb hby at_194) (by decide) (by decide) ?_
    show Steps p.tables e below (T63.setTop (mkF m 198 #[.val (.int p1), .val (.int p2), .val (.int p3), .val (.int p4), .val (.int p5), .val (.ref b1), .val (.int (0 : Int32)), .val (.ref b37_1)] [(.int (1 : Int32))])) _
    exact retN X63 hx (t := .boolean) Bd.returns (by simp) (hb hby at_198) hr
  · show Q_law Z p1 p2 p3 p4 p5 h0 n0 _ T63.heap _
    rw [e63]
    exact ⟨rfl, N64⟩
def Road_at1 (p1 : Int32) (p2 : Int32) (p3 : Int32) (p4 : Int32) (p5 : Int32) : Prop := (¬ ((p1 &&& (15 : Int32)) < (0 : Int32))) ∧ ((p1 &&& (15 : Int32)).toNatClampNeg ≤ 15) ∧ (own_B (0 : Int32) (p1 &&& (15 : Int32)) (List.replicate 16 (Value.int (0 : Int32)))) ∧ (((p4 &&& (2147483647 : Int32)) % (5 : Int32)) = (1 : Int32)) ∧ (((own_at (((((((((((((List.replicate 16 (Value.int (0 : Int32))).set (0 : Int32).toNatClampNeg (.int ((((p2.toUInt32 >>> ((24 : Int32) &&& 31).toUInt32).toInt32).toInt8.toInt32).toInt8.toInt32))).set (1 : Int32).toNatClampNeg (.int ((((p2.toUInt32 >>> ((16 : Int32) &&& 31).toUInt32).toInt32).toInt8.toInt32).toInt8.toInt32))).set (2 : Int32).toNatClampNeg (.int ((((p2.toUInt32 >>> ((8 : Int32) &&& 31).toUInt32).toInt32).toInt8.toInt32).toInt8.toInt32))).set (3 : Int32).toNatClampNeg (.int ((p2.toInt8.toInt32).toInt8.toInt32))).set (4 : Int32).toNatClampNeg (.int ((((p3.toUInt32 >>> ((24 : Int32) &&& 31).toUInt32).toInt32).toInt8.toInt32).toInt8.toInt32))).set (5 : Int32).toNatClampNeg (.int ((((p3.toUInt32 >>> ((16 : Int32) &&& 31).toUInt32).toInt32).toInt8.toInt32).toInt8.toInt32))).set (6 : Int32).toNatClampNeg (.int ((((p3.toUInt32 >>> ((8 : Int32) &&& 31).toUInt32).toInt32).toInt8.toInt32).toInt8.toInt32))).set (7 : Int32).toNatClampNeg (.int ((p3.toInt8.toInt32).toInt8.toInt32))).set (1 : Int32).toNatClampNeg (.int ((((p5.toUInt32 >>> ((24 : Int32) &&& 31).toUInt32).toInt32).toInt8.toInt32).toInt8.toInt32))).set (2 : Int32).toNatClampNeg (.int ((((p5.toUInt32 >>> ((16 : Int32) &&& 31).toUInt32).toInt32).toInt8.toInt32).toInt8.toInt32))).set (3 : Int32).toNatClampNeg (.int ((((p5.toUInt32 >>> ((8 : Int32) &&& 31).toUInt32).toInt32).toInt8.toInt32).toInt8.toInt32))).set (4 : Int32).toNatClampNeg (.int ((p5.toInt8.toInt32).toInt8.toInt32))) ((0 : Int32)).toNatClampNeg (.int (0 : Int32))) &&& (255 : Int32)) = (f_orig (0 : Int32) p2 p3)) ∧ (((own_at (((((((((((((List.replicate 16 (Value.int (0 : Int32))).set (0 : Int32).toNatClampNeg (.int ((((p2.toUInt32 >>> ((24 : Int32) &&& 31).toUInt32).toInt32).toInt8.toInt32).toInt8.toInt32))).set (1 : Int32).toNatClampNeg (.int ((((p2.toUInt32 >>> ((16 : Int32) &&& 31).toUInt32).toInt32).toInt8.toInt32).toInt8.toInt32))).set (2 : Int32).toNatClampNeg (.int ((((p2.toUInt32 >>> ((8 : Int32) &&& 31).toUInt32).toInt32).toInt8.toInt32).toInt8.toInt32))).set (3 : Int32).toNatClampNeg (.int ((p2.toInt8.toInt32).toInt8.toInt32))).set (4 : Int32).toNatClampNeg (.int ((((p3.toUInt32 >>> ((24 : Int32) &&& 31).toUInt32).toInt32).toInt8.toInt32).toInt8.toInt32))).set (5 : Int32).toNatClampNeg (.int ((((p3.toUInt32 >>> ((16 : Int32) &&& 31).toUInt32).toInt32).toInt8.toInt32).toInt8.toInt32))).set (6 : Int32).toNatClampNeg (.int ((((p3.toUInt32 >>> ((8 : Int32) &&& 31).toUInt32).toInt32).toInt8.toInt32).toInt8.toInt32))).set (7 : Int32).toNatClampNeg (.int ((p3.toInt8.toInt32).toInt8.toInt32))).set (1 : Int32).toNatClampNeg (.int ((((p5.toUInt32 >>> ((24 : Int32) &&& 31).toUInt32).toInt32).toInt8.toInt32).toInt8.toInt32))).set (2 : Int32).toNatClampNeg (.int ((((p5.toUInt32 >>> ((16 : Int32) &&& 31).toUInt32).toInt32).toInt8.toInt32).toInt8.toInt32))).set (3 : Int32).toNatClampNeg (.int ((((p5.toUInt32 >>> ((8 : Int32) &&& 31).toUInt32).toInt32).toInt8.toInt32).toInt8.toInt32))).set (4 : Int32).toNatClampNeg (.int ((p5.toInt8.toInt32).toInt8.toInt32))) ((1 : Int32)).toNatClampNeg (.int (0 : Int32))) &&& (255 : Int32)) = ((p5 >>> ((24 : Int32) &&& 31)) &&& (255 : Int32))) ∧ (((own_at (((((((((((((List.replicate 16 (Value.int (0 : Int32))).set (0 : Int32).toNatClampNeg (.int ((((p2.toUInt32 >>> ((24 : Int32) &&& 31).toUInt32).toInt32).toInt8.toInt32).toInt8.toInt32))).set (1 : Int32).toNatClampNeg (.int ((((p2.toUInt32 >>> ((16 : Int32) &&& 31).toUInt32).toInt32).toInt8.toInt32).toInt8.toInt32))).set (2 : Int32).toNatClampNeg (.int ((((p2.toUInt32 >>> ((8 : Int32) &&& 31).toUInt32).toInt32).toInt8.toInt32).toInt8.toInt32))).set (3 : Int32).toNatClampNeg (.int ((p2.toInt8.toInt32).toInt8.toInt32))).set (4 : Int32).toNatClampNeg (.int ((((p3.toUInt32 >>> ((24 : Int32) &&& 31).toUInt32).toInt32).toInt8.toInt32).toInt8.toInt32))).set (5 : Int32).toNatClampNeg (.int ((((p3.toUInt32 >>> ((16 : Int32) &&& 31).toUInt32).toInt32).toInt8.toInt32).toInt8.toInt32))).set (6 : Int32).toNatClampNeg (.int ((((p3.toUInt32 >>> ((8 : Int32) &&& 31).toUInt32).toInt32).toInt8.toInt32).toInt8.toInt32))).set (7 : Int32).toNatClampNeg (.int ((p3.toInt8.toInt32).toInt8.toInt32))).set (1 : Int32).toNatClampNeg (.int ((((p5.toUInt32 >>> ((24 : Int32) &&& 31).toUInt32).toInt32).toInt8.toInt32).toInt8.toInt32))).set (2 : Int32).toNatClampNeg (.int ((((p5.toUInt32 >>> ((16 : Int32) &&& 31).toUInt32).toInt32).toInt8.toInt32).toInt8.toInt32))).set (3 : Int32).toNatClampNeg (.int ((((p5.toUInt32 >>> ((8 : Int32) &&& 31).toUInt32).toInt32).toInt8.toInt32).toInt8.toInt32))).set (4 : Int32).toNatClampNeg (.int ((p5.toInt8.toInt32).toInt8.toInt32))) ((2 : Int32)).toNatClampNeg (.int (0 : Int32))) &&& (255 : Int32)) = ((p5 >>> ((16 : Int32) &&& 31)) &&& (255 : Int32))) ∧ (((own_at (((((((((((((List.replicate 16 (Value.int (0 : Int32))).set (0 : Int32).toNatClampNeg (.int ((((p2.toUInt32 >>> ((24 : Int32) &&& 31).toUInt32).toInt32).toInt8.toInt32).toInt8.toInt32))).set (1 : Int32).toNatClampNeg (.int ((((p2.toUInt32 >>> ((16 : Int32) &&& 31).toUInt32).toInt32).toInt8.toInt32).toInt8.toInt32))).set (2 : Int32).toNatClampNeg (.int ((((p2.toUInt32 >>> ((8 : Int32) &&& 31).toUInt32).toInt32).toInt8.toInt32).toInt8.toInt32))).set (3 : Int32).toNatClampNeg (.int ((p2.toInt8.toInt32).toInt8.toInt32))).set (4 : Int32).toNatClampNeg (.int ((((p3.toUInt32 >>> ((24 : Int32) &&& 31).toUInt32).toInt32).toInt8.toInt32).toInt8.toInt32))).set (5 : Int32).toNatClampNeg (.int ((((p3.toUInt32 >>> ((16 : Int32) &&& 31).toUInt32).toInt32).toInt8.toInt32).toInt8.toInt32))).set (6 : Int32).toNatClampNeg (.int ((((p3.toUInt32 >>> ((8 : Int32) &&& 31).toUInt32).toInt32).toInt8.toInt32).toInt8.toInt32))).set (7 : Int32).toNatClampNeg (.int ((p3.toInt8.toInt32).toInt8.toInt32))).set (1 : Int32).toNatClampNeg (.int ((((p5.toUInt32 >>> ((24 : Int32) &&& 31).toUInt32).toInt32).toInt8.toInt32).toInt8.toInt32))).set (2 : Int32).toNatClampNeg (.int ((((p5.toUInt32 >>> ((16 : Int32) &&& 31).toUInt32).toInt32).toInt8.toInt32).toInt8.toInt32))).set (3 : Int32).toNatClampNeg (.int ((((p5.toUInt32 >>> ((8 : Int32) &&& 31).toUInt32).toInt32).toInt8.toInt32).toInt8.toInt32))).set (4 : Int32).toNatClampNeg (.int ((p5.toInt8.toInt32).toInt8.toInt32))) ((3 : Int32)).toNatClampNeg (.int (0 : Int32))) &&& (255 : Int32)) = ((p5 >>> ((8 : Int32) &&& 31)) &&& (255 : Int32))) ∧ (((own_at (((((((((((((List.replicate 16 (Value.int (0 : Int32))).set (0 : Int32).toNatClampNeg (.int ((((p2.toUInt32 >>> ((24 : Int32) &&& 31).toUInt32).toInt32).toInt8.toInt32).toInt8.toInt32))).set (1 : Int32).toNatClampNeg (.int ((((p2.toUInt32 >>> ((16 : Int32) &&& 31).toUInt32).toInt32).toInt8.toInt32).toInt8.toInt32))).set (2 : Int32).toNatClampNeg (.int ((((p2.toUInt32 >>> ((8 : Int32) &&& 31).toUInt32).toInt32).toInt8.toInt32).toInt8.toInt32))).set (3 : Int32).toNatClampNeg (.int ((p2.toInt8.toInt32).toInt8.toInt32))).set (4 : Int32).toNatClampNeg (.int ((((p3.toUInt32 >>> ((24 : Int32) &&& 31).toUInt32).toInt32).toInt8.toInt32).toInt8.toInt32))).set (5 : Int32).toNatClampNeg (.int ((((p3.toUInt32 >>> ((16 : Int32) &&& 31).toUInt32).toInt32).toInt8.toInt32).toInt8.toInt32))).set (6 : Int32).toNatClampNeg (.int ((((p3.toUInt32 >>> ((8 : Int32) &&& 31).toUInt32).toInt32).toInt8.toInt32).toInt8.toInt32))).set (7 : Int32).toNatClampNeg (.int ((p3.toInt8.toInt32).toInt8.toInt32))).set (1 : Int32).toNatClampNeg (.int ((((p5.toUInt32 >>> ((24 : Int32) &&& 31).toUInt32).toInt32).toInt8.toInt32).toInt8.toInt32))).set (2 : Int32).toNatClampNeg (.int ((((p5.toUInt32 >>> ((16 : Int32) &&& 31).toUInt32).toInt32).toInt8.toInt32).toInt8.toInt32))).set (3 : Int32).toNatClampNeg (.int ((((p5.toUInt32 >>> ((8 : Int32) &&& 31).toUInt32).toInt32).toInt8.toInt32).toInt8.toInt32))).set (4 : Int32).toNatClampNeg (.int ((p5.toInt8.toInt32).toInt8.toInt32))) ((4 : Int32)).toNatClampNeg (.int (0 : Int32))) &&& (255 : Int32)) = ((p5 >>> ((0 : Int32) &&& 31)) &&& (255 : Int32))) ∧ (((own_at (((((((((((((List.replicate 16 (Value.int (0 : Int32))).set (0 : Int32).toNatClampNeg (.int ((((p2.toUInt32 >>> ((24 : Int32) &&& 31).toUInt32).toInt32).toInt8.toInt32).toInt8.toInt32))).set (1 : Int32).toNatClampNeg (.int ((((p2.toUInt32 >>> ((16 : Int32) &&& 31).toUInt32).toInt32).toInt8.toInt32).toInt8.toInt32))).set (2 : Int32).toNatClampNeg (.int ((((p2.toUInt32 >>> ((8 : Int32) &&& 31).toUInt32).toInt32).toInt8.toInt32).toInt8.toInt32))).set (3 : Int32).toNatClampNeg (.int ((p2.toInt8.toInt32).toInt8.toInt32))).set (4 : Int32).toNatClampNeg (.int ((((p3.toUInt32 >>> ((24 : Int32) &&& 31).toUInt32).toInt32).toInt8.toInt32).toInt8.toInt32))).set (5 : Int32).toNatClampNeg (.int ((((p3.toUInt32 >>> ((16 : Int32) &&& 31).toUInt32).toInt32).toInt8.toInt32).toInt8.toInt32))).set (6 : Int32).toNatClampNeg (.int ((((p3.toUInt32 >>> ((8 : Int32) &&& 31).toUInt32).toInt32).toInt8.toInt32).toInt8.toInt32))).set (7 : Int32).toNatClampNeg (.int ((p3.toInt8.toInt32).toInt8.toInt32))).set (1 : Int32).toNatClampNeg (.int ((((p5.toUInt32 >>> ((24 : Int32) &&& 31).toUInt32).toInt32).toInt8.toInt32).toInt8.toInt32))).set (2 : Int32).toNatClampNeg (.int ((((p5.toUInt32 >>> ((16 : Int32) &&& 31).toUInt32).toInt32).toInt8.toInt32).toInt8.toInt32))).set (3 : Int32).toNatClampNeg (.int ((((p5.toUInt32 >>> ((8 : Int32) &&& 31).toUInt32).toInt32).toInt8.toInt32).toInt8.toInt32))).set (4 : Int32).toNatClampNeg (.int ((p5.toInt8.toInt32).toInt8.toInt32))) ((5 : Int32)).toNatClampNeg (.int (0 : Int32))) &&& (255 : Int32)) = (f_orig (5 : Int32) p2 p3)) ∧ (((own_at (((((((((((((List.replicate 16 (Value.int (0 : Int32))).set (0 : Int32).toNatClampNeg (.int ((((p2.toUInt32 >>> ((24 : Int32) &&& 31).toUInt32).toInt32).toInt8.toInt32).toInt8.toInt32))).set (1 : Int32).toNatClampNeg (.int ((((p2.toUInt32 >>> ((16 : Int32) &&& 31).toUInt32).toInt32).toInt8.toInt32).toInt8.toInt32))).set (2 : Int32).toNatClampNeg (.int ((((p2.toUInt32 >>> ((8 : Int32) &&& 31).toUInt32).toInt32).toInt8.toInt32).toInt8.toInt32))).set (3 : Int32).toNatClampNeg (.int ((p2.toInt8.toInt32).toInt8.toInt32))).set (4 : Int32).toNatClampNeg (.int ((((p3.toUInt32 >>> ((24 : Int32) &&& 31).toUInt32).toInt32).toInt8.toInt32).toInt8.toInt32))).set (5 : Int32).toNatClampNeg (.int ((((p3.toUInt32 >>> ((16 : Int32) &&& 31).toUInt32).toInt32).toInt8.toInt32).toInt8.toInt32))).set (6 : Int32).toNatClampNeg (.int ((((p3.toUInt32 >>> ((8 : Int32) &&& 31).toUInt32).toInt32).toInt8.toInt32).toInt8.toInt32))).set (7 : Int32).toNatClampNeg (.int ((p3.toInt8.toInt32).toInt8.toInt32))).set (1 : Int32).toNatClampNeg (.int ((((p5.toUInt32 >>> ((24 : Int32) &&& 31).toUInt32).toInt32).toInt8.toInt32).toInt8.toInt32))).set (2 : Int32).toNatClampNeg (.int ((((p5.toUInt32 >>> ((16 : Int32) &&& 31).toUInt32).toInt32).toInt8.toInt32).toInt8.toInt32))).set (3 : Int32).toNatClampNeg (.int ((((p5.toUInt32 >>> ((8 : Int32) &&& 31).toUInt32).toInt32).toInt8.toInt32).toInt8.toInt32))).set (4 : Int32).toNatClampNeg (.int ((p5.toInt8.toInt32).toInt8.toInt32))) ((6 : Int32)).toNatClampNeg (.int (0 : Int32))) &&& (255 : Int32)) = (f_orig (6 : Int32) p2 p3)) ∧ (((own_at (((((((((((((List.replicate 16 (Value.int (0 : Int32))).set (0 : Int32).toNatClampNeg (.int ((((p2.toUInt32 >>> ((24 : Int32) &&& 31).toUInt32).toInt32).toInt8.toInt32).toInt8.toInt32))).set (1 : Int32).toNatClampNeg (.int ((((p2.toUInt32 >>> ((16 : Int32) &&& 31).toUInt32).toInt32).toInt8.toInt32).toInt8.toInt32))).set (2 : Int32).toNatClampNeg (.int ((((p2.toUInt32 >>> ((8 : Int32) &&& 31).toUInt32).toInt32).toInt8.toInt32).toInt8.toInt32))).set (3 : Int32).toNatClampNeg (.int ((p2.toInt8.toInt32).toInt8.toInt32))).set (4 : Int32).toNatClampNeg (.int ((((p3.toUInt32 >>> ((24 : Int32) &&& 31).toUInt32).toInt32).toInt8.toInt32).toInt8.toInt32))).set (5 : Int32).toNatClampNeg (.int ((((p3.toUInt32 >>> ((16 : Int32) &&& 31).toUInt32).toInt32).toInt8.toInt32).toInt8.toInt32))).set (6 : Int32).toNatClampNeg (.int ((((p3.toUInt32 >>> ((8 : Int32) &&& 31).toUInt32).toInt32).toInt8.toInt32).toInt8.toInt32))).set (7 : Int32).toNatClampNeg (.int ((p3.toInt8.toInt32).toInt8.toInt32))).set (1 : Int32).toNatClampNeg (.int ((((p5.toUInt32 >>> ((24 : Int32) &&& 31).toUInt32).toInt32).toInt8.toInt32).toInt8.toInt32))).set (2 : Int32).toNatClampNeg (.int ((((p5.toUInt32 >>> ((16 : Int32) &&& 31).toUInt32).toInt32).toInt8.toInt32).toInt8.toInt32))).set (3 : Int32).toNatClampNeg (.int ((((p5.toUInt32 >>> ((8 : Int32) &&& 31).toUInt32).toInt32).toInt8.toInt32).toInt8.toInt32))).set (4 : Int32).toNatClampNeg (.int ((p5.toInt8.toInt32).toInt8.toInt32))) ((7 : Int32)).toNatClampNeg (.int (0 : Int32))) &&& (255 : Int32)) = (f_orig (7 : Int32) p2 p3))
set_option maxRecDepth 65536 in
set_option maxHeartbeats 40000000 in
theorem rm_law_at1 (l : Launch) (Z : State) (a0 : Array Value) (hw : ∀ d ∈ tables_1, d.before a0 Z = true) (ws : List Jvm.Cond) (p1 : Int32) (p2 : Int32) (p3 : Int32) (p4 : Int32) (p5 : Int32) (h0 : Heap) (n0 : Nat) (Z0 : n0 ≤ h0.size) (hroad : Road_at1 p1 p2 p3 p4 p5) :
    MetFree l x (head1 (Jvm.Cond.code x code maxLocals ret :: ws) room_1) (fun a U => a = #[(.int p1), (.int p2), (.int p3), (.int p4), (.int p5)] ∧ Z.Warmed39 U.vm ∧ U.heap = h0) (fun _ _ _ _ _ => True) (fun _ U o U' => ∃ v L, o = .returned v ∧ Q_law Z p1 p2 p3 p4 p5 h0 n0 v U'.heap L ∧ FrameEnd U o U' L room_1.cells room_1.slots) := by
  obtain ⟨hp0, hp1, hp2, hw_5, hp7, hp8, hp9, hp10, hp11, hp12, hp13, hp14⟩ := hroad
  refine MetFree.of_bodySF (plainFor_of_name pn_com_example_herald_herald_bytecode_BytesPutU4PinLaw) hisR ?_
  intro p e s m args below meth c s₁ Bd hml0 hP hK
  obtain ⟨rfl, hZ, hh⟩ := hP
  have hx := Bd.exec
  have hby := Bd.bytes
  have hml : c.maxLocals = 8 := hml0
  have hown : s.vm.findClass "com/example/herald/herald/bytecode/BytesPutU4PinLaw" = some m.cls := findClass_of_methodNamed Bd.named
  have hnm := (name_of_methodNamed Bd.named Bd.method).1
  have X0 : Stand p l e room_1 s m #[(.int p1), (.int p2), (.int p3), (.int p4), (.int p5)] below meth c s₁ [] 0 0 := Stand.of_body Bd
  have e0 : s₁.heap = h0 := by rw [← hh, Bd.state]; rfl
  have N0 := Fr.nil n0
  have pre0 : ∀ t, Steps p.tables e below (s₁.setTop (mkF m 0 #[.val (.int p1), .val (.int p2), .val (.int p3), .val (.int p4), .val (.int p5), .unset, .unset, .unset] [])) t → Steps p.tables e below (s₁.setTop (entryFrame m #[(.int p1), (.int p2), (.int p3), (.int p4), (.int p5)] maxLocals)) t := fun t k => castTop (ef_0_IIIII m p1 p2 p3 p4 p5) k
  obtain ⟨T1, h1, X1, e1, E1, A1, D1, -, st1⟩ := newO X0 hx hZ hown (hw _ (List.mem_of_getElem? (i := 0) rfl)) (hw _ (List.mem_of_getElem? (i := 1) rfl)) (hw _ (List.mem_of_getElem? (i := 2) rfl)) e0 (g := (mkF m 0 #[.val (.int p1), .val (.int p2), .val (.int p3), .val (.int p4), .val (.int p5), .unset, .unset, .unset] [])) rfl (hb hby at_0) (by decide) (by decide)
  obtain ⟨b1, g1⟩ : ∃ z, z = h0.size := ⟨_, rfl⟩
  rw [← g1] at A1 D1 st1
  have g_b1 : n0 ≤ b1 := Nat.le_trans Z0 (Nat.le_of_eq g1.symm)
  have Zs2 : n0 ≤ h1.size := Nat.le_trans Z0 E1.1
  have f3 : Fld Z h1 b1 "com/example/herald/herald/bytecode/Bytes" "bytes" "[B" .null := D1 (Or.inl (hw _ (List.mem_of_getElem? (i := 11) rfl))) (ty := (.array .byte)) (by decide)
  have f4 : Fld Z h1 b1 "com/example/herald/herald/bytecode/Bytes" "length" "I" (.int (0 : Int32)) := D1 (Or.inl (hw _ (List.mem_of_getElem? (i := 22) rfl))) (ty := .int) (by decide)
  obtain ⟨_, _, ⟨T5, L5, k5, n5⟩, -, X5, ⟨Lc5, hQ5, l5, y5, z5⟩, st5⟩ := X1.specialBack hx (y := (⟨"com/example/herald/herald/bytecode/Bytes", "<init>", "(I)V"⟩ : MethodName)) rfl hown (mvT hZ (hw _ (List.mem_of_getElem? (i := 3) rfl))) (mvT hZ (hw _ (List.mem_of_getElem? (i := 4) rfl))) (mvT hZ (hw _ (List.mem_of_getElem? (i := 5) rfl))) (by decide) (backOf (W := 1) (rm_init l Z a0 hw [] b1 (p1 &&& (15 : Int32)) h1 n0 Zs2 A1 f3 g_b1 f4 hp0 hp1) hZ (hw _ (List.mem_of_getElem? (i := 5) rfl)) (hw _ (List.mem_of_getElem? (i := 2) rfl)) (by decide) (by decide)) (g := (mkF m 8 #[.val (.int p1), .val (.int p2), .val (.int p3), .val (.int p4), .val (.int p5), .unset, .unset, .unset] [(.int (p1 &&& (15 : Int32))), (.ref b1), (.ref b1)])) rfl (by rw [hml]; rfl) (Steps.refl _) (a := b1) (argsL := [(.int (p1 &&& (15 : Int32)))]) (rest := [(.ref b1)]) (lenOf pd_2 rfl) rfl (by show 2 * 0 + _ ≤ _; exact Nat.le_of_eq rfl) (hb hby at_8) (fun _ _ => ⟨rfl, e1, (by decide : 1 + 1 ≤ _), (by decide : 2 + 15 ≤ _)⟩)
  dsimp only [Pt.U, Pt.locs, Pt.cells, Pt.slots] at X5 l5 y5 z5 st5 hQ5
  subst l5 y5 z5
  obtain ⟨b5_1, k5_2, rfl, Nq5, g_b5_1, szq_b5_1, Kc5, fq5_0, fq5_1, fq5_2, fq5_3, fq5_4⟩ := hQ5
  have ne_b1_b5_1 : b1 ≠ b5_1 := Nat.ne_of_lt (Nat.lt_of_lt_of_le A1.lt szq_b5_1)
  have f7 : Fld Z T5.heap b1 "com/example/herald/herald/bytecode/Bytes" "bytes" "[B" (.ref b5_1) := fq5_1
  have f8 : Fld Z T5.heap b1 "com/example/herald/herald/bytecode/Bytes" "length" "I" (.int (0 : Int32)) := fq5_2
  have f9 : Arv Z T5.heap b5_1 k5_2 .byte (p1 &&& (15 : Int32)) (List.replicate 16 (Value.int (0 : Int32))) (.int (0 : Int32)) := fq5_4
  have Zs10 : n0 ≤ T5.heap.size := Nat.le_trans Zs2 Kc5.1
  have N6 := Fr.app N0 Nq5
  obtain ⟨cq11, kq11, q11a, q11b, q11c⟩ := isOf hZ rfl fq5_0
  obtain ⟨_, _, ⟨T11, L11, k11, n11⟩, -, X11, ⟨Lc11, hQ11, l11, y11, z11⟩, st11⟩ := X5.virtualBack hx (y := (⟨"com/example/herald/herald/bytecode/Bytes", "u4", "(I)V"⟩ : MethodName)) (z := (⟨"com/example/herald/herald/bytecode/Bytes", "u4", "(I)V"⟩ : MethodName)) hown (mvT hZ (hw _ (List.mem_of_getElem? (i := 12) rfl))) (mvT hZ (hw _ (List.mem_of_getElem? (i := 13) rfl))) (notFace_of_selects (args := #[]) (mvT hZ (hw _ (List.mem_of_getElem? (i := 15) rfl)))) (mvT hZ (hw _ (List.mem_of_getElem? (i := 15) rfl))) (mvT hZ (hw _ (List.mem_of_getElem? (i := 14) rfl))) (by decide) (backOf (W := 0) (rm_u4 l Z a0 hw [] b1 p2 b5_1 k5_2 (p1 &&& (15 : Int32)) (List.replicate 16 (Value.int (0 : Int32))) (0 : Int32) T5.heap n0 Zs10 f7 fq5_3 f9 f8 fq5_0 g_b1 g_b5_1 hp2 (by decide)) hZ (hw _ (List.mem_of_getElem? (i := 16) rfl)) (hw _ (List.mem_of_getElem? (i := 2) rfl)) (by decide) (by decide)) q11a q11c (g := (mkF m 16 #[.val (.int p1), .val (.int p2), .val (.int p3), .val (.int p4), .val (.int p5), .val (.ref b1), .unset, .unset] [(.int p2), (.ref b1)])) rfl (by rw [hml]; rfl) (Steps.refl _) (argsL := [(.int p2)]) (rest := []) (lenOf pd_2 rfl) rfl (by show 2 * 0 + _ ≤ _; exact Nat.le_of_eq rfl) (hb hby at_16) (fun _ _ => ⟨rfl, rfl, (by decide : 2 + 1 ≤ _), (by decide : 17 + 14 ≤ _)⟩)
  dsimp only [Pt.U, Pt.locs, Pt.cells, Pt.slots] at X11 l11 y11 z11 st11 hQ11
  subst l11 y11 z11
  obtain ⟨b11_1, k11_2, i11_3, rfl, Nq11, g_b11_1, hq11_0, Kc11, fq11_0, fq11_1, fq11_2, fq11_3, fq11_4⟩ := hQ11
  have f13 : Exa Z T11.heap b5_1 "[B" := fq5_3.keep Kc11
  have f14 : Fld Z T11.heap b1 "com/example/herald/herald/bytecode/Bytes" "bytes" "[B" (.ref b11_1) := fq11_1
  have f15 : Fld Z T11.heap b1 "com/example/herald/herald/bytecode/Bytes" "length" "I" (.int (4 : Int32)) := fq11_2
  have f16 : Arv Z T11.heap b11_1 k11_2 .byte i11_3 (((((List.replicate 16 (Value.int (0 : Int32))).set (0 : Int32).toNatClampNeg (.int ((((p2.toUInt32 >>> ((24 : Int32) &&& 31).toUInt32).toInt32).toInt8.toInt32).toInt8.toInt32))).set (1 : Int32).toNatClampNeg (.int ((((p2.toUInt32 >>> ((16 : Int32) &&& 31).toUInt32).toInt32).toInt8.toInt32).toInt8.toInt32))).set (2 : Int32).toNatClampNeg (.int ((((p2.toUInt32 >>> ((8 : Int32) &&& 31).toUInt32).toInt32).toInt8.toInt32).toInt8.toInt32))).set (3 : Int32).toNatClampNeg (.int ((p2.toInt8.toInt32).toInt8.toInt32))) (.int (0 : Int32)) := fq11_4
  have Zs17 : n0 ≤ T11.heap.size := Nat.le_trans Zs10 Kc11.1
  have N12 := Fr.app N6 Nq11
  obtain ⟨cq18, kq18, q18a, q18b, q18c⟩ := isOf hZ rfl fq11_0
  obtain ⟨_, _, ⟨T18, L18, k18, n18⟩, -, X18, ⟨Lc18, hQ18, l18, y18, z18⟩, st18⟩ := X11.virtualBack hx (y := (⟨"com/example/herald/herald/bytecode/Bytes", "u4", "(I)V"⟩ : MethodName)) (z := (⟨"com/example/herald/herald/bytecode/Bytes", "u4", "(I)V"⟩ : MethodName)) hown (mvT hZ (hw _ (List.mem_of_getElem? (i := 12) rfl))) (mvT hZ (hw _ (List.mem_of_getElem? (i := 13) rfl))) (notFace_of_selects (args := #[]) (mvT hZ (hw _ (List.mem_of_getElem? (i := 15) rfl)))) (mvT hZ (hw _ (List.mem_of_getElem? (i := 15) rfl))) (mvT hZ (hw _ (List.mem_of_getElem? (i := 14) rfl))) (by decide) (backOf (W := 0) (rm_u4 l Z a0 hw [] b1 p3 b11_1 k11_2 i11_3 (((((List.replicate 16 (Value.int (0 : Int32))).set (0 : Int32).toNatClampNeg (.int ((((p2.toUInt32 >>> ((24 : Int32) &&& 31).toUInt32).toInt32).toInt8.toInt32).toInt8.toInt32))).set (1 : Int32).toNatClampNeg (.int ((((p2.toUInt32 >>> ((16 : Int32) &&& 31).toUInt32).toInt32).toInt8.toInt32).toInt8.toInt32))).set (2 : Int32).toNatClampNeg (.int ((((p2.toUInt32 >>> ((8 : Int32) &&& 31).toUInt32).toInt32).toInt8.toInt32).toInt8.toInt32))).set (3 : Int32).toNatClampNeg (.int ((p2.toInt8.toInt32).toInt8.toInt32))) (4 : Int32) T11.heap n0 Zs17 f14 fq11_3 f16 f15 fq11_0 g_b1 g_b11_1 hq11_0 (by decide)) hZ (hw _ (List.mem_of_getElem? (i := 16) rfl)) (hw _ (List.mem_of_getElem? (i := 2) rfl)) (by decide) (by decide)) q18a q18c (g := (mkF m 22 #[.val (.int p1), .val (.int p2), .val (.int p3), .val (.int p4), .val (.int p5), .val (.ref b1), .unset, .unset] [(.int p3), (.ref b1)])) rfl (by rw [hml]; rfl) (Steps.refl _) (argsL := [(.int p3)]) (rest := []) (lenOf pd_2 rfl) rfl (by show 2 * 0 + _ ≤ _; exact Nat.le_of_eq rfl) (hb hby at_22) (fun _ _ => ⟨rfl, rfl, (by decide : 3 + 1 ≤ _), (by decide : 31 + 14 ≤ _)⟩)
  dsimp only [Pt.U, Pt.locs, Pt.cells, Pt.slots] at X18 l18 y18 z18 st18 hQ18
  subst l18 y18 z18
  obtain ⟨b18_1, k18_2, i18_3, rfl, Nq18, g_b18_1, hq18_0, Kc18, fq18_0, fq18_1, fq18_2, fq18_3, fq18_4⟩ := hQ18
  have ne_b1_b11_1 : b1 ≠ b11_1 := ne_exa fq11_0 fq11_3 (by decide)
  have f20 : Exa Z T18.heap b5_1 "[B" := f13.keep Kc18
  have f21 : Exa Z T18.heap b11_1 "[B" := fq11_3.keep Kc18
  have f22 : Fld Z T18.heap b1 "com/example/herald/herald/bytecode/Bytes" "bytes" "[B" (.ref b18_1) := fq18_1
  have f23 : Fld Z T18.heap b1 "com/example/herald/herald/bytecode/Bytes" "length" "I" (.int (8 : Int32)) := fq18_2
  have f24 : Arv Z T18.heap b18_1 k18_2 .byte i18_3 (((((((((List.replicate 16 (Value.int (0 : Int32))).set (0 : Int32).toNatClampNeg (.int ((((p2.toUInt32 >>> ((24 : Int32) &&& 31).toUInt32).toInt32).toInt8.toInt32).toInt8.toInt32))).set (1 : Int32).toNatClampNeg (.int ((((p2.toUInt32 >>> ((16 : Int32) &&& 31).toUInt32).toInt32).toInt8.toInt32).toInt8.toInt32))).set (2 : Int32).toNatClampNeg (.int ((((p2.toUInt32 >>> ((8 : Int32) &&& 31).toUInt32).toInt32).toInt8.toInt32).toInt8.toInt32))).set (3 : Int32).toNatClampNeg (.int ((p2.toInt8.toInt32).toInt8.toInt32))).set (4 : Int32).toNatClampNeg (.int ((((p3.toUInt32 >>> ((24 : Int32) &&& 31).toUInt32).toInt32).toInt8.toInt32).toInt8.toInt32))).set (5 : Int32).toNatClampNeg (.int ((((p3.toUInt32 >>> ((16 : Int32) &&& 31).toUInt32).toInt32).toInt8.toInt32).toInt8.toInt32))).set (6 : Int32).toNatClampNeg (.int ((((p3.toUInt32 >>> ((8 : Int32) &&& 31).toUInt32).toInt32).toInt8.toInt32).toInt8.toInt32))).set (7 : Int32).toNatClampNeg (.int ((p3.toInt8.toInt32).toInt8.toInt32))) (.int (0 : Int32)) := fq18_4
  have Zs25 : n0 ≤ T18.heap.size := Nat.le_trans Zs17 Kc18.1
  have N19 := Fr.app N12 Nq18
  obtain ⟨cq26, kq26, q26a, q26b, q26c⟩ := isOf hZ rfl fq18_0
  obtain ⟨_, _, ⟨T26, L26, k26, n26⟩, -, X26, ⟨Lc26, hQ26, l26, y26, z26⟩, st26⟩ := X18.virtualBack hx (y := (⟨"com/example/herald/herald/bytecode/Bytes", "putU4", "(II)V"⟩ : MethodName)) (z := (⟨"com/example/herald/herald/bytecode/Bytes", "putU4", "(II)V"⟩ : MethodName)) hown (mvT hZ (hw _ (List.mem_of_getElem? (i := 39) rfl))) (mvT hZ (hw _ (List.mem_of_getElem? (i := 40) rfl))) (notFace_of_selects (args := #[]) (mvT hZ (hw _ (List.mem_of_getElem? (i := 42) rfl)))) (mvT hZ (hw _ (List.mem_of_getElem? (i := 42) rfl))) (mvT hZ (hw _ (List.mem_of_getElem? (i := 41) rfl))) (by decide) (backOf (W := 0) (rm_put l Z a0 hw [] b1 (1 : Int32) p5 b18_1 k18_2 i18_3 (((((((((List.replicate 16 (Value.int (0 : Int32))).set (0 : Int32).toNatClampNeg (.int ((((p2.toUInt32 >>> ((24 : Int32) &&& 31).toUInt32).toInt32).toInt8.toInt32).toInt8.toInt32))).set (1 : Int32).toNatClampNeg (.int ((((p2.toUInt32 >>> ((16 : Int32) &&& 31).toUInt32).toInt32).toInt8.toInt32).toInt8.toInt32))).set (2 : Int32).toNatClampNeg (.int ((((p2.toUInt32 >>> ((8 : Int32) &&& 31).toUInt32).toInt32).toInt8.toInt32).toInt8.toInt32))).set (3 : Int32).toNatClampNeg (.int ((p2.toInt8.toInt32).toInt8.toInt32))).set (4 : Int32).toNatClampNeg (.int ((((p3.toUInt32 >>> ((24 : Int32) &&& 31).toUInt32).toInt32).toInt8.toInt32).toInt8.toInt32))).set (5 : Int32).toNatClampNeg (.int ((((p3.toUInt32 >>> ((16 : Int32) &&& 31).toUInt32).toInt32).toInt8.toInt32).toInt8.toInt32))).set (6 : Int32).toNatClampNeg (.int ((((p3.toUInt32 >>> ((8 : Int32) &&& 31).toUInt32).toInt32).toInt8.toInt32).toInt8.toInt32))).set (7 : Int32).toNatClampNeg (.int ((p3.toInt8.toInt32).toInt8.toInt32))) T18.heap n0 Zs25 f22 fq18_3 f24 fq18_0 g_b1 g_b18_1 hq18_0 (by decide) (by decide)) hZ (hw _ (List.mem_of_getElem? (i := 43) rfl)) (hw _ (List.mem_of_getElem? (i := 2) rfl)) (by decide) (by decide)) q26a q26c (g := (mkF m 39 #[.val (.int p1), .val (.int p2), .val (.int p3), .val (.int p4), .val (.int p5), .val (.ref b1), .val (.int (1 : Int32)), .unset] [(.int p5), (.int (1 : Int32)), (.ref b1)])) rfl (by rw [hml]; rfl) (Steps.refl _) (argsL := [(.int (1 : Int32)), (.int p5)]) (rest := []) (lenOf pd_4 rfl) rfl (by show 2 * 0 + _ ≤ _; exact Nat.le_of_eq rfl) (hb hby at_39) (fun _ _ => ⟨rfl, rfl, (by decide : 4 + 0 ≤ _), (by decide : 45 + 0 ≤ _)⟩)
  dsimp only [Pt.U, Pt.locs, Pt.cells, Pt.slots] at X26 l26 y26 z26 st26 hQ26
  subst l26 y26 z26
  obtain ⟨rfl, Nq26, hq26_0, Kc26, fq26_0, fq26_1⟩ := hQ26
  have ne_b1_b18_1 : b1 ≠ b18_1 := ne_exa fq18_0 fq18_3 (by decide)
  have f28 : Exa Z T26.heap b1 "com/example/herald/herald/bytecode/Bytes" := fq18_0.keep Kc26
  have f29 : Fld Z T26.heap b1 "com/example/herald/herald/bytecode/Bytes" "bytes" "[B" (.ref b18_1) := f22.keep Kc26 (ninS ne_b1_b18_1 nin0)
  have f30 : Fld Z T26.heap b1 "com/example/herald/herald/bytecode/Bytes" "length" "I" (.int (8 : Int32)) := f23.keep Kc26 (ninS ne_b1_b18_1 nin0)
  have f31 : Exa Z T26.heap b5_1 "[B" := f20.keep Kc26
  have f32 : Exa Z T26.heap b11_1 "[B" := f21.keep Kc26
  have f33 : Arv Z T26.heap b18_1 k18_2 .byte i18_3 (((((((((((((List.replicate 16 (Value.int (0 : Int32))).set (0 : Int32).toNatClampNeg (.int ((((p2.toUInt32 >>> ((24 : Int32) &&& 31).toUInt32).toInt32).toInt8.toInt32).toInt8.toInt32))).set (1 : Int32).toNatClampNeg (.int ((((p2.toUInt32 >>> ((16 : Int32) &&& 31).toUInt32).toInt32).toInt8.toInt32).toInt8.toInt32))).set (2 : Int32).toNatClampNeg (.int ((((p2.toUInt32 >>> ((8 : Int32) &&& 31).toUInt32).toInt32).toInt8.toInt32).toInt8.toInt32))).set (3 : Int32).toNatClampNeg (.int ((p2.toInt8.toInt32).toInt8.toInt32))).set (4 : Int32).toNatClampNeg (.int ((((p3.toUInt32 >>> ((24 : Int32) &&& 31).toUInt32).toInt32).toInt8.toInt32).toInt8.toInt32))).set (5 : Int32).toNatClampNeg (.int ((((p3.toUInt32 >>> ((16 : Int32) &&& 31).toUInt32).toInt32).toInt8.toInt32).toInt8.toInt32))).set (6 : Int32).toNatClampNeg (.int ((((p3.toUInt32 >>> ((8 : Int32) &&& 31).toUInt32).toInt32).toInt8.toInt32).toInt8.toInt32))).set (7 : Int32).toNatClampNeg (.int ((p3.toInt8.toInt32).toInt8.toInt32))).set (1 : Int32).toNatClampNeg (.int ((((p5.toUInt32 >>> ((24 : Int32) &&& 31).toUInt32).toInt32).toInt8.toInt32).toInt8.toInt32))).set (2 : Int32).toNatClampNeg (.int ((((p5.toUInt32 >>> ((16 : Int32) &&& 31).toUInt32).toInt32).toInt8.toInt32).toInt8.toInt32))).set (3 : Int32).toNatClampNeg (.int ((((p5.toUInt32 >>> ((8 : Int32) &&& 31).toUInt32).toInt32).toInt8.toInt32).toInt8.toInt32))).set (4 : Int32).toNatClampNeg (.int ((p5.toInt8.toInt32).toInt8.toInt32))) (.int (0 : Int32)) := fq26_1
  have Zs34 : n0 ≤ T26.heap.size := Nat.le_trans Zs25 Kc26.1
  have N27 := Fr.app N19 Nq26
  obtain ⟨cq35, kq35, q35a, q35b, q35c⟩ := isOf hZ rfl f28
  obtain ⟨_, _, ⟨T35, L35, k35, n35⟩, -, X35, ⟨Lc35, hQ35, l35, y35, z35⟩, st35⟩ := X26.virtualBack hx (y := (⟨"com/example/herald/herald/bytecode/Bytes", "length", "()I"⟩ : MethodName)) (z := (⟨"com/example/herald/herald/bytecode/Bytes", "length", "()I"⟩ : MethodName)) hown (mvT hZ (hw _ (List.mem_of_getElem? (i := 44) rfl))) (mvT hZ (hw _ (List.mem_of_getElem? (i := 45) rfl))) (notFace_of_selects (args := #[]) (mvT hZ (hw _ (List.mem_of_getElem? (i := 47) rfl)))) (mvT hZ (hw _ (List.mem_of_getElem? (i := 47) rfl))) (mvT hZ (hw _ (List.mem_of_getElem? (i := 46) rfl))) (by decide) (backOf (W := 0) (rm_length l Z a0 hw [] b1 (8 : Int32) T26.heap n0 Zs34 f30) hZ (hw _ (List.mem_of_getElem? (i := 48) rfl)) (hw _ (List.mem_of_getElem? (i := 2) rfl)) (by decide) (by decide)) q35a q35c (g := (mkF m 44 #[.val (.int p1), .val (.int p2), .val (.int p3), .val (.int p4), .val (.int p5), .val (.ref b1), .val (.int (1 : Int32)), .unset] [(.ref b1)])) rfl (by rw [hml]; rfl) (Steps.refl _) (argsL := []) (rest := []) (lenOf pd_5 rfl) rfl (by show 2 * 0 + _ ≤ _; exact Nat.le_of_eq rfl) (hb hby at_44) (fun _ _ => ⟨rfl, rfl, (by decide : 4 + 0 ≤ _), (by decide : 45 + 0 ≤ _)⟩)
  dsimp only [Pt.U, Pt.locs, Pt.cells, Pt.slots] at X35 l35 y35 z35 st35 hQ35
  subst l35 y35 z35
  obtain ⟨rfl, Nq35, e35⟩ := hQ35
  have N36 := Fr.app N27 Nq35
  obtain ⟨cq37, kq37, q37a, q37b, q37c⟩ := isOf hZ e35 f28
  obtain ⟨_, _, ⟨T37, L37, k37, n37⟩, -, X37, ⟨Lc37, hQ37, l37, y37, z37⟩, st37⟩ := X35.virtualBack hx (y := (⟨"com/example/herald/herald/bytecode/Bytes", "toArray", "()[B"⟩ : MethodName)) (z := (⟨"com/example/herald/herald/bytecode/Bytes", "toArray", "()[B"⟩ : MethodName)) hown (mvT hZ (hw _ (List.mem_of_getElem? (i := 49) rfl))) (mvT hZ (hw _ (List.mem_of_getElem? (i := 50) rfl))) (notFace_of_selects (args := #[]) (mvT hZ (hw _ (List.mem_of_getElem? (i := 52) rfl)))) (mvT hZ (hw _ (List.mem_of_getElem? (i := 52) rfl))) (mvT hZ (hw _ (List.mem_of_getElem? (i := 51) rfl))) (by decide) (backOf (W := 0) (rm_arr l Z a0 hw [] b1 b18_1 k18_2 i18_3 (((((((((((((List.replicate 16 (Value.int (0 : Int32))).set (0 : Int32).toNatClampNeg (.int ((((p2.toUInt32 >>> ((24 : Int32) &&& 31).toUInt32).toInt32).toInt8.toInt32).toInt8.toInt32))).set (1 : Int32).toNatClampNeg (.int ((((p2.toUInt32 >>> ((16 : Int32) &&& 31).toUInt32).toInt32).toInt8.toInt32).toInt8.toInt32))).set (2 : Int32).toNatClampNeg (.int ((((p2.toUInt32 >>> ((8 : Int32) &&& 31).toUInt32).toInt32).toInt8.toInt32).toInt8.toInt32))).set (3 : Int32).toNatClampNeg (.int ((p2.toInt8.toInt32).toInt8.toInt32))).set (4 : Int32).toNatClampNeg (.int ((((p3.toUInt32 >>> ((24 : Int32) &&& 31).toUInt32).toInt32).toInt8.toInt32).toInt8.toInt32))).set (5 : Int32).toNatClampNeg (.int ((((p3.toUInt32 >>> ((16 : Int32) &&& 31).toUInt32).toInt32).toInt8.toInt32).toInt8.toInt32))).set (6 : Int32).toNatClampNeg (.int ((((p3.toUInt32 >>> ((8 : Int32) &&& 31).toUInt32).toInt32).toInt8.toInt32).toInt8.toInt32))).set (7 : Int32).toNatClampNeg (.int ((p3.toInt8.toInt32).toInt8.toInt32))).set (1 : Int32).toNatClampNeg (.int ((((p5.toUInt32 >>> ((24 : Int32) &&& 31).toUInt32).toInt32).toInt8.toInt32).toInt8.toInt32))).set (2 : Int32).toNatClampNeg (.int ((((p5.toUInt32 >>> ((16 : Int32) &&& 31).toUInt32).toInt32).toInt8.toInt32).toInt8.toInt32))).set (3 : Int32).toNatClampNeg (.int ((((p5.toUInt32 >>> ((8 : Int32) &&& 31).toUInt32).toInt32).toInt8.toInt32).toInt8.toInt32))).set (4 : Int32).toNatClampNeg (.int ((p5.toInt8.toInt32).toInt8.toInt32))) (8 : Int32) T26.heap n0 Zs34 f29 fq26_0 f33 f30 f28 hq26_0 (by decide)) hZ (hw _ (List.mem_of_getElem? (i := 53) rfl)) (hw _ (List.mem_of_getElem? (i := 2) rfl)) (by decide) (by decide)) q37a q37c (g := (mkF m 56 #[.val (.int p1), .val (.int p2), .val (.int p3), .val (.int p4), .val (.int p5), .val (.ref b1), .val (.int (1 : Int32)), .unset] [(.ref b1)])) rfl (by rw [hml]; rfl) (Steps.refl _) (argsL := []) (rest := []) (lenOf pd_6 rfl) rfl (by show 2 * 0 + _ ≤ _; exact Nat.le_of_eq rfl) (hb hby at_56) (fun _ _ => ⟨rfl, e35, (by decide : 4 + 1 ≤ _), (by decide : 45 + 8 ≤ _)⟩)
  dsimp only [Pt.U, Pt.locs, Pt.cells, Pt.slots] at X37 l37 y37 z37 st37 hQ37
  subst l37 y37 z37
  obtain ⟨b37_1, k37_2, rfl, Nq37, g_b37_1, szq_b37_1, Kc37, fq37_0, fq37_1⟩ := hQ37
  have ne_b1_b37_1 : b1 ≠ b37_1 := Nat.ne_of_lt (Nat.lt_of_lt_of_le f28.lt szq_b37_1)
  have ne_b5_1_b37_1 : b5_1 ≠ b37_1 := Nat.ne_of_lt (Nat.lt_of_lt_of_le f31.lt szq_b37_1)
  have ne_b11_1_b37_1 : b11_1 ≠ b37_1 := Nat.ne_of_lt (Nat.lt_of_lt_of_le f32.lt szq_b37_1)
  have ne_b18_1_b37_1 : b18_1 ≠ b37_1 := Nat.ne_of_lt (Nat.lt_of_lt_of_le fq26_0.lt szq_b37_1)
  have f39 : Exa Z T37.heap b1 "com/example/herald/herald/bytecode/Bytes" := f28.keep Kc37
  have f40 : Fld Z T37.heap b1 "com/example/herald/herald/bytecode/Bytes" "bytes" "[B" (.ref b18_1) := f29.keep Kc37 nin0
  have f41 : Fld Z T37.heap b1 "com/example/herald/herald/bytecode/Bytes" "length" "I" (.int (8 : Int32)) := f30.keep Kc37 nin0
  have f42 : Exa Z T37.heap b5_1 "[B" := f31.keep Kc37
  have f43 : Exa Z T37.heap b11_1 "[B" := f32.keep Kc37
  have f44 : Exa Z T37.heap b18_1 "[B" := fq26_0.keep Kc37
  have f45 : Arv Z T37.heap b18_1 k18_2 .byte i18_3 (((((((((((((List.replicate 16 (Value.int (0 : Int32))).set (0 : Int32).toNatClampNeg (.int ((((p2.toUInt32 >>> ((24 : Int32) &&& 31).toUInt32).toInt32).toInt8.toInt32).toInt8.toInt32))).set (1 : Int32).toNatClampNeg (.int ((((p2.toUInt32 >>> ((16 : Int32) &&& 31).toUInt32).toInt32).toInt8.toInt32).toInt8.toInt32))).set (2 : Int32).toNatClampNeg (.int ((((p2.toUInt32 >>> ((8 : Int32) &&& 31).toUInt32).toInt32).toInt8.toInt32).toInt8.toInt32))).set (3 : Int32).toNatClampNeg (.int ((p2.toInt8.toInt32).toInt8.toInt32))).set (4 : Int32).toNatClampNeg (.int ((((p3.toUInt32 >>> ((24 : Int32) &&& 31).toUInt32).toInt32).toInt8.toInt32).toInt8.toInt32))).set (5 : Int32).toNatClampNeg (.int ((((p3.toUInt32 >>> ((16 : Int32) &&& 31).toUInt32).toInt32).toInt8.toInt32).toInt8.toInt32))).set (6 : Int32).toNatClampNeg (.int ((((p3.toUInt32 >>> ((8 : Int32) &&& 31).toUInt32).toInt32).toInt8.toInt32).toInt8.toInt32))).set (7 : Int32).toNatClampNeg (.int ((p3.toInt8.toInt32).toInt8.toInt32))).set (1 : Int32).toNatClampNeg (.int ((((p5.toUInt32 >>> ((24 : Int32) &&& 31).toUInt32).toInt32).toInt8.toInt32).toInt8.toInt32))).set (2 : Int32).toNatClampNeg (.int ((((p5.toUInt32 >>> ((16 : Int32) &&& 31).toUInt32).toInt32).toInt8.toInt32).toInt8.toInt32))).set (3 : Int32).toNatClampNeg (.int ((((p5.toUInt32 >>> ((8 : Int32) &&& 31).toUInt32).toInt32).toInt8.toInt32).toInt8.toInt32))).set (4 : Int32).toNatClampNeg (.int ((p5.toInt8.toInt32).toInt8.toInt32))) (.int (0 : Int32)) := f33.keep Kc37 nin0
  have f46 : Arv Z T37.heap b37_1 k37_2 .byte (8 : Int32) (((((((((((((List.replicate 16 (Value.int (0 : Int32))).set (0 : Int32).toNatClampNeg (.int ((((p2.toUInt32 >>> ((24 : Int32) &&& 31).toUInt32).toInt32).toInt8.toInt32).toInt8.toInt32))).set (1 : Int32).toNatClampNeg (.int ((((p2.toUInt32 >>> ((16 : Int32) &&& 31).toUInt32).toInt32).toInt8.toInt32).toInt8.toInt32))).set (2 : Int32).toNatClampNeg (.int ((((p2.toUInt32 >>> ((8 : Int32) &&& 31).toUInt32).toInt32).toInt8.toInt32).toInt8.toInt32))).set (3 : Int32).toNatClampNeg (.int ((p2.toInt8.toInt32).toInt8.toInt32))).set (4 : Int32).toNatClampNeg (.int ((((p3.toUInt32 >>> ((24 : Int32) &&& 31).toUInt32).toInt32).toInt8.toInt32).toInt8.toInt32))).set (5 : Int32).toNatClampNeg (.int ((((p3.toUInt32 >>> ((16 : Int32) &&& 31).toUInt32).toInt32).toInt8.toInt32).toInt8.toInt32))).set (6 : Int32).toNatClampNeg (.int ((((p3.toUInt32 >>> ((8 : Int32) &&& 31).toUInt32).toInt32).toInt8.toInt32).toInt8.toInt32))).set (7 : Int32).toNatClampNeg (.int ((p3.toInt8.toInt32).toInt8.toInt32))).set (1 : Int32).toNatClampNeg (.int ((((p5.toUInt32 >>> ((24 : Int32) &&& 31).toUInt32).toInt32).toInt8.toInt32).toInt8.toInt32))).set (2 : Int32).toNatClampNeg (.int ((((p5.toUInt32 >>> ((16 : Int32) &&& 31).toUInt32).toInt32).toInt8.toInt32).toInt8.toInt32))).set (3 : Int32).toNatClampNeg (.int ((((p5.toUInt32 >>> ((8 : Int32) &&& 31).toUInt32).toInt32).toInt8.toInt32).toInt8.toInt32))).set (4 : Int32).toNatClampNeg (.int ((p5.toInt8.toInt32).toInt8.toInt32))) (.int (0 : Int32)) := fq37_1
  have Zs47 : n0 ≤ T37.heap.size := Nat.le_trans Zs34 Kc37.1
  have N38 := Fr.app N36 Nq37
  obtain ⟨clo48, Aro48, -, So48, No48, -, -⟩ := id f46
  obtain ⟨_, _, ⟨T49, L49, k49, n49⟩, -, X49, ⟨Lc49, hQ49, l49, y49, z49⟩, st49⟩ := Jvm.LawKit.callS X37 hx (y := (⟨"com/example/herald/herald/bytecode/BytesPutU4PinLaw", "ok", "([BIIIII)Z"⟩ : MethodName)) hown (mvT hZ (hw _ (List.mem_of_getElem? (i := 63) rfl))) (mvT hZ (hw _ (List.mem_of_getElem? (i := 64) rfl))) (mvT hZ (hw _ (List.mem_of_getElem? (i := 65) rfl))) (mvT hZ (hw _ (List.mem_of_getElem? (i := 66) rfl))) (by decide) (backOf (W := 0) (rm_okA l Z a0 hw [] b37_1 (0 : Int32) p2 p3 (1 : Int32) p5 k37_2 (8 : Int32) (((((((((((((List.replicate 16 (Value.int (0 : Int32))).set (0 : Int32).toNatClampNeg (.int ((((p2.toUInt32 >>> ((24 : Int32) &&& 31).toUInt32).toInt32).toInt8.toInt32).toInt8.toInt32))).set (1 : Int32).toNatClampNeg (.int ((((p2.toUInt32 >>> ((16 : Int32) &&& 31).toUInt32).toInt32).toInt8.toInt32).toInt8.toInt32))).set (2 : Int32).toNatClampNeg (.int ((((p2.toUInt32 >>> ((8 : Int32) &&& 31).toUInt32).toInt32).toInt8.toInt32).toInt8.toInt32))).set (3 : Int32).toNatClampNeg (.int ((p2.toInt8.toInt32).toInt8.toInt32))).set (4 : Int32).toNatClampNeg (.int ((((p3.toUInt32 >>> ((24 : Int32) &&& 31).toUInt32).toInt32).toInt8.toInt32).toInt8.toInt32))).set (5 : Int32).toNatClampNeg (.int ((((p3.toUInt32 >>> ((16 : Int32) &&& 31).toUInt32).toInt32).toInt8.toInt32).toInt8.toInt32))).set (6 : Int32).toNatClampNeg (.int ((((p3.toUInt32 >>> ((8 : Int32) &&& 31).toUInt32).toInt32).toInt8.toInt32).toInt8.toInt32))).set (7 : Int32).toNatClampNeg (.int ((p3.toInt8.toInt32).toInt8.toInt32))).set (1 : Int32).toNatClampNeg (.int ((((p5.toUInt32 >>> ((24 : Int32) &&& 31).toUInt32).toInt32).toInt8.toInt32).toInt8.toInt32))).set (2 : Int32).toNatClampNeg (.int ((((p5.toUInt32 >>> ((16 : Int32) &&& 31).toUInt32).toInt32).toInt8.toInt32).toInt8.toInt32))).set (3 : Int32).toNatClampNeg (.int ((((p5.toUInt32 >>> ((8 : Int32) &&& 31).toUInt32).toInt32).toInt8.toInt32).toInt8.toInt32))).set (4 : Int32).toNatClampNeg (.int ((p5.toInt8.toInt32).toInt8.toInt32))) T37.heap n0 Zs47 f46 (by decide) (by decide) (by decide) hp7) hZ (hw _ (List.mem_of_getElem? (i := 66) rfl)) (hw _ (List.mem_of_getElem? (i := 65) rfl)) (by decide) (by decide)) (g := (mkF m 80 #[.val (.int p1), .val (.int p2), .val (.int p3), .val (.int p4), .val (.int p5), .val (.ref b1), .val (.int (1 : Int32)), .val (.ref b37_1)] [(.int p5), (.int (1 : Int32)), (.int p3), (.int p2), (.int (0 : Int32)), (.ref b37_1)])) rfl (by rw [hml]; rfl) (argsL := [(.ref b37_1), (.int (0 : Int32)), (.int p2), (.int p3), (.int (1 : Int32)), (.int p5)]) (rest := []) (lenOf pd_7 rfl) rfl (by show 2 * 0 + _ ≤ _; exact Nat.le_of_eq rfl) (hb hby at_80) (fun _ _ => ⟨rfl, rfl, (by decide : 5 + 0 ≤ _), (by decide : 53 + 0 ≤ _)⟩)
  dsimp only [Pt.U, Pt.locs, Pt.cells, Pt.slots] at X49 l49 y49 z49 st49 hQ49
  subst l49 y49 z49
  obtain ⟨rfl, Nq49, e49⟩ := hQ49
  have N50 := Fr.app N38 Nq49
  obtain ⟨_, _, ⟨T51, L51, k51, n51⟩, -, X51, ⟨Lc51, hQ51, l51, y51, z51⟩, st51⟩ := Jvm.LawKit.callS X49 hx (y := (⟨"com/example/herald/herald/bytecode/BytesPutU4PinLaw", "ok", "([BIIIII)Z"⟩ : MethodName)) hown (mvT hZ (hw _ (List.mem_of_getElem? (i := 63) rfl))) (mvT hZ (hw _ (List.mem_of_getElem? (i := 64) rfl))) (mvT hZ (hw _ (List.mem_of_getElem? (i := 65) rfl))) (mvT hZ (hw _ (List.mem_of_getElem? (i := 66) rfl))) (by decide) (backOf (W := 0) (rm_okV l Z a0 hw [] b37_1 (1 : Int32) p2 p3 (1 : Int32) p5 k37_2 (8 : Int32) (((((((((((((List.replicate 16 (Value.int (0 : Int32))).set (0 : Int32).toNatClampNeg (.int ((((p2.toUInt32 >>> ((24 : Int32) &&& 31).toUInt32).toInt32).toInt8.toInt32).toInt8.toInt32))).set (1 : Int32).toNatClampNeg (.int ((((p2.toUInt32 >>> ((16 : Int32) &&& 31).toUInt32).toInt32).toInt8.toInt32).toInt8.toInt32))).set (2 : Int32).toNatClampNeg (.int ((((p2.toUInt32 >>> ((8 : Int32) &&& 31).toUInt32).toInt32).toInt8.toInt32).toInt8.toInt32))).set (3 : Int32).toNatClampNeg (.int ((p2.toInt8.toInt32).toInt8.toInt32))).set (4 : Int32).toNatClampNeg (.int ((((p3.toUInt32 >>> ((24 : Int32) &&& 31).toUInt32).toInt32).toInt8.toInt32).toInt8.toInt32))).set (5 : Int32).toNatClampNeg (.int ((((p3.toUInt32 >>> ((16 : Int32) &&& 31).toUInt32).toInt32).toInt8.toInt32).toInt8.toInt32))).set (6 : Int32).toNatClampNeg (.int ((((p3.toUInt32 >>> ((8 : Int32) &&& 31).toUInt32).toInt32).toInt8.toInt32).toInt8.toInt32))).set (7 : Int32).toNatClampNeg (.int ((p3.toInt8.toInt32).toInt8.toInt32))).set (1 : Int32).toNatClampNeg (.int ((((p5.toUInt32 >>> ((24 : Int32) &&& 31).toUInt32).toInt32).toInt8.toInt32).toInt8.toInt32))).set (2 : Int32).toNatClampNeg (.int ((((p5.toUInt32 >>> ((16 : Int32) &&& 31).toUInt32).toInt32).toInt8.toInt32).toInt8.toInt32))).set (3 : Int32).toNatClampNeg (.int ((((p5.toUInt32 >>> ((8 : Int32) &&& 31).toUInt32).toInt32).toInt8.toInt32).toInt8.toInt32))).set (4 : Int32).toNatClampNeg (.int ((p5.toInt8.toInt32).toInt8.toInt32))) T37.heap n0 Zs47 f46 (by decide) (by decide) (by decide) (by decide) hp8) hZ (hw _ (List.mem_of_getElem? (i := 66) rfl)) (hw _ (List.mem_of_getElem? (i := 65) rfl)) (by decide) (by decide)) (g := (mkF m 95 #[.val (.int p1), .val (.int p2), .val (.int p3), .val (.int p4), .val (.int p5), .val (.ref b1), .val (.int (1 : Int32)), .val (.ref b37_1)] [(.int p5), (.int (1 : Int32)), (.int p3), (.int p2), (.int (1 : Int32)), (.ref b37_1)])) rfl (by rw [hml]; rfl) (argsL := [(.ref b37_1), (.int (1 : Int32)), (.int p2), (.int p3), (.int (1 : Int32)), (.int p5)]) (rest := []) (lenOf pd_7 rfl) rfl (by show 2 * 0 + _ ≤ _; exact Nat.le_of_eq rfl) (hb hby at_95) (fun _ _ => ⟨rfl, e49, (by decide : 5 + 0 ≤ _), (by decide : 53 + 0 ≤ _)⟩)
  dsimp only [Pt.U, Pt.locs, Pt.cells, Pt.slots] at X51 l51 y51 z51 st51 hQ51
  subst l51 y51 z51
  obtain ⟨rfl, Nq51, e51⟩ := hQ51
  have N52 := Fr.app N50 Nq51
  obtain ⟨_, _, ⟨T53, L53, k53, n53⟩, -, X53, ⟨Lc53, hQ53, l53, y53, z53⟩, st53⟩ := Jvm.LawKit.callS X51 hx (y := (⟨"com/example/herald/herald/bytecode/BytesPutU4PinLaw", "ok", "([BIIIII)Z"⟩ : MethodName)) hown (mvT hZ (hw _ (List.mem_of_getElem? (i := 63) rfl))) (mvT hZ (hw _ (List.mem_of_getElem? (i := 64) rfl))) (mvT hZ (hw _ (List.mem_of_getElem? (i := 65) rfl))) (mvT hZ (hw _ (List.mem_of_getElem? (i := 66) rfl))) (by decide) (backOf (W := 0) (rm_okV l Z a0 hw [] b37_1 (2 : Int32) p2 p3 (1 : Int32) p5 k37_2 (8 : Int32) (((((((((((((List.replicate 16 (Value.int (0 : Int32))).set (0 : Int32).toNatClampNeg (.int ((((p2.toUInt32 >>> ((24 : Int32) &&& 31).toUInt32).toInt32).toInt8.toInt32).toInt8.toInt32))).set (1 : Int32).toNatClampNeg (.int ((((p2.toUInt32 >>> ((16 : Int32) &&& 31).toUInt32).toInt32).toInt8.toInt32).toInt8.toInt32))).set (2 : Int32).toNatClampNeg (.int ((((p2.toUInt32 >>> ((8 : Int32) &&& 31).toUInt32).toInt32).toInt8.toInt32).toInt8.toInt32))).set (3 : Int32).toNatClampNeg (.int ((p2.toInt8.toInt32).toInt8.toInt32))).set (4 : Int32).toNatClampNeg (.int ((((p3.toUInt32 >>> ((24 : Int32) &&& 31).toUInt32).toInt32).toInt8.toInt32).toInt8.toInt32))).set (5 : Int32).toNatClampNeg (.int ((((p3.toUInt32 >>> ((16 : Int32) &&& 31).toUInt32).toInt32).toInt8.toInt32).toInt8.toInt32))).set (6 : Int32).toNatClampNeg (.int ((((p3.toUInt32 >>> ((8 : Int32) &&& 31).toUInt32).toInt32).toInt8.toInt32).toInt8.toInt32))).set (7 : Int32).toNatClampNeg (.int ((p3.toInt8.toInt32).toInt8.toInt32))).set (1 : Int32).toNatClampNeg (.int ((((p5.toUInt32 >>> ((24 : Int32) &&& 31).toUInt32).toInt32).toInt8.toInt32).toInt8.toInt32))).set (2 : Int32).toNatClampNeg (.int ((((p5.toUInt32 >>> ((16 : Int32) &&& 31).toUInt32).toInt32).toInt8.toInt32).toInt8.toInt32))).set (3 : Int32).toNatClampNeg (.int ((((p5.toUInt32 >>> ((8 : Int32) &&& 31).toUInt32).toInt32).toInt8.toInt32).toInt8.toInt32))).set (4 : Int32).toNatClampNeg (.int ((p5.toInt8.toInt32).toInt8.toInt32))) T37.heap n0 Zs47 f46 (by decide) (by decide) (by decide) (by decide) hp9) hZ (hw _ (List.mem_of_getElem? (i := 66) rfl)) (hw _ (List.mem_of_getElem? (i := 65) rfl)) (by decide) (by decide)) (g := (mkF m 110 #[.val (.int p1), .val (.int p2), .val (.int p3), .val (.int p4), .val (.int p5), .val (.ref b1), .val (.int (1 : Int32)), .val (.ref b37_1)] [(.int p5), (.int (1 : Int32)), (.int p3), (.int p2), (.int (2 : Int32)), (.ref b37_1)])) rfl (by rw [hml]; rfl) (argsL := [(.ref b37_1), (.int (2 : Int32)), (.int p2), (.int p3), (.int (1 : Int32)), (.int p5)]) (rest := []) (lenOf pd_7 rfl) rfl (by show 2 * 0 + _ ≤ _; exact Nat.le_of_eq rfl) (hb hby at_110) (fun _ _ => ⟨rfl, e51, (by decide : 5 + 0 ≤ _), (by decide : 53 + 0 ≤ _)⟩)
  dsimp only [Pt.U, Pt.locs, Pt.cells, Pt.slots] at X53 l53 y53 z53 st53 hQ53
  subst l53 y53 z53
  obtain ⟨rfl, Nq53, e53⟩ := hQ53
  have N54 := Fr.app N52 Nq53
  obtain ⟨_, _, ⟨T55, L55, k55, n55⟩, -, X55, ⟨Lc55, hQ55, l55, y55, z55⟩, st55⟩ := Jvm.LawKit.callS X53 hx (y := (⟨"com/example/herald/herald/bytecode/BytesPutU4PinLaw", "ok", "([BIIIII)Z"⟩ : MethodName)) hown (mvT hZ (hw _ (List.mem_of_getElem? (i := 63) rfl))) (mvT hZ (hw _ (List.mem_of_getElem? (i := 64) rfl))) (mvT hZ (hw _ (List.mem_of_getElem? (i := 65) rfl))) (mvT hZ (hw _ (List.mem_of_getElem? (i := 66) rfl))) (by decide) (backOf (W := 0) (rm_okV l Z a0 hw [] b37_1 (3 : Int32) p2 p3 (1 : Int32) p5 k37_2 (8 : Int32) (((((((((((((List.replicate 16 (Value.int (0 : Int32))).set (0 : Int32).toNatClampNeg (.int ((((p2.toUInt32 >>> ((24 : Int32) &&& 31).toUInt32).toInt32).toInt8.toInt32).toInt8.toInt32))).set (1 : Int32).toNatClampNeg (.int ((((p2.toUInt32 >>> ((16 : Int32) &&& 31).toUInt32).toInt32).toInt8.toInt32).toInt8.toInt32))).set (2 : Int32).toNatClampNeg (.int ((((p2.toUInt32 >>> ((8 : Int32) &&& 31).toUInt32).toInt32).toInt8.toInt32).toInt8.toInt32))).set (3 : Int32).toNatClampNeg (.int ((p2.toInt8.toInt32).toInt8.toInt32))).set (4 : Int32).toNatClampNeg (.int ((((p3.toUInt32 >>> ((24 : Int32) &&& 31).toUInt32).toInt32).toInt8.toInt32).toInt8.toInt32))).set (5 : Int32).toNatClampNeg (.int ((((p3.toUInt32 >>> ((16 : Int32) &&& 31).toUInt32).toInt32).toInt8.toInt32).toInt8.toInt32))).set (6 : Int32).toNatClampNeg (.int ((((p3.toUInt32 >>> ((8 : Int32) &&& 31).toUInt32).toInt32).toInt8.toInt32).toInt8.toInt32))).set (7 : Int32).toNatClampNeg (.int ((p3.toInt8.toInt32).toInt8.toInt32))).set (1 : Int32).toNatClampNeg (.int ((((p5.toUInt32 >>> ((24 : Int32) &&& 31).toUInt32).toInt32).toInt8.toInt32).toInt8.toInt32))).set (2 : Int32).toNatClampNeg (.int ((((p5.toUInt32 >>> ((16 : Int32) &&& 31).toUInt32).toInt32).toInt8.toInt32).toInt8.toInt32))).set (3 : Int32).toNatClampNeg (.int ((((p5.toUInt32 >>> ((8 : Int32) &&& 31).toUInt32).toInt32).toInt8.toInt32).toInt8.toInt32))).set (4 : Int32).toNatClampNeg (.int ((p5.toInt8.toInt32).toInt8.toInt32))) T37.heap n0 Zs47 f46 (by decide) (by decide) (by decide) (by decide) hp10) hZ (hw _ (List.mem_of_getElem? (i := 66) rfl)) (hw _ (List.mem_of_getElem? (i := 65) rfl)) (by decide) (by decide)) (g := (mkF m 125 #[.val (.int p1), .val (.int p2), .val (.int p3), .val (.int p4), .val (.int p5), .val (.ref b1), .val (.int (1 : Int32)), .val (.ref b37_1)] [(.int p5), (.int (1 : Int32)), (.int p3), (.int p2), (.int (3 : Int32)), (.ref b37_1)])) rfl (by rw [hml]; rfl) (argsL := [(.ref b37_1), (.int (3 : Int32)), (.int p2), (.int p3), (.int (1 : Int32)), (.int p5)]) (rest := []) (lenOf pd_7 rfl) rfl (by show 2 * 0 + _ ≤ _; exact Nat.le_of_eq rfl) (hb hby at_125) (fun _ _ => ⟨rfl, e53, (by decide : 5 + 0 ≤ _), (by decide : 53 + 0 ≤ _)⟩)
  dsimp only [Pt.U, Pt.locs, Pt.cells, Pt.slots] at X55 l55 y55 z55 st55 hQ55
  subst l55 y55 z55
  obtain ⟨rfl, Nq55, e55⟩ := hQ55
  have N56 := Fr.app N54 Nq55
  obtain ⟨_, _, ⟨T57, L57, k57, n57⟩, -, X57, ⟨Lc57, hQ57, l57, y57, z57⟩, st57⟩ := Jvm.LawKit.callS X55 hx (y := (⟨"com/example/herald/herald/bytecode/BytesPutU4PinLaw", "ok", "([BIIIII)Z"⟩ : MethodName)) hown (mvT hZ (hw _ (List.mem_of_getElem? (i := 63) rfl))) (mvT hZ (hw _ (List.mem_of_getElem? (i := 64) rfl))) (mvT hZ (hw _ (List.mem_of_getElem? (i := 65) rfl))) (mvT hZ (hw _ (List.mem_of_getElem? (i := 66) rfl))) (by decide) (backOf (W := 0) (rm_okV l Z a0 hw [] b37_1 (4 : Int32) p2 p3 (1 : Int32) p5 k37_2 (8 : Int32) (((((((((((((List.replicate 16 (Value.int (0 : Int32))).set (0 : Int32).toNatClampNeg (.int ((((p2.toUInt32 >>> ((24 : Int32) &&& 31).toUInt32).toInt32).toInt8.toInt32).toInt8.toInt32))).set (1 : Int32).toNatClampNeg (.int ((((p2.toUInt32 >>> ((16 : Int32) &&& 31).toUInt32).toInt32).toInt8.toInt32).toInt8.toInt32))).set (2 : Int32).toNatClampNeg (.int ((((p2.toUInt32 >>> ((8 : Int32) &&& 31).toUInt32).toInt32).toInt8.toInt32).toInt8.toInt32))).set (3 : Int32).toNatClampNeg (.int ((p2.toInt8.toInt32).toInt8.toInt32))).set (4 : Int32).toNatClampNeg (.int ((((p3.toUInt32 >>> ((24 : Int32) &&& 31).toUInt32).toInt32).toInt8.toInt32).toInt8.toInt32))).set (5 : Int32).toNatClampNeg (.int ((((p3.toUInt32 >>> ((16 : Int32) &&& 31).toUInt32).toInt32).toInt8.toInt32).toInt8.toInt32))).set (6 : Int32).toNatClampNeg (.int ((((p3.toUInt32 >>> ((8 : Int32) &&& 31).toUInt32).toInt32).toInt8.toInt32).toInt8.toInt32))).set (7 : Int32).toNatClampNeg (.int ((p3.toInt8.toInt32).toInt8.toInt32))).set (1 : Int32).toNatClampNeg (.int ((((p5.toUInt32 >>> ((24 : Int32) &&& 31).toUInt32).toInt32).toInt8.toInt32).toInt8.toInt32))).set (2 : Int32).toNatClampNeg (.int ((((p5.toUInt32 >>> ((16 : Int32) &&& 31).toUInt32).toInt32).toInt8.toInt32).toInt8.toInt32))).set (3 : Int32).toNatClampNeg (.int ((((p5.toUInt32 >>> ((8 : Int32) &&& 31).toUInt32).toInt32).toInt8.toInt32).toInt8.toInt32))).set (4 : Int32).toNatClampNeg (.int ((p5.toInt8.toInt32).toInt8.toInt32))) T37.heap n0 Zs47 f46 (by decide) (by decide) (by decide) (by decide) hp11) hZ (hw _ (List.mem_of_getElem? (i := 66) rfl)) (hw _ (List.mem_of_getElem? (i := 65) rfl)) (by decide) (by decide)) (g := (mkF m 140 #[.val (.int p1), .val (.int p2), .val (.int p3), .val (.int p4), .val (.int p5), .val (.ref b1), .val (.int (1 : Int32)), .val (.ref b37_1)] [(.int p5), (.int (1 : Int32)), (.int p3), (.int p2), (.int (4 : Int32)), (.ref b37_1)])) rfl (by rw [hml]; rfl) (argsL := [(.ref b37_1), (.int (4 : Int32)), (.int p2), (.int p3), (.int (1 : Int32)), (.int p5)]) (rest := []) (lenOf pd_7 rfl) rfl (by show 2 * 0 + _ ≤ _; exact Nat.le_of_eq rfl) (hb hby at_140) (fun _ _ => ⟨rfl, e55, (by decide : 5 + 0 ≤ _), (by decide : 53 + 0 ≤ _)⟩)
  dsimp only [Pt.U, Pt.locs, Pt.cells, Pt.slots] at X57 l57 y57 z57 st57 hQ57
  subst l57 y57 z57
  obtain ⟨rfl, Nq57, e57⟩ := hQ57
  have N58 := Fr.app N56 Nq57
  obtain ⟨_, _, ⟨T59, L59, k59, n59⟩, -, X59, ⟨Lc59, hQ59, l59, y59, z59⟩, st59⟩ := Jvm.LawKit.callS X57 hx (y := (⟨"com/example/herald/herald/bytecode/BytesPutU4PinLaw", "ok", "([BIIIII)Z"⟩ : MethodName)) hown (mvT hZ (hw _ (List.mem_of_getElem? (i := 63) rfl))) (mvT hZ (hw _ (List.mem_of_getElem? (i := 64) rfl))) (mvT hZ (hw _ (List.mem_of_getElem? (i := 65) rfl))) (mvT hZ (hw _ (List.mem_of_getElem? (i := 66) rfl))) (by decide) (backOf (W := 0) (rm_okB l Z a0 hw [] b37_1 (5 : Int32) p2 p3 (1 : Int32) p5 k37_2 (8 : Int32) (((((((((((((List.replicate 16 (Value.int (0 : Int32))).set (0 : Int32).toNatClampNeg (.int ((((p2.toUInt32 >>> ((24 : Int32) &&& 31).toUInt32).toInt32).toInt8.toInt32).toInt8.toInt32))).set (1 : Int32).toNatClampNeg (.int ((((p2.toUInt32 >>> ((16 : Int32) &&& 31).toUInt32).toInt32).toInt8.toInt32).toInt8.toInt32))).set (2 : Int32).toNatClampNeg (.int ((((p2.toUInt32 >>> ((8 : Int32) &&& 31).toUInt32).toInt32).toInt8.toInt32).toInt8.toInt32))).set (3 : Int32).toNatClampNeg (.int ((p2.toInt8.toInt32).toInt8.toInt32))).set (4 : Int32).toNatClampNeg (.int ((((p3.toUInt32 >>> ((24 : Int32) &&& 31).toUInt32).toInt32).toInt8.toInt32).toInt8.toInt32))).set (5 : Int32).toNatClampNeg (.int ((((p3.toUInt32 >>> ((16 : Int32) &&& 31).toUInt32).toInt32).toInt8.toInt32).toInt8.toInt32))).set (6 : Int32).toNatClampNeg (.int ((((p3.toUInt32 >>> ((8 : Int32) &&& 31).toUInt32).toInt32).toInt8.toInt32).toInt8.toInt32))).set (7 : Int32).toNatClampNeg (.int ((p3.toInt8.toInt32).toInt8.toInt32))).set (1 : Int32).toNatClampNeg (.int ((((p5.toUInt32 >>> ((24 : Int32) &&& 31).toUInt32).toInt32).toInt8.toInt32).toInt8.toInt32))).set (2 : Int32).toNatClampNeg (.int ((((p5.toUInt32 >>> ((16 : Int32) &&& 31).toUInt32).toInt32).toInt8.toInt32).toInt8.toInt32))).set (3 : Int32).toNatClampNeg (.int ((((p5.toUInt32 >>> ((8 : Int32) &&& 31).toUInt32).toInt32).toInt8.toInt32).toInt8.toInt32))).set (4 : Int32).toNatClampNeg (.int ((p5.toInt8.toInt32).toInt8.toInt32))) T37.heap n0 Zs47 f46 (by decide) (by decide) (by decide) (by decide) hp12) hZ (hw _ (List.mem_of_getElem? (i := 66) rfl)) (hw _ (List.mem_of_getElem? (i := 65) rfl)) (by decide) (by decide)) (g := (mkF m 155 #[.val (.int p1), .val (.int p2), .val (.int p3), .val (.int p4), .val (.int p5), .val (.ref b1), .val (.int (1 : Int32)), .val (.ref b37_1)] [(.int p5), (.int (1 : Int32)), (.int p3), (.int p2), (.int (5 : Int32)), (.ref b37_1)])) rfl (by rw [hml]; rfl) (argsL := [(.ref b37_1), (.int (5 : Int32)), (.int p2), (.int p3), (.int (1 : Int32)), (.int p5)]) (rest := []) (lenOf pd_7 rfl) rfl (by show 2 * 0 + _ ≤ _; exact Nat.le_of_eq rfl) (hb hby at_155) (fun _ _ => ⟨rfl, e57, (by decide : 5 + 0 ≤ _), (by decide : 53 + 0 ≤ _)⟩)
  dsimp only [Pt.U, Pt.locs, Pt.cells, Pt.slots] at X59 l59 y59 z59 st59 hQ59
  subst l59 y59 z59
  obtain ⟨rfl, Nq59, e59⟩ := hQ59
  have N60 := Fr.app N58 Nq59
  obtain ⟨_, _, ⟨T61, L61, k61, n61⟩, -, X61, ⟨Lc61, hQ61, l61, y61, z61⟩, st61⟩ := Jvm.LawKit.callS X59 hx (y := (⟨"com/example/herald/herald/bytecode/BytesPutU4PinLaw", "ok", "([BIIIII)Z"⟩ : MethodName)) hown (mvT hZ (hw _ (List.mem_of_getElem? (i := 63) rfl))) (mvT hZ (hw _ (List.mem_of_getElem? (i := 64) rfl))) (mvT hZ (hw _ (List.mem_of_getElem? (i := 65) rfl))) (mvT hZ (hw _ (List.mem_of_getElem? (i := 66) rfl))) (by decide) (backOf (W := 0) (rm_okB l Z a0 hw [] b37_1 (6 : Int32) p2 p3 (1 : Int32) p5 k37_2 (8 : Int32) (((((((((((((List.replicate 16 (Value.int (0 : Int32))).set (0 : Int32).toNatClampNeg (.int ((((p2.toUInt32 >>> ((24 : Int32) &&& 31).toUInt32).toInt32).toInt8.toInt32).toInt8.toInt32))).set (1 : Int32).toNatClampNeg (.int ((((p2.toUInt32 >>> ((16 : Int32) &&& 31).toUInt32).toInt32).toInt8.toInt32).toInt8.toInt32))).set (2 : Int32).toNatClampNeg (.int ((((p2.toUInt32 >>> ((8 : Int32) &&& 31).toUInt32).toInt32).toInt8.toInt32).toInt8.toInt32))).set (3 : Int32).toNatClampNeg (.int ((p2.toInt8.toInt32).toInt8.toInt32))).set (4 : Int32).toNatClampNeg (.int ((((p3.toUInt32 >>> ((24 : Int32) &&& 31).toUInt32).toInt32).toInt8.toInt32).toInt8.toInt32))).set (5 : Int32).toNatClampNeg (.int ((((p3.toUInt32 >>> ((16 : Int32) &&& 31).toUInt32).toInt32).toInt8.toInt32).toInt8.toInt32))).set (6 : Int32).toNatClampNeg (.int ((((p3.toUInt32 >>> ((8 : Int32) &&& 31).toUInt32).toInt32).toInt8.toInt32).toInt8.toInt32))).set (7 : Int32).toNatClampNeg (.int ((p3.toInt8.toInt32).toInt8.toInt32))).set (1 : Int32).toNatClampNeg (.int ((((p5.toUInt32 >>> ((24 : Int32) &&& 31).toUInt32).toInt32).toInt8.toInt32).toInt8.toInt32))).set (2 : Int32).toNatClampNeg (.int ((((p5.toUInt32 >>> ((16 : Int32) &&& 31).toUInt32).toInt32).toInt8.toInt32).toInt8.toInt32))).set (3 : Int32).toNatClampNeg (.int ((((p5.toUInt32 >>> ((8 : Int32) &&& 31).toUInt32).toInt32).toInt8.toInt32).toInt8.toInt32))).set (4 : Int32).toNatClampNeg (.int ((p5.toInt8.toInt32).toInt8.toInt32))) T37.heap n0 Zs47 f46 (by decide) (by decide) (by decide) (by decide) hp13) hZ (hw _ (List.mem_of_getElem? (i := 66) rfl)) (hw _ (List.mem_of_getElem? (i := 65) rfl)) (by decide) (by decide)) (g := (mkF m 171 #[.val (.int p1), .val (.int p2), .val (.int p3), .val (.int p4), .val (.int p5), .val (.ref b1), .val (.int (1 : Int32)), .val (.ref b37_1)] [(.int p5), (.int (1 : Int32)), (.int p3), (.int p2), (.int (6 : Int32)), (.ref b37_1)])) rfl (by rw [hml]; rfl) (argsL := [(.ref b37_1), (.int (6 : Int32)), (.int p2), (.int p3), (.int (1 : Int32)), (.int p5)]) (rest := []) (lenOf pd_7 rfl) rfl (by show 2 * 0 + _ ≤ _; exact Nat.le_of_eq rfl) (hb hby at_171) (fun _ _ => ⟨rfl, e59, (by decide : 5 + 0 ≤ _), (by decide : 53 + 0 ≤ _)⟩)
  dsimp only [Pt.U, Pt.locs, Pt.cells, Pt.slots] at X61 l61 y61 z61 st61 hQ61
  subst l61 y61 z61
  obtain ⟨rfl, Nq61, e61⟩ := hQ61
  have N62 := Fr.app N60 Nq61
  obtain ⟨_, _, ⟨T63, L63, k63, n63⟩, -, X63, ⟨Lc63, hQ63, l63, y63, z63⟩, st63⟩ := Jvm.LawKit.callS X61 hx (y := (⟨"com/example/herald/herald/bytecode/BytesPutU4PinLaw", "ok", "([BIIIII)Z"⟩ : MethodName)) hown (mvT hZ (hw _ (List.mem_of_getElem? (i := 63) rfl))) (mvT hZ (hw _ (List.mem_of_getElem? (i := 64) rfl))) (mvT hZ (hw _ (List.mem_of_getElem? (i := 65) rfl))) (mvT hZ (hw _ (List.mem_of_getElem? (i := 66) rfl))) (by decide) (backOf (W := 0) (rm_okB l Z a0 hw [] b37_1 (7 : Int32) p2 p3 (1 : Int32) p5 k37_2 (8 : Int32) (((((((((((((List.replicate 16 (Value.int (0 : Int32))).set (0 : Int32).toNatClampNeg (.int ((((p2.toUInt32 >>> ((24 : Int32) &&& 31).toUInt32).toInt32).toInt8.toInt32).toInt8.toInt32))).set (1 : Int32).toNatClampNeg (.int ((((p2.toUInt32 >>> ((16 : Int32) &&& 31).toUInt32).toInt32).toInt8.toInt32).toInt8.toInt32))).set (2 : Int32).toNatClampNeg (.int ((((p2.toUInt32 >>> ((8 : Int32) &&& 31).toUInt32).toInt32).toInt8.toInt32).toInt8.toInt32))).set (3 : Int32).toNatClampNeg (.int ((p2.toInt8.toInt32).toInt8.toInt32))).set (4 : Int32).toNatClampNeg (.int ((((p3.toUInt32 >>> ((24 : Int32) &&& 31).toUInt32).toInt32).toInt8.toInt32).toInt8.toInt32))).set (5 : Int32).toNatClampNeg (.int ((((p3.toUInt32 >>> ((16 : Int32) &&& 31).toUInt32).toInt32).toInt8.toInt32).toInt8.toInt32))).set (6 : Int32).toNatClampNeg (.int ((((p3.toUInt32 >>> ((8 : Int32) &&& 31).toUInt32).toInt32).toInt8.toInt32).toInt8.toInt32))).set (7 : Int32).toNatClampNeg (.int ((p3.toInt8.toInt32).toInt8.toInt32))).set (1 : Int32).toNatClampNeg (.int ((((p5.toUInt32 >>> ((24 : Int32) &&& 31).toUInt32).toInt32).toInt8.toInt32).toInt8.toInt32))).set (2 : Int32).toNatClampNeg (.int ((((p5.toUInt32 >>> ((16 : Int32) &&& 31).toUInt32).toInt32).toInt8.toInt32).toInt8.toInt32))).set (3 : Int32).toNatClampNeg (.int ((((p5.toUInt32 >>> ((8 : Int32) &&& 31).toUInt32).toInt32).toInt8.toInt32).toInt8.toInt32))).set (4 : Int32).toNatClampNeg (.int ((p5.toInt8.toInt32).toInt8.toInt32))) T37.heap n0 Zs47 f46 (by decide) (by decide) (by decide) (by decide) hp14) hZ (hw _ (List.mem_of_getElem? (i := 66) rfl)) (hw _ (List.mem_of_getElem? (i := 65) rfl)) (by decide) (by decide)) (g := (mkF m 187 #[.val (.int p1), .val (.int p2), .val (.int p3), .val (.int p4), .val (.int p5), .val (.ref b1), .val (.int (1 : Int32)), .val (.ref b37_1)] [(.int p5), (.int (1 : Int32)), (.int p3), (.int p2), (.int (7 : Int32)), (.ref b37_1)])) rfl (by rw [hml]; rfl) (argsL := [(.ref b37_1), (.int (7 : Int32)), (.int p2), (.int p3), (.int (1 : Int32)), (.int p5)]) (rest := []) (lenOf pd_7 rfl) rfl (by show 2 * 0 + _ ≤ _; exact Nat.le_of_eq rfl) (hb hby at_187) (fun _ _ => ⟨rfl, e61, (by decide : 5 + 0 ≤ _), (by decide : 53 + 0 ≤ _)⟩)
  dsimp only [Pt.U, Pt.locs, Pt.cells, Pt.slots] at X63 l63 y63 z63 st63 hQ63
  subst l63 y63 z63
  obtain ⟨rfl, Nq63, e63⟩ := hQ63
  have N64 := Fr.app N62 Nq63
  obtain ⟨fs, hr, hrun, hended, hW, hsame⟩ := X63.leave (v := some (.int (1 : Int32))) (fun h => by rw [Bd.returns] at h; cases h) Bd.notSynchronized
  refine ⟨_, _, pre0 _ ?_, hrun, hended, _, _, rfl, ?_, ⟨_, rfl⟩, hW, hsame.mono (by decide) (by decide)⟩
  · show Steps p.tables e below (s₁.setTop (mkF m 0 #[.val (.int p1), .val (.int p2), .val (.int p3), .val (.int p4), .val (.int p5), .unset, .unset, .unset] [])) _
    refine st1 _ ?_
    show Steps p.tables e below (T1.setTop (mkF m 3 #[.val (.int p1), .val (.int p2), .val (.int p3), .val (.int p4), .val (.int p5), .unset, .unset, .unset] [(.ref b1)])) _
    refine XS.dup X1.here hx rfl (hb hby at_3) rfl rfl ?_
    show Steps p.tables e below (T1.setTop (mkF m 4 #[.val (.int p1), .val (.int p2), .val (.int p3), .val (.int p4), .val (.int p5), .unset, .unset, .unset] [(.ref b1), (.ref b1)])) _
    refine XS.iloadN X1.here hx rfl (hb hby at_4) rfl ?_
    show Steps p.tables e below (T1.setTop (mkF m 5 #[.val (.int p1), .val (.int p2), .val (.int p3), .val (.int p4), .val (.int p5), .unset, .unset, .unset] [(.int p1), (.ref b1), (.ref b1)])) _
    refine XS.bipush X1.here hx rfl (hb hby at_5) ?_
    show Steps p.tables e below (T1.setTop (mkF m 7 #[.val (.int p1), .val (.int p2), .val (.int p3), .val (.int p4), .val (.int p5), .unset, .unset, .unset] [(.int (15 : Int32)), (.int p1), (.ref b1), (.ref b1)])) _
    refine XS.iand X1.here hx rfl (hb hby at_7) rfl ?_
    show Steps p.tables e below (T1.setTop (mkF m 8 #[.val (.int p1), .val (.int p2), .val (.int p3), .val (.int p4), .val (.int p5), .unset, .unset, .unset] [(.int (p1 &&& (15 : Int32))), (.ref b1), (.ref b1)])) _
    refine st5.trans ?_
    show Steps p.tables e below (T5.setTop (mkF m 11 #[.val (.int p1), .val (.int p2), .val (.int p3), .val (.int p4), .val (.int p5), .unset, .unset, .unset] [(.ref b1)])) _
    refine XS.astore X5.here hx rfl (hb hby at_11) rfl rfl (l' := #[.val (.int p1), .val (.int p2), .val (.int p3), .val (.int p4), .val (.int p5), .val (.ref b1), .unset, .unset]) rfl ?_
    show Steps p.tables e below (T5.setTop (mkF m 13 #[.val (.int p1), .val (.int p2), .val (.int p3), .val (.int p4), .val (.int p5), .val (.ref b1), .unset, .unset] [])) _
    refine XS.aload X5.here hx rfl (hb hby at_13) rfl rfl ?_
    show Steps p.tables e below (T5.setTop (mkF m 15 #[.val (.int p1), .val (.int p2), .val (.int p3), .val (.int p4), .val (.int p5), .val (.ref b1), .unset, .unset] [(.ref b1)])) _
    refine XS.iloadN X5.here hx rfl (hb hby at_15) rfl ?_
    show Steps p.tables e below (T5.setTop (mkF m 16 #[.val (.int p1), .val (.int p2), .val (.int p3), .val (.int p4), .val (.int p5), .val (.ref b1), .unset, .unset] [(.int p2), (.ref b1)])) _
    refine st11.trans ?_
    show Steps p.tables e below (T11.setTop (mkF m 19 #[.val (.int p1), .val (.int p2), .val (.int p3), .val (.int p4), .val (.int p5), .val (.ref b1), .unset, .unset] [])) _
    refine XS.aload X11.here hx rfl (hb hby at_19) rfl rfl ?_
    show Steps p.tables e below (T11.setTop (mkF m 21 #[.val (.int p1), .val (.int p2), .val (.int p3), .val (.int p4), .val (.int p5), .val (.ref b1), .unset, .unset] [(.ref b1)])) _
    refine XS.iloadN X11.here hx rfl (hb hby at_21) rfl ?_
    show Steps p.tables e below (T11.setTop (mkF m 22 #[.val (.int p1), .val (.int p2), .val (.int p3), .val (.int p4), .val (.int p5), .val (.ref b1), .unset, .unset] [(.int p3), (.ref b1)])) _
    refine st18.trans ?_
    show Steps p.tables e below (T18.setTop (mkF m 25 #[.val (.int p1), .val (.int p2), .val (.int p3), .val (.int p4), .val (.int p5), .val (.ref b1), .unset, .unset] [])) _
    refine XS.iloadN X18.here hx rfl (hb hby at_25) rfl ?_
    show Steps p.tables e below (T18.setTop (mkF m 26 #[.val (.int p1), .val (.int p2), .val (.int p3), .val (.int p4), .val (.int p5), .val (.ref b1), .unset, .unset] [(.int p4)])) _
    refine X18.ldcInt hx hown (mvT hZ (hw _ (List.mem_of_getElem? (i := 38) rfl))) (g := (mkF m 26 #[.val (.int p1), .val (.int p2), .val (.int p3), .val (.int p4), .val (.int p5), .val (.ref b1), .unset, .unset] [(.int p4)])) rfl (hb hby at_26) _ ?_
    show Steps p.tables e below (T18.setTop (mkF m 28 #[.val (.int p1), .val (.int p2), .val (.int p3), .val (.int p4), .val (.int p5), .val (.ref b1), .unset, .unset] [(.int (2147483647 : Int32)), (.int p4)])) _
    refine XS.iand X18.here hx rfl (hb hby at_28) rfl ?_
    show Steps p.tables e below (T18.setTop (mkF m 29 #[.val (.int p1), .val (.int p2), .val (.int p3), .val (.int p4), .val (.int p5), .val (.ref b1), .unset, .unset] [(.int (p4 &&& (2147483647 : Int32)))])) _
    refine XS.iconst X18.here hx rfl (hb hby at_29) ?_
    show Steps p.tables e below (T18.setTop (mkF m 30 #[.val (.int p1), .val (.int p2), .val (.int p3), .val (.int p4), .val (.int p5), .val (.ref b1), .unset, .unset] [(.int (5 : Int32)), (.int (p4 &&& (2147483647 : Int32)))])) _
    refine iremM X18 hx rfl (hb hby at_30) rfl (by decide) ?_
    show Steps p.tables e below (T18.setTop (mkF m 31 #[.val (.int p1), .val (.int p2), .val (.int p3), .val (.int p4), .val (.int p5), .val (.ref b1), .unset, .unset] [(.int ((p4 &&& (2147483647 : Int32)) % (5 : Int32)))])) _
    refine XS.istore X18.here hx rfl (hb hby at_31) rfl (l' := #[.val (.int p1), .val (.int p2), .val (.int p3), .val (.int p4), .val (.int p5), .val (.ref b1), .val (.int ((p4 &&& (2147483647 : Int32)) % (5 : Int32))), .unset]) rfl ?_
    show Steps p.tables e below (T18.setTop (mkF m 33 #[.val (.int p1), .val (.int p2), .val (.int p3), .val (.int p4), .val (.int p5), .val (.ref b1), .val (.int ((p4 &&& (2147483647 : Int32)) % (5 : Int32))), .unset] [])) _
    rw [hw_5]
    show Steps p.tables e below (T18.setTop (mkF m 33 #[.val (.int p1), .val (.int p2), .val (.int p3), .val (.int p4), .val (.int p5), .val (.ref b1), .val (.int (1 : Int32)), .unset] [])) _
    refine XS.aload X18.here hx rfl (hb hby at_33) rfl rfl ?_
    show Steps p.tables e below (T18.setTop (mkF m 35 #[.val (.int p1), .val (.int p2), .val (.int p3), .val (.int p4), .val (.int p5), .val (.ref b1), .val (.int (1 : Int32)), .unset] [(.ref b1)])) _
    refine XS.iload X18.here hx rfl (hb hby at_35) rfl ?_
    show Steps p.tables e below (T18.setTop (mkF m 37 #[.val (.int p1), .val (.int p2), .val (.int p3), .val (.int p4), .val (.int p5), .val (.ref b1), .val (.int (1 : Int32)), .unset] [(.int (1 : Int32)), (.ref b1)])) _
    refine XS.iload X18.here hx rfl (hb hby at_37) rfl ?_
    show Steps p.tables e below (T18.setTop (mkF m 39 #[.val (.int p1), .val (.int p2), .val (.int p3), .val (.int p4), .val (.int p5), .val (.ref b1), .val (.int (1 : Int32)), .unset] [(.int p5), (.int (1 : Int32)), (.ref b1)])) _
    refine st26.trans ?_
    show Steps p.tables e below (T26.setTop (mkF m 42 #[.val (.int p1), .val (.int p2), .val (.int p3), .val (.int p4), .val (.int p5), .val (.ref b1), .val (.int (1 : Int32)), .unset] [])) _
    refine XS.aload X26.here hx rfl (hb hby at_42) rfl rfl ?_
    show Steps p.tables e below (T26.setTop (mkF m 44 #[.val (.int p1), .val (.int p2), .val (.int p3), .val (.int p4), .val (.int p5), .val (.ref b1), .val (.int (1 : Int32)), .unset] [(.ref b1)])) _
    refine st35.trans ?_
    show Steps p.tables e below (T35.setTop (mkF m 47 #[.val (.int p1), .val (.int p2), .val (.int p3), .val (.int p4), .val (.int p5), .val (.ref b1), .val (.int (1 : Int32)), .unset] [(.int (8 : Int32))])) _
    refine XS.bipush X35.here hx rfl (hb hby at_47) ?_
    show Steps p.tables e below (T35.setTop (mkF m 49 #[.val (.int p1), .val (.int p2), .val (.int p3), .val (.int p4), .val (.int p5), .val (.ref b1), .val (.int (1 : Int32)), .unset] [(.int (8 : Int32)), (.int (8 : Int32))])) _
    refine XS.icmpYes X35.here hx rfl (pc0 := 49) (pc' := 54) rfl (hb hby at_49) rfl (teq (by decide : (8 : Int32) = (8 : Int32))).1 (by decide) (by decide) ?_
    show Steps p.tables e below (T35.setTop (mkF m 54 #[.val (.int p1), .val (.int p2), .val (.int p3), .val (.int p4), .val (.int p5), .val (.ref b1), .val (.int (1 : Int32)), .unset] [])) _
    refine XS.aload X35.here hx rfl (hb hby at_54) rfl rfl ?_
    show Steps p.tables e below (T35.setTop (mkF m 56 #[.val (.int p1), .val (.int p2), .val (.int p3), .val (.int p4), .val (.int p5), .val (.ref b1), .val (.int (1 : Int32)), .unset] [(.ref b1)])) _
    refine st37.trans ?_
    show Steps p.tables e below (T37.setTop (mkF m 59 #[.val (.int p1), .val (.int p2), .val (.int p3), .val (.int p4), .val (.int p5), .val (.ref b1), .val (.int (1 : Int32)), .unset] [(.ref b37_1)])) _
    refine XS.astore X37.here hx rfl (hb hby at_59) rfl rfl (l' := #[.val (.int p1), .val (.int p2), .val (.int p3), .val (.int p4), .val (.int p5), .val (.ref b1), .val (.int (1 : Int32)), .val (.ref b37_1)]) rfl ?_
    show Steps p.tables e below (T37.setTop (mkF m 61 #[.val (.int p1), .val (.int p2), .val (.int p3), .val (.int p4), .val (.int p5), .val (.ref b1), .val (.int (1 : Int32)), .val (.ref b37_1)] [])) _
    refine XS.aload X37.here hx rfl (hb hby at_61) rfl rfl ?_
    show Steps p.tables e below (T37.setTop (mkF m 63 #[.val (.int p1), .val (.int p2), .val (.int p3), .val (.int p4), .val (.int p5), .val (.ref b1), .val (.int (1 : Int32)), .val (.ref b37_1)] [(.ref b37_1)])) _
    refine X37.arraylength hx Aro48.1 (State.isArrayOf_alike hZ.alike Aro48.2.1) (g := (mkF m 63 #[.val (.int p1), .val (.int p2), .val (.int p3), .val (.int p4), .val (.int p5), .val (.ref b1), .val (.int (1 : Int32)), .val (.ref b37_1)] [(.ref b37_1)])) rfl rfl (hb hby at_63) _ ?_
    rw [len_of So48 No48]
    show Steps p.tables e below (T37.setTop (mkF m 64 #[.val (.int p1), .val (.int p2), .val (.int p3), .val (.int p4), .val (.int p5), .val (.ref b1), .val (.int (1 : Int32)), .val (.ref b37_1)] [(.int (8 : Int32))])) _
    refine XS.bipush X37.here hx rfl (hb hby at_64) ?_
    show Steps p.tables e below (T37.setTop (mkF m 66 #[.val (.int p1), .val (.int p2), .val (.int p3), .val (.int p4), .val (.int p5), .val (.ref b1), .val (.int (1 : Int32)), .val (.ref b37_1)] [(.int (8 : Int32)), (.int (8 : Int32))])) _
    refine XS.icmpYes X37.here hx rfl (pc0 := 66) (pc' := 71) rfl (hb hby at_66) rfl (teq (by decide : (8 : Int32) = (8 : Int32))).1 (by decide) (by decide) ?_
    show Steps p.tables e below (T37.setTop (mkF m 71 #[.val (.int p1), .val (.int p2), .val (.int p3), .val (.int p4), .val (.int p5), .val (.ref b1), .val (.int (1 : Int32)), .val (.ref b37_1)] [])) _
    refine XS.aload X37.here hx rfl (hb hby at_71) rfl rfl ?_
    show Steps p.tables e below (T37.setTop (mkF m 73 #[.val (.int p1), .val (.int p2), .val (.int p3), .val (.int p4), .val (.int p5), .val (.ref b1), .val (.int (1 : Int32)), .val (.ref b37_1)] [(.ref b37_1)])) _
    refine XS.iconst X37.here hx rfl (hb hby at_73) ?_
    show Steps p.tables e below (T37.setTop (mkF m 74 #[.val (.int p1), .val (.int p2), .val (.int p3), .val (.int p4), .val (.int p5), .val (.ref b1), .val (.int (1 : Int32)), .val (.ref b37_1)] [(.int (0 : Int32)), (.ref b37_1)])) _
    refine XS.iloadN X37.here hx rfl (hb hby at_74) rfl ?_
    show Steps p.tables e below (T37.setTop (mkF m 75 #[.val (.int p1), .val (.int p2), .val (.int p3), .val (.int p4), .val (.int p5), .val (.ref b1), .val (.int (1 : Int32)), .val (.ref b37_1)] [(.int p2), (.int (0 : Int32)), (.ref b37_1)])) _
    refine XS.iloadN X37.here hx rfl (hb hby at_75) rfl ?_
    show Steps p.tables e below (T37.setTop (mkF m 76 #[.val (.int p1), .val (.int p2), .val (.int p3), .val (.int p4), .val (.int p5), .val (.ref b1), .val (.int (1 : Int32)), .val (.ref b37_1)] [(.int p3), (.int p2), (.int (0 : Int32)), (.ref b37_1)])) _
    refine XS.iload X37.here hx rfl (hb hby at_76) rfl ?_
    show Steps p.tables e below (T37.setTop (mkF m 78 #[.val (.int p1), .val (.int p2), .val (.int p3), .val (.int p4), .val (.int p5), .val (.ref b1), .val (.int (1 : Int32)), .val (.ref b37_1)] [(.int (1 : Int32)), (.int p3), (.int p2), (.int (0 : Int32)), (.ref b37_1)])) _
    refine XS.iload X37.here hx rfl (hb hby at_78) rfl ?_
    show Steps p.tables e below (T37.setTop (mkF m 80 #[.val (.int p1), .val (.int p2), .val (.int p3), .val (.int p4), .val (.int p5), .val (.ref b1), .val (.int (1 : Int32)), .val (.ref b37_1)] [(.int p5), (.int (1 : Int32)), (.int p3), (.int p2), (.int (0 : Int32)), (.ref b37_1)])) _
    refine st49 _ ?_
    show Steps p.tables e below (T49.setTop (mkF m 83 #[.val (.int p1), .val (.int p2), .val (.int p3), .val (.int p4), .val (.int p5), .val (.ref b1), .val (.int (1 : Int32)), .val (.ref b37_1)] [(.int (1 : Int32))])) _
    refine XS.ifNo X49.here hx rfl (hb hby at_83) rfl ((if0 _ _).trans (feq (by decide : ¬ ((1 : Int32) = (0 : Int32)))).1) ?_
    show Steps p.tables e below (T49.setTop (mkF m 86 #[.val (.int p1), .val (.int p2), .val (.int p3), .val (.int p4), .val (.int p5), .val (.ref b1), .val (.int (1 : Int32)), .val (.ref b37_1)] [])) _
    refine XS.aload X49.here hx rfl (hb hby at_86) rfl rfl ?_
    show Steps p.tables e below (T49.setTop (mkF m 88 #[.val (.int p1), .val (.int p2), .val (.int p3), .val (.int p4), .val (.int p5), .val (.ref b1), .val (.int (1 : Int32)), .val (.ref b37_1)] [(.ref b37_1)])) _
    refine XS.iconst X49.here hx rfl (hb hby at_88) ?_
    show Steps p.tables e below (T49.setTop (mkF m 89 #[.val (.int p1), .val (.int p2), .val (.int p3), .val (.int p4), .val (.int p5), .val (.ref b1), .val (.int (1 : Int32)), .val (.ref b37_1)] [(.int (1 : Int32)), (.ref b37_1)])) _
    refine XS.iloadN X49.here hx rfl (hb hby at_89) rfl ?_
    show Steps p.tables e below (T49.setTop (mkF m 90 #[.val (.int p1), .val (.int p2), .val (.int p3), .val (.int p4), .val (.int p5), .val (.ref b1), .val (.int (1 : Int32)), .val (.ref b37_1)] [(.int p2), (.int (1 : Int32)), (.ref b37_1)])) _
    refine XS.iloadN X49.here hx rfl (hb hby at_90) rfl ?_
    show Steps p.tables e below (T49.setTop (mkF m 91 #[.val (.int p1), .val (.int p2), .val (.int p3), .val (.int p4), .val (.int p5), .val (.ref b1), .val (.int (1 : Int32)), .val (.ref b37_1)] [(.int p3), (.int p2), (.int (1 : Int32)), (.ref b37_1)])) _
    refine XS.iload X49.here hx rfl (hb hby at_91) rfl ?_
    show Steps p.tables e below (T49.setTop (mkF m 93 #[.val (.int p1), .val (.int p2), .val (.int p3), .val (.int p4), .val (.int p5), .val (.ref b1), .val (.int (1 : Int32)), .val (.ref b37_1)] [(.int (1 : Int32)), (.int p3), (.int p2), (.int (1 : Int32)), (.ref b37_1)])) _
    refine XS.iload X49.here hx rfl (hb hby at_93) rfl ?_
    show Steps p.tables e below (T49.setTop (mkF m 95 #[.val (.int p1), .val (.int p2), .val (.int p3), .val (.int p4), .val (.int p5), .val (.ref b1), .val (.int (1 : Int32)), .val (.ref b37_1)] [(.int p5), (.int (1 : Int32)), (.int p3), (.int p2), (.int (1 : Int32)), (.ref b37_1)])) _
    refine st51 _ ?_
    show Steps p.tables e below (T51.setTop (mkF m 98 #[.val (.int p1), .val (.int p2), .val (.int p3), .val (.int p4), .val (.int p5), .val (.ref b1), .val (.int (1 : Int32)), .val (.ref b37_1)] [(.int (1 : Int32))])) _
    refine XS.ifNo X51.here hx rfl (hb hby at_98) rfl ((if0 _ _).trans (feq (by decide : ¬ ((1 : Int32) = (0 : Int32)))).1) ?_
    show Steps p.tables e below (T51.setTop (mkF m 101 #[.val (.int p1), .val (.int p2), .val (.int p3), .val (.int p4), .val (.int p5), .val (.ref b1), .val (.int (1 : Int32)), .val (.ref b37_1)] [])) _
    refine XS.aload X51.here hx rfl (hb hby at_101) rfl rfl ?_
    show Steps p.tables e below (T51.setTop (mkF m 103 #[.val (.int p1), .val (.int p2), .val (.int p3), .val (.int p4), .val (.int p5), .val (.ref b1), .val (.int (1 : Int32)), .val (.ref b37_1)] [(.ref b37_1)])) _
    refine XS.iconst X51.here hx rfl (hb hby at_103) ?_
    show Steps p.tables e below (T51.setTop (mkF m 104 #[.val (.int p1), .val (.int p2), .val (.int p3), .val (.int p4), .val (.int p5), .val (.ref b1), .val (.int (1 : Int32)), .val (.ref b37_1)] [(.int (2 : Int32)), (.ref b37_1)])) _
    refine XS.iloadN X51.here hx rfl (hb hby at_104) rfl ?_
    show Steps p.tables e below (T51.setTop (mkF m 105 #[.val (.int p1), .val (.int p2), .val (.int p3), .val (.int p4), .val (.int p5), .val (.ref b1), .val (.int (1 : Int32)), .val (.ref b37_1)] [(.int p2), (.int (2 : Int32)), (.ref b37_1)])) _
    refine XS.iloadN X51.here hx rfl (hb hby at_105) rfl ?_
    show Steps p.tables e below (T51.setTop (mkF m 106 #[.val (.int p1), .val (.int p2), .val (.int p3), .val (.int p4), .val (.int p5), .val (.ref b1), .val (.int (1 : Int32)), .val (.ref b37_1)] [(.int p3), (.int p2), (.int (2 : Int32)), (.ref b37_1)])) _
    refine XS.iload X51.here hx rfl (hb hby at_106) rfl ?_
    show Steps p.tables e below (T51.setTop (mkF m 108 #[.val (.int p1), .val (.int p2), .val (.int p3), .val (.int p4), .val (.int p5), .val (.ref b1), .val (.int (1 : Int32)), .val (.ref b37_1)] [(.int (1 : Int32)), (.int p3), (.int p2), (.int (2 : Int32)), (.ref b37_1)])) _
    refine XS.iload X51.here hx rfl (hb hby at_108) rfl ?_
    show Steps p.tables e below (T51.setTop (mkF m 110 #[.val (.int p1), .val (.int p2), .val (.int p3), .val (.int p4), .val (.int p5), .val (.ref b1), .val (.int (1 : Int32)), .val (.ref b37_1)] [(.int p5), (.int (1 : Int32)), (.int p3), (.int p2), (.int (2 : Int32)), (.ref b37_1)])) _
    refine st53 _ ?_
    show Steps p.tables e below (T53.setTop (mkF m 113 #[.val (.int p1), .val (.int p2), .val (.int p3), .val (.int p4), .val (.int p5), .val (.ref b1), .val (.int (1 : Int32)), .val (.ref b37_1)] [(.int (1 : Int32))])) _
    refine XS.ifNo X53.here hx rfl (hb hby at_113) rfl ((if0 _ _).trans (feq (by decide : ¬ ((1 : Int32) = (0 : Int32)))).1) ?_
    show Steps p.tables e below (T53.setTop (mkF m 116 #[.val (.int p1), .val (.int p2), .val (.int p3), .val (.int p4), .val (.int p5), .val (.ref b1), .val (.int (1 : Int32)), .val (.ref b37_1)] [])) _
    refine XS.aload X53.here hx rfl (hb hby at_116) rfl rfl ?_
    show Steps p.tables e below (T53.setTop (mkF m 118 #[.val (.int p1), .val (.int p2), .val (.int p3), .val (.int p4), .val (.int p5), .val (.ref b1), .val (.int (1 : Int32)), .val (.ref b37_1)] [(.ref b37_1)])) _
    refine XS.iconst X53.here hx rfl (hb hby at_118) ?_
    show Steps p.tables e below (T53.setTop (mkF m 119 #[.val (.int p1), .val (.int p2), .val (.int p3), .val (.int p4), .val (.int p5), .val (.ref b1), .val (.int (1 : Int32)), .val (.ref b37_1)] [(.int (3 : Int32)), (.ref b37_1)])) _
    refine XS.iloadN X53.here hx rfl (hb hby at_119) rfl ?_
    show Steps p.tables e below (T53.setTop (mkF m 120 #[.val (.int p1), .val (.int p2), .val (.int p3), .val (.int p4), .val (.int p5), .val (.ref b1), .val (.int (1 : Int32)), .val (.ref b37_1)] [(.int p2), (.int (3 : Int32)), (.ref b37_1)])) _
    refine XS.iloadN X53.here hx rfl (hb hby at_120) rfl ?_
    show Steps p.tables e below (T53.setTop (mkF m 121 #[.val (.int p1), .val (.int p2), .val (.int p3), .val (.int p4), .val (.int p5), .val (.ref b1), .val (.int (1 : Int32)), .val (.ref b37_1)] [(.int p3), (.int p2), (.int (3 : Int32)), (.ref b37_1)])) _
    refine XS.iload X53.here hx rfl (hb hby at_121) rfl ?_
    show Steps p.tables e below (T53.setTop (mkF m 123 #[.val (.int p1), .val (.int p2), .val (.int p3), .val (.int p4), .val (.int p5), .val (.ref b1), .val (.int (1 : Int32)), .val (.ref b37_1)] [(.int (1 : Int32)), (.int p3), (.int p2), (.int (3 : Int32)), (.ref b37_1)])) _
    refine XS.iload X53.here hx rfl (hb hby at_123) rfl ?_
    show Steps p.tables e below (T53.setTop (mkF m 125 #[.val (.int p1), .val (.int p2), .val (.int p3), .val (.int p4), .val (.int p5), .val (.ref b1), .val (.int (1 : Int32)), .val (.ref b37_1)] [(.int p5), (.int (1 : Int32)), (.int p3), (.int p2), (.int (3 : Int32)), (.ref b37_1)])) _
    refine st55 _ ?_
    show Steps p.tables e below (T55.setTop (mkF m 128 #[.val (.int p1), .val (.int p2), .val (.int p3), .val (.int p4), .val (.int p5), .val (.ref b1), .val (.int (1 : Int32)), .val (.ref b37_1)] [(.int (1 : Int32))])) _
    refine XS.ifNo X55.here hx rfl (hb hby at_128) rfl ((if0 _ _).trans (feq (by decide : ¬ ((1 : Int32) = (0 : Int32)))).1) ?_
    show Steps p.tables e below (T55.setTop (mkF m 131 #[.val (.int p1), .val (.int p2), .val (.int p3), .val (.int p4), .val (.int p5), .val (.ref b1), .val (.int (1 : Int32)), .val (.ref b37_1)] [])) _
    refine XS.aload X55.here hx rfl (hb hby at_131) rfl rfl ?_
    show Steps p.tables e below (T55.setTop (mkF m 133 #[.val (.int p1), .val (.int p2), .val (.int p3), .val (.int p4), .val (.int p5), .val (.ref b1), .val (.int (1 : Int32)), .val (.ref b37_1)] [(.ref b37_1)])) _
    refine XS.iconst X55.here hx rfl (hb hby at_133) ?_
    show Steps p.tables e below (T55.setTop (mkF m 134 #[.val (.int p1), .val (.int p2), .val (.int p3), .val (.int p4), .val (.int p5), .val (.ref b1), .val (.int (1 : Int32)), .val (.ref b37_1)] [(.int (4 : Int32)), (.ref b37_1)])) _
    refine XS.iloadN X55.here hx rfl (hb hby at_134) rfl ?_
    show Steps p.tables e below (T55.setTop (mkF m 135 #[.val (.int p1), .val (.int p2), .val (.int p3), .val (.int p4), .val (.int p5), .val (.ref b1), .val (.int (1 : Int32)), .val (.ref b37_1)] [(.int p2), (.int (4 : Int32)), (.ref b37_1)])) _
    refine XS.iloadN X55.here hx rfl (hb hby at_135) rfl ?_
    show Steps p.tables e below (T55.setTop (mkF m 136 #[.val (.int p1), .val (.int p2), .val (.int p3), .val (.int p4), .val (.int p5), .val (.ref b1), .val (.int (1 : Int32)), .val (.ref b37_1)] [(.int p3), (.int p2), (.int (4 : Int32)), (.ref b37_1)])) _
    refine XS.iload X55.here hx rfl (hb hby at_136) rfl ?_
    show Steps p.tables e below (T55.setTop (mkF m 138 #[.val (.int p1), .val (.int p2), .val (.int p3), .val (.int p4), .val (.int p5), .val (.ref b1), .val (.int (1 : Int32)), .val (.ref b37_1)] [(.int (1 : Int32)), (.int p3), (.int p2), (.int (4 : Int32)), (.ref b37_1)])) _
    refine XS.iload X55.here hx rfl (hb hby at_138) rfl ?_
    show Steps p.tables e below (T55.setTop (mkF m 140 #[.val (.int p1), .val (.int p2), .val (.int p3), .val (.int p4), .val (.int p5), .val (.ref b1), .val (.int (1 : Int32)), .val (.ref b37_1)] [(.int p5), (.int (1 : Int32)), (.int p3), (.int p2), (.int (4 : Int32)), (.ref b37_1)])) _
    refine st57 _ ?_
    show Steps p.tables e below (T57.setTop (mkF m 143 #[.val (.int p1), .val (.int p2), .val (.int p3), .val (.int p4), .val (.int p5), .val (.ref b1), .val (.int (1 : Int32)), .val (.ref b37_1)] [(.int (1 : Int32))])) _
    refine XS.ifNo X57.here hx rfl (hb hby at_143) rfl ((if0 _ _).trans (feq (by decide : ¬ ((1 : Int32) = (0 : Int32)))).1) ?_
    show Steps p.tables e below (T57.setTop (mkF m 146 #[.val (.int p1), .val (.int p2), .val (.int p3), .val (.int p4), .val (.int p5), .val (.ref b1), .val (.int (1 : Int32)), .val (.ref b37_1)] [])) _
    refine XS.aload X57.here hx rfl (hb hby at_146) rfl rfl ?_
    show Steps p.tables e below (T57.setTop (mkF m 148 #[.val (.int p1), .val (.int p2), .val (.int p3), .val (.int p4), .val (.int p5), .val (.ref b1), .val (.int (1 : Int32)), .val (.ref b37_1)] [(.ref b37_1)])) _
    refine XS.iconst X57.here hx rfl (hb hby at_148) ?_
    show Steps p.tables e below (T57.setTop (mkF m 149 #[.val (.int p1), .val (.int p2), .val (.int p3), .val (.int p4), .val (.int p5), .val (.ref b1), .val (.int (1 : Int32)), .val (.ref b37_1)] [(.int (5 : Int32)), (.ref b37_1)])) _
    refine XS.iloadN X57.here hx rfl (hb hby at_149) rfl ?_
    show Steps p.tables e below (T57.setTop (mkF m 150 #[.val (.int p1), .val (.int p2), .val (.int p3), .val (.int p4), .val (.int p5), .val (.ref b1), .val (.int (1 : Int32)), .val (.ref b37_1)] [(.int p2), (.int (5 : Int32)), (.ref b37_1)])) _
    refine XS.iloadN X57.here hx rfl (hb hby at_150) rfl ?_
    show Steps p.tables e below (T57.setTop (mkF m 151 #[.val (.int p1), .val (.int p2), .val (.int p3), .val (.int p4), .val (.int p5), .val (.ref b1), .val (.int (1 : Int32)), .val (.ref b37_1)] [(.int p3), (.int p2), (.int (5 : Int32)), (.ref b37_1)])) _
    refine XS.iload X57.here hx rfl (hb hby at_151) rfl ?_
    show Steps p.tables e below (T57.setTop (mkF m 153 #[.val (.int p1), .val (.int p2), .val (.int p3), .val (.int p4), .val (.int p5), .val (.ref b1), .val (.int (1 : Int32)), .val (.ref b37_1)] [(.int (1 : Int32)), (.int p3), (.int p2), (.int (5 : Int32)), (.ref b37_1)])) _
    refine XS.iload X57.here hx rfl (hb hby at_153) rfl ?_
    show Steps p.tables e below (T57.setTop (mkF m 155 #[.val (.int p1), .val (.int p2), .val (.int p3), .val (.int p4), .val (.int p5), .val (.ref b1), .val (.int (1 : Int32)), .val (.ref b37_1)] [(.int p5), (.int (1 : Int32)), (.int p3), (.int p2), (.int (5 : Int32)), (.ref b37_1)])) _
    refine st59 _ ?_
    show Steps p.tables e below (T59.setTop (mkF m 158 #[.val (.int p1), .val (.int p2), .val (.int p3), .val (.int p4), .val (.int p5), .val (.ref b1), .val (.int (1 : Int32)), .val (.ref b37_1)] [(.int (1 : Int32))])) _
    refine XS.ifNo X59.here hx rfl (hb hby at_158) rfl ((if0 _ _).trans (feq (by decide : ¬ ((1 : Int32) = (0 : Int32)))).1) ?_
    show Steps p.tables e below (T59.setTop (mkF m 161 #[.val (.int p1), .val (.int p2), .val (.int p3), .val (.int p4), .val (.int p5), .val (.ref b1), .val (.int (1 : Int32)), .val (.ref b37_1)] [])) _
    refine XS.aload X59.here hx rfl (hb hby at_161) rfl rfl ?_
    show Steps p.tables e below (T59.setTop (mkF m 163 #[.val (.int p1), .val (.int p2), .val (.int p3), .val (.int p4), .val (.int p5), .val (.ref b1), .val (.int (1 : Int32)), .val (.ref b37_1)] [(.ref b37_1)])) _
    refine XS.bipush X59.here hx rfl (hb hby at_163) ?_
    show Steps p.tables e below (T59.setTop (mkF m 165 #[.val (.int p1), .val (.int p2), .val (.int p3), .val (.int p4), .val (.int p5), .val (.ref b1), .val (.int (1 : Int32)), .val (.ref b37_1)] [(.int (6 : Int32)), (.ref b37_1)])) _
    refine XS.iloadN X59.here hx rfl (hb hby at_165) rfl ?_
    show Steps p.tables e below (T59.setTop (mkF m 166 #[.val (.int p1), .val (.int p2), .val (.int p3), .val (.int p4), .val (.int p5), .val (.ref b1), .val (.int (1 : Int32)), .val (.ref b37_1)] [(.int p2), (.int (6 : Int32)), (.ref b37_1)])) _
    refine XS.iloadN X59.here hx rfl (hb hby at_166) rfl ?_
    show Steps p.tables e below (T59.setTop (mkF m 167 #[.val (.int p1), .val (.int p2), .val (.int p3), .val (.int p4), .val (.int p5), .val (.ref b1), .val (.int (1 : Int32)), .val (.ref b37_1)] [(.int p3), (.int p2), (.int (6 : Int32)), (.ref b37_1)])) _
    refine XS.iload X59.here hx rfl (hb hby at_167) rfl ?_
    show Steps p.tables e below (T59.setTop (mkF m 169 #[.val (.int p1), .val (.int p2), .val (.int p3), .val (.int p4), .val (.int p5), .val (.ref b1), .val (.int (1 : Int32)), .val (.ref b37_1)] [(.int (1 : Int32)), (.int p3), (.int p2), (.int (6 : Int32)), (.ref b37_1)])) _
    refine XS.iload X59.here hx rfl (hb hby at_169) rfl ?_
    show Steps p.tables e below (T59.setTop (mkF m 171 #[.val (.int p1), .val (.int p2), .val (.int p3), .val (.int p4), .val (.int p5), .val (.ref b1), .val (.int (1 : Int32)), .val (.ref b37_1)] [(.int p5), (.int (1 : Int32)), (.int p3), (.int p2), (.int (6 : Int32)), (.ref b37_1)])) _
    refine st61 _ ?_
    show Steps p.tables e below (T61.setTop (mkF m 174 #[.val (.int p1), .val (.int p2), .val (.int p3), .val (.int p4), .val (.int p5), .val (.ref b1), .val (.int (1 : Int32)), .val (.ref b37_1)] [(.int (1 : Int32))])) _
    refine XS.ifNo X61.here hx rfl (hb hby at_174) rfl ((if0 _ _).trans (feq (by decide : ¬ ((1 : Int32) = (0 : Int32)))).1) ?_
    show Steps p.tables e below (T61.setTop (mkF m 177 #[.val (.int p1), .val (.int p2), .val (.int p3), .val (.int p4), .val (.int p5), .val (.ref b1), .val (.int (1 : Int32)), .val (.ref b37_1)] [])) _
    refine XS.aload X61.here hx rfl (hb hby at_177) rfl rfl ?_
    show Steps p.tables e below (T61.setTop (mkF m 179 #[.val (.int p1), .val (.int p2), .val (.int p3), .val (.int p4), .val (.int p5), .val (.ref b1), .val (.int (1 : Int32)), .val (.ref b37_1)] [(.ref b37_1)])) _
    refine XS.bipush X61.here hx rfl (hb hby at_179) ?_
    show Steps p.tables e below (T61.setTop (mkF m 181 #[.val (.int p1), .val (.int p2), .val (.int p3), .val (.int p4), .val (.int p5), .val (.ref b1), .val (.int (1 : Int32)), .val (.ref b37_1)] [(.int (7 : Int32)), (.ref b37_1)])) _
    refine XS.iloadN X61.here hx rfl (hb hby at_181) rfl ?_
    show Steps p.tables e below (T61.setTop (mkF m 182 #[.val (.int p1), .val (.int p2), .val (.int p3), .val (.int p4), .val (.int p5), .val (.ref b1), .val (.int (1 : Int32)), .val (.ref b37_1)] [(.int p2), (.int (7 : Int32)), (.ref b37_1)])) _
    refine XS.iloadN X61.here hx rfl (hb hby at_182) rfl ?_
    show Steps p.tables e below (T61.setTop (mkF m 183 #[.val (.int p1), .val (.int p2), .val (.int p3), .val (.int p4), .val (.int p5), .val (.ref b1), .val (.int (1 : Int32)), .val (.ref b37_1)] [(.int p3), (.int p2), (.int (7 : Int32)), (.ref b37_1)])) _
    refine XS.iload X61.here hx rfl (hb hby at_183) rfl ?_
    show Steps p.tables e below (T61.setTop (mkF m 185 #[.val (.int p1), .val (.int p2), .val (.int p3), .val (.int p4), .val (.int p5), .val (.ref b1), .val (.int (1 : Int32)), .val (.ref b37_1)] [(.int (1 : Int32)), (.int p3), (.int p2), (.int (7 : Int32)), (.ref b37_1)])) _
    refine XS.iload X61.here hx rfl (hb hby at_185) rfl ?_
    show Steps p.tables e below (T61.setTop (mkF m 187 #[.val (.int p1), .val (.int p2), .val (.int p3), .val (.int p4), .val (.int p5), .val (.ref b1), .val (.int (1 : Int32)), .val (.ref b37_1)] [(.int p5), (.int (1 : Int32)), (.int p3), (.int p2), (.int (7 : Int32)), (.ref b37_1)])) _
    refine st63 _ ?_
    show Steps p.tables e below (T63.setTop (mkF m 190 #[.val (.int p1), .val (.int p2), .val (.int p3), .val (.int p4), .val (.int p5), .val (.ref b1), .val (.int (1 : Int32)), .val (.ref b37_1)] [(.int (1 : Int32))])) _
    refine XS.ifNo X63.here hx rfl (hb hby at_190) rfl ((if0 _ _).trans (feq (by decide : ¬ ((1 : Int32) = (0 : Int32)))).1) ?_
    show Steps p.tables e below (T63.setTop (mkF m 193 #[.val (.int p1), .val (.int p2), .val (.int p3), .val (.int p4), .val (.int p5), .val (.ref b1), .val (.int (1 : Int32)), .val (.ref b37_1)] [])) _
    refine XS.iconst X63.here hx rfl (hb hby at_193) ?_
    show Steps p.tables e below (T63.setTop (mkF m 194 #[.val (.int p1), .val (.int p2), .val (.int p3), .val (.int p4), .val (.int p5), .val (.ref b1), .val (.int (1 : Int32)), .val (.ref b37_1)] [(.int (1 : Int32))])) _
    refine XS.goto X63.here hx rfl (pc0 := 194) (pc' := 198) rfl (hb hby at_194) (by decide) (by decide) ?_
    show Steps p.tables e below (T63.setTop (mkF m 198 #[.val (.int p1), .val (.int p2), .val (.int p3), .val (.int p4), .val (.int p5), .val (.ref b1), .val (.int (1 : Int32)), .val (.ref b37_1)] [(.int (1 : Int32))])) _
    exact retN X63 hx (t := .boolean) Bd.returns (by simp) (hb hby at_198) hr
  · show Q_law Z p1 p2 p3 p4 p5 h0 n0 _ T63.heap _
    rw [e63]
    exact ⟨rfl, N64⟩
def Road_at2 (p1 : Int32) (p2 : Int32) (p3 : Int32) (p4 : Int32) (p5 : Int32) : Prop := (¬ ((p1 &&& (15 : Int32)) < (0 : Int32))) ∧ ((p1 &&& (15 : Int32)).toNatClampNeg ≤ 15) ∧ (own_B (0 : Int32) (p1 &&& (15 : Int32)) (List.replicate 16 (Value.int (0 : Int32)))) ∧ (((p4 &&& (2147483647 : Int32)) % (5 : Int32)) = (2 : Int32)) ∧ (((own_at (((((((((((((List.replicate 16 (Value.int (0 : Int32))).set (0 : Int32).toNatClampNeg (.int ((((p2.toUInt32 >>> ((24 : Int32) &&& 31).toUInt32).toInt32).toInt8.toInt32).toInt8.toInt32))).set (1 : Int32).toNatClampNeg (.int ((((p2.toUInt32 >>> ((16 : Int32) &&& 31).toUInt32).toInt32).toInt8.toInt32).toInt8.toInt32))).set (2 : Int32).toNatClampNeg (.int ((((p2.toUInt32 >>> ((8 : Int32) &&& 31).toUInt32).toInt32).toInt8.toInt32).toInt8.toInt32))).set (3 : Int32).toNatClampNeg (.int ((p2.toInt8.toInt32).toInt8.toInt32))).set (4 : Int32).toNatClampNeg (.int ((((p3.toUInt32 >>> ((24 : Int32) &&& 31).toUInt32).toInt32).toInt8.toInt32).toInt8.toInt32))).set (5 : Int32).toNatClampNeg (.int ((((p3.toUInt32 >>> ((16 : Int32) &&& 31).toUInt32).toInt32).toInt8.toInt32).toInt8.toInt32))).set (6 : Int32).toNatClampNeg (.int ((((p3.toUInt32 >>> ((8 : Int32) &&& 31).toUInt32).toInt32).toInt8.toInt32).toInt8.toInt32))).set (7 : Int32).toNatClampNeg (.int ((p3.toInt8.toInt32).toInt8.toInt32))).set (2 : Int32).toNatClampNeg (.int ((((p5.toUInt32 >>> ((24 : Int32) &&& 31).toUInt32).toInt32).toInt8.toInt32).toInt8.toInt32))).set (3 : Int32).toNatClampNeg (.int ((((p5.toUInt32 >>> ((16 : Int32) &&& 31).toUInt32).toInt32).toInt8.toInt32).toInt8.toInt32))).set (4 : Int32).toNatClampNeg (.int ((((p5.toUInt32 >>> ((8 : Int32) &&& 31).toUInt32).toInt32).toInt8.toInt32).toInt8.toInt32))).set (5 : Int32).toNatClampNeg (.int ((p5.toInt8.toInt32).toInt8.toInt32))) ((0 : Int32)).toNatClampNeg (.int (0 : Int32))) &&& (255 : Int32)) = (f_orig (0 : Int32) p2 p3)) ∧ (((own_at (((((((((((((List.replicate 16 (Value.int (0 : Int32))).set (0 : Int32).toNatClampNeg (.int ((((p2.toUInt32 >>> ((24 : Int32) &&& 31).toUInt32).toInt32).toInt8.toInt32).toInt8.toInt32))).set (1 : Int32).toNatClampNeg (.int ((((p2.toUInt32 >>> ((16 : Int32) &&& 31).toUInt32).toInt32).toInt8.toInt32).toInt8.toInt32))).set (2 : Int32).toNatClampNeg (.int ((((p2.toUInt32 >>> ((8 : Int32) &&& 31).toUInt32).toInt32).toInt8.toInt32).toInt8.toInt32))).set (3 : Int32).toNatClampNeg (.int ((p2.toInt8.toInt32).toInt8.toInt32))).set (4 : Int32).toNatClampNeg (.int ((((p3.toUInt32 >>> ((24 : Int32) &&& 31).toUInt32).toInt32).toInt8.toInt32).toInt8.toInt32))).set (5 : Int32).toNatClampNeg (.int ((((p3.toUInt32 >>> ((16 : Int32) &&& 31).toUInt32).toInt32).toInt8.toInt32).toInt8.toInt32))).set (6 : Int32).toNatClampNeg (.int ((((p3.toUInt32 >>> ((8 : Int32) &&& 31).toUInt32).toInt32).toInt8.toInt32).toInt8.toInt32))).set (7 : Int32).toNatClampNeg (.int ((p3.toInt8.toInt32).toInt8.toInt32))).set (2 : Int32).toNatClampNeg (.int ((((p5.toUInt32 >>> ((24 : Int32) &&& 31).toUInt32).toInt32).toInt8.toInt32).toInt8.toInt32))).set (3 : Int32).toNatClampNeg (.int ((((p5.toUInt32 >>> ((16 : Int32) &&& 31).toUInt32).toInt32).toInt8.toInt32).toInt8.toInt32))).set (4 : Int32).toNatClampNeg (.int ((((p5.toUInt32 >>> ((8 : Int32) &&& 31).toUInt32).toInt32).toInt8.toInt32).toInt8.toInt32))).set (5 : Int32).toNatClampNeg (.int ((p5.toInt8.toInt32).toInt8.toInt32))) ((1 : Int32)).toNatClampNeg (.int (0 : Int32))) &&& (255 : Int32)) = (f_orig (1 : Int32) p2 p3)) ∧ (((own_at (((((((((((((List.replicate 16 (Value.int (0 : Int32))).set (0 : Int32).toNatClampNeg (.int ((((p2.toUInt32 >>> ((24 : Int32) &&& 31).toUInt32).toInt32).toInt8.toInt32).toInt8.toInt32))).set (1 : Int32).toNatClampNeg (.int ((((p2.toUInt32 >>> ((16 : Int32) &&& 31).toUInt32).toInt32).toInt8.toInt32).toInt8.toInt32))).set (2 : Int32).toNatClampNeg (.int ((((p2.toUInt32 >>> ((8 : Int32) &&& 31).toUInt32).toInt32).toInt8.toInt32).toInt8.toInt32))).set (3 : Int32).toNatClampNeg (.int ((p2.toInt8.toInt32).toInt8.toInt32))).set (4 : Int32).toNatClampNeg (.int ((((p3.toUInt32 >>> ((24 : Int32) &&& 31).toUInt32).toInt32).toInt8.toInt32).toInt8.toInt32))).set (5 : Int32).toNatClampNeg (.int ((((p3.toUInt32 >>> ((16 : Int32) &&& 31).toUInt32).toInt32).toInt8.toInt32).toInt8.toInt32))).set (6 : Int32).toNatClampNeg (.int ((((p3.toUInt32 >>> ((8 : Int32) &&& 31).toUInt32).toInt32).toInt8.toInt32).toInt8.toInt32))).set (7 : Int32).toNatClampNeg (.int ((p3.toInt8.toInt32).toInt8.toInt32))).set (2 : Int32).toNatClampNeg (.int ((((p5.toUInt32 >>> ((24 : Int32) &&& 31).toUInt32).toInt32).toInt8.toInt32).toInt8.toInt32))).set (3 : Int32).toNatClampNeg (.int ((((p5.toUInt32 >>> ((16 : Int32) &&& 31).toUInt32).toInt32).toInt8.toInt32).toInt8.toInt32))).set (4 : Int32).toNatClampNeg (.int ((((p5.toUInt32 >>> ((8 : Int32) &&& 31).toUInt32).toInt32).toInt8.toInt32).toInt8.toInt32))).set (5 : Int32).toNatClampNeg (.int ((p5.toInt8.toInt32).toInt8.toInt32))) ((2 : Int32)).toNatClampNeg (.int (0 : Int32))) &&& (255 : Int32)) = ((p5 >>> ((24 : Int32) &&& 31)) &&& (255 : Int32))) ∧ (((own_at (((((((((((((List.replicate 16 (Value.int (0 : Int32))).set (0 : Int32).toNatClampNeg (.int ((((p2.toUInt32 >>> ((24 : Int32) &&& 31).toUInt32).toInt32).toInt8.toInt32).toInt8.toInt32))).set (1 : Int32).toNatClampNeg (.int ((((p2.toUInt32 >>> ((16 : Int32) &&& 31).toUInt32).toInt32).toInt8.toInt32).toInt8.toInt32))).set (2 : Int32).toNatClampNeg (.int ((((p2.toUInt32 >>> ((8 : Int32) &&& 31).toUInt32).toInt32).toInt8.toInt32).toInt8.toInt32))).set (3 : Int32).toNatClampNeg (.int ((p2.toInt8.toInt32).toInt8.toInt32))).set (4 : Int32).toNatClampNeg (.int ((((p3.toUInt32 >>> ((24 : Int32) &&& 31).toUInt32).toInt32).toInt8.toInt32).toInt8.toInt32))).set (5 : Int32).toNatClampNeg (.int ((((p3.toUInt32 >>> ((16 : Int32) &&& 31).toUInt32).toInt32).toInt8.toInt32).toInt8.toInt32))).set (6 : Int32).toNatClampNeg (.int ((((p3.toUInt32 >>> ((8 : Int32) &&& 31).toUInt32).toInt32).toInt8.toInt32).toInt8.toInt32))).set (7 : Int32).toNatClampNeg (.int ((p3.toInt8.toInt32).toInt8.toInt32))).set (2 : Int32).toNatClampNeg (.int ((((p5.toUInt32 >>> ((24 : Int32) &&& 31).toUInt32).toInt32).toInt8.toInt32).toInt8.toInt32))).set (3 : Int32).toNatClampNeg (.int ((((p5.toUInt32 >>> ((16 : Int32) &&& 31).toUInt32).toInt32).toInt8.toInt32).toInt8.toInt32))).set (4 : Int32).toNatClampNeg (.int ((((p5.toUInt32 >>> ((8 : Int32) &&& 31).toUInt32).toInt32).toInt8.toInt32).toInt8.toInt32))).set (5 : Int32).toNatClampNeg (.int ((p5.toInt8.toInt32).toInt8.toInt32))) ((3 : Int32)).toNatClampNeg (.int (0 : Int32))) &&& (255 : Int32)) = ((p5 >>> ((16 : Int32) &&& 31)) &&& (255 : Int32))) ∧ (((own_at (((((((((((((List.replicate 16 (Value.int (0 : Int32))).set (0 : Int32).toNatClampNeg (.int ((((p2.toUInt32 >>> ((24 : Int32) &&& 31).toUInt32).toInt32).toInt8.toInt32).toInt8.toInt32))).set (1 : Int32).toNatClampNeg (.int ((((p2.toUInt32 >>> ((16 : Int32) &&& 31).toUInt32).toInt32).toInt8.toInt32).toInt8.toInt32))).set (2 : Int32).toNatClampNeg (.int ((((p2.toUInt32 >>> ((8 : Int32) &&& 31).toUInt32).toInt32).toInt8.toInt32).toInt8.toInt32))).set (3 : Int32).toNatClampNeg (.int ((p2.toInt8.toInt32).toInt8.toInt32))).set (4 : Int32).toNatClampNeg (.int ((((p3.toUInt32 >>> ((24 : Int32) &&& 31).toUInt32).toInt32).toInt8.toInt32).toInt8.toInt32))).set (5 : Int32).toNatClampNeg (.int ((((p3.toUInt32 >>> ((16 : Int32) &&& 31).toUInt32).toInt32).toInt8.toInt32).toInt8.toInt32))).set (6 : Int32).toNatClampNeg (.int ((((p3.toUInt32 >>> ((8 : Int32) &&& 31).toUInt32).toInt32).toInt8.toInt32).toInt8.toInt32))).set (7 : Int32).toNatClampNeg (.int ((p3.toInt8.toInt32).toInt8.toInt32))).set (2 : Int32).toNatClampNeg (.int ((((p5.toUInt32 >>> ((24 : Int32) &&& 31).toUInt32).toInt32).toInt8.toInt32).toInt8.toInt32))).set (3 : Int32).toNatClampNeg (.int ((((p5.toUInt32 >>> ((16 : Int32) &&& 31).toUInt32).toInt32).toInt8.toInt32).toInt8.toInt32))).set (4 : Int32).toNatClampNeg (.int ((((p5.toUInt32 >>> ((8 : Int32) &&& 31).toUInt32).toInt32).toInt8.toInt32).toInt8.toInt32))).set (5 : Int32).toNatClampNeg (.int ((p5.toInt8.toInt32).toInt8.toInt32))) ((4 : Int32)).toNatClampNeg (.int (0 : Int32))) &&& (255 : Int32)) = ((p5 >>> ((8 : Int32) &&& 31)) &&& (255 : Int32))) ∧ (((own_at (((((((((((((List.replicate 16 (Value.int (0 : Int32))).set (0 : Int32).toNatClampNeg (.int ((((p2.toUInt32 >>> ((24 : Int32) &&& 31).toUInt32).toInt32).toInt8.toInt32).toInt8.toInt32))).set (1 : Int32).toNatClampNeg (.int ((((p2.toUInt32 >>> ((16 : Int32) &&& 31).toUInt32).toInt32).toInt8.toInt32).toInt8.toInt32))).set (2 : Int32).toNatClampNeg (.int ((((p2.toUInt32 >>> ((8 : Int32) &&& 31).toUInt32).toInt32).toInt8.toInt32).toInt8.toInt32))).set (3 : Int32).toNatClampNeg (.int ((p2.toInt8.toInt32).toInt8.toInt32))).set (4 : Int32).toNatClampNeg (.int ((((p3.toUInt32 >>> ((24 : Int32) &&& 31).toUInt32).toInt32).toInt8.toInt32).toInt8.toInt32))).set (5 : Int32).toNatClampNeg (.int ((((p3.toUInt32 >>> ((16 : Int32) &&& 31).toUInt32).toInt32).toInt8.toInt32).toInt8.toInt32))).set (6 : Int32).toNatClampNeg (.int ((((p3.toUInt32 >>> ((8 : Int32) &&& 31).toUInt32).toInt32).toInt8.toInt32).toInt8.toInt32))).set (7 : Int32).toNatClampNeg (.int ((p3.toInt8.toInt32).toInt8.toInt32))).set (2 : Int32).toNatClampNeg (.int ((((p5.toUInt32 >>> ((24 : Int32) &&& 31).toUInt32).toInt32).toInt8.toInt32).toInt8.toInt32))).set (3 : Int32).toNatClampNeg (.int ((((p5.toUInt32 >>> ((16 : Int32) &&& 31).toUInt32).toInt32).toInt8.toInt32).toInt8.toInt32))).set (4 : Int32).toNatClampNeg (.int ((((p5.toUInt32 >>> ((8 : Int32) &&& 31).toUInt32).toInt32).toInt8.toInt32).toInt8.toInt32))).set (5 : Int32).toNatClampNeg (.int ((p5.toInt8.toInt32).toInt8.toInt32))) ((5 : Int32)).toNatClampNeg (.int (0 : Int32))) &&& (255 : Int32)) = ((p5 >>> ((0 : Int32) &&& 31)) &&& (255 : Int32))) ∧ (((own_at (((((((((((((List.replicate 16 (Value.int (0 : Int32))).set (0 : Int32).toNatClampNeg (.int ((((p2.toUInt32 >>> ((24 : Int32) &&& 31).toUInt32).toInt32).toInt8.toInt32).toInt8.toInt32))).set (1 : Int32).toNatClampNeg (.int ((((p2.toUInt32 >>> ((16 : Int32) &&& 31).toUInt32).toInt32).toInt8.toInt32).toInt8.toInt32))).set (2 : Int32).toNatClampNeg (.int ((((p2.toUInt32 >>> ((8 : Int32) &&& 31).toUInt32).toInt32).toInt8.toInt32).toInt8.toInt32))).set (3 : Int32).toNatClampNeg (.int ((p2.toInt8.toInt32).toInt8.toInt32))).set (4 : Int32).toNatClampNeg (.int ((((p3.toUInt32 >>> ((24 : Int32) &&& 31).toUInt32).toInt32).toInt8.toInt32).toInt8.toInt32))).set (5 : Int32).toNatClampNeg (.int ((((p3.toUInt32 >>> ((16 : Int32) &&& 31).toUInt32).toInt32).toInt8.toInt32).toInt8.toInt32))).set (6 : Int32).toNatClampNeg (.int ((((p3.toUInt32 >>> ((8 : Int32) &&& 31).toUInt32).toInt32).toInt8.toInt32).toInt8.toInt32))).set (7 : Int32).toNatClampNeg (.int ((p3.toInt8.toInt32).toInt8.toInt32))).set (2 : Int32).toNatClampNeg (.int ((((p5.toUInt32 >>> ((24 : Int32) &&& 31).toUInt32).toInt32).toInt8.toInt32).toInt8.toInt32))).set (3 : Int32).toNatClampNeg (.int ((((p5.toUInt32 >>> ((16 : Int32) &&& 31).toUInt32).toInt32).toInt8.toInt32).toInt8.toInt32))).set (4 : Int32).toNatClampNeg (.int ((((p5.toUInt32 >>> ((8 : Int32) &&& 31).toUInt32).toInt32).toInt8.toInt32).toInt8.toInt32))).set (5 : Int32).toNatClampNeg (.int ((p5.toInt8.toInt32).toInt8.toInt32))) ((6 : Int32)).toNatClampNeg (.int (0 : Int32))) &&& (255 : Int32)) = (f_orig (6 : Int32) p2 p3)) ∧ (((own_at (((((((((((((List.replicate 16 (Value.int (0 : Int32))).set (0 : Int32).toNatClampNeg (.int ((((p2.toUInt32 >>> ((24 : Int32) &&& 31).toUInt32).toInt32).toInt8.toInt32).toInt8.toInt32))).set (1 : Int32).toNatClampNeg (.int ((((p2.toUInt32 >>> ((16 : Int32) &&& 31).toUInt32).toInt32).toInt8.toInt32).toInt8.toInt32))).set (2 : Int32).toNatClampNeg (.int ((((p2.toUInt32 >>> ((8 : Int32) &&& 31).toUInt32).toInt32).toInt8.toInt32).toInt8.toInt32))).set (3 : Int32).toNatClampNeg (.int ((p2.toInt8.toInt32).toInt8.toInt32))).set (4 : Int32).toNatClampNeg (.int ((((p3.toUInt32 >>> ((24 : Int32) &&& 31).toUInt32).toInt32).toInt8.toInt32).toInt8.toInt32))).set (5 : Int32).toNatClampNeg (.int ((((p3.toUInt32 >>> ((16 : Int32) &&& 31).toUInt32).toInt32).toInt8.toInt32).toInt8.toInt32))).set (6 : Int32).toNatClampNeg (.int ((((p3.toUInt32 >>> ((8 : Int32) &&& 31).toUInt32).toInt32).toInt8.toInt32).toInt8.toInt32))).set (7 : Int32).toNatClampNeg (.int ((p3.toInt8.toInt32).toInt8.toInt32))).set (2 : Int32).toNatClampNeg (.int ((((p5.toUInt32 >>> ((24 : Int32) &&& 31).toUInt32).toInt32).toInt8.toInt32).toInt8.toInt32))).set (3 : Int32).toNatClampNeg (.int ((((p5.toUInt32 >>> ((16 : Int32) &&& 31).toUInt32).toInt32).toInt8.toInt32).toInt8.toInt32))).set (4 : Int32).toNatClampNeg (.int ((((p5.toUInt32 >>> ((8 : Int32) &&& 31).toUInt32).toInt32).toInt8.toInt32).toInt8.toInt32))).set (5 : Int32).toNatClampNeg (.int ((p5.toInt8.toInt32).toInt8.toInt32))) ((7 : Int32)).toNatClampNeg (.int (0 : Int32))) &&& (255 : Int32)) = (f_orig (7 : Int32) p2 p3))
set_option maxRecDepth 65536 in
set_option maxHeartbeats 40000000 in
theorem rm_law_at2 (l : Launch) (Z : State) (a0 : Array Value) (hw : ∀ d ∈ tables_1, d.before a0 Z = true) (ws : List Jvm.Cond) (p1 : Int32) (p2 : Int32) (p3 : Int32) (p4 : Int32) (p5 : Int32) (h0 : Heap) (n0 : Nat) (Z0 : n0 ≤ h0.size) (hroad : Road_at2 p1 p2 p3 p4 p5) :
    MetFree l x (head1 (Jvm.Cond.code x code maxLocals ret :: ws) room_1) (fun a U => a = #[(.int p1), (.int p2), (.int p3), (.int p4), (.int p5)] ∧ Z.Warmed39 U.vm ∧ U.heap = h0) (fun _ _ _ _ _ => True) (fun _ U o U' => ∃ v L, o = .returned v ∧ Q_law Z p1 p2 p3 p4 p5 h0 n0 v U'.heap L ∧ FrameEnd U o U' L room_1.cells room_1.slots) := by
  obtain ⟨hp0, hp1, hp2, hw_5, hp7, hp8, hp9, hp10, hp11, hp12, hp13, hp14⟩ := hroad
  refine MetFree.of_bodySF (plainFor_of_name pn_com_example_herald_herald_bytecode_BytesPutU4PinLaw) hisR ?_
  intro p e s m args below meth c s₁ Bd hml0 hP hK
  obtain ⟨rfl, hZ, hh⟩ := hP
  have hx := Bd.exec
  have hby := Bd.bytes
  have hml : c.maxLocals = 8 := hml0
  have hown : s.vm.findClass "com/example/herald/herald/bytecode/BytesPutU4PinLaw" = some m.cls := findClass_of_methodNamed Bd.named
  have hnm := (name_of_methodNamed Bd.named Bd.method).1
  have X0 : Stand p l e room_1 s m #[(.int p1), (.int p2), (.int p3), (.int p4), (.int p5)] below meth c s₁ [] 0 0 := Stand.of_body Bd
  have e0 : s₁.heap = h0 := by rw [← hh, Bd.state]; rfl
  have N0 := Fr.nil n0
  have pre0 : ∀ t, Steps p.tables e below (s₁.setTop (mkF m 0 #[.val (.int p1), .val (.int p2), .val (.int p3), .val (.int p4), .val (.int p5), .unset, .unset, .unset] [])) t → Steps p.tables e below (s₁.setTop (entryFrame m #[(.int p1), (.int p2), (.int p3), (.int p4), (.int p5)] maxLocals)) t := fun t k => castTop (ef_0_IIIII m p1 p2 p3 p4 p5) k
  obtain ⟨T1, h1, X1, e1, E1, A1, D1, -, st1⟩ := newO X0 hx hZ hown (hw _ (List.mem_of_getElem? (i := 0) rfl)) (hw _ (List.mem_of_getElem? (i := 1) rfl)) (hw _ (List.mem_of_getElem? (i := 2) rfl)) e0 (g := (mkF m 0 #[.val (.int p1), .val (.int p2), .val (.int p3), .val (.int p4), .val (.int p5), .unset, .unset, .unset] [])) rfl (hb hby at_0) (by decide) (by decide)
  obtain ⟨b1, g1⟩ : ∃ z, z = h0.size := ⟨_, rfl⟩
  rw [← g1] at A1 D1 st1
  have g_b1 : n0 ≤ b1 := Nat.le_trans Z0 (Nat.le_of_eq g1.symm)
  have Zs2 : n0 ≤ h1.size := Nat.le_trans Z0 E1.1
  have f3 : Fld Z h1 b1 "com/example/herald/herald/bytecode/Bytes" "bytes" "[B" .null := D1 (Or.inl (hw _ (List.mem_of_getElem? (i := 11) rfl))) (ty := (.array .byte)) (by decide)
  have f4 : Fld Z h1 b1 "com/example/herald/herald/bytecode/Bytes" "length" "I" (.int (0 : Int32)) := D1 (Or.inl (hw _ (List.mem_of_getElem? (i := 22) rfl))) (ty := .int) (by decide)
  obtain ⟨_, _, ⟨T5, L5, k5, n5⟩, -, X5, ⟨Lc5, hQ5, l5, y5, z5⟩, st5⟩ := X1.specialBack hx (y := (⟨"com/example/herald/herald/bytecode/Bytes", "<init>", "(I)V"⟩ : MethodName)) rfl hown (mvT hZ (hw _ (List.mem_of_getElem? (i := 3) rfl))) (mvT hZ (hw _ (List.mem_of_getElem? (i := 4) rfl))) (mvT hZ (hw _ (List.mem_of_getElem? (i := 5) rfl))) (by decide) (backOf (W := 1) (rm_init l Z a0 hw [] b1 (p1 &&& (15 : Int32)) h1 n0 Zs2 A1 f3 g_b1 f4 hp0 hp1) hZ (hw _ (List.mem_of_getElem? (i := 5) rfl)) (hw _ (List.mem_of_getElem? (i := 2) rfl)) (by decide) (by decide)) (g := (mkF m 8 #[.val (.int p1), .val (.int p2), .val (.int p3), .val (.int p4), .val (.int p5), .unset, .unset, .unset] [(.int (p1 &&& (15 : Int32))), (.ref b1), (.ref b1)])) rfl (by rw [hml]; rfl) (Steps.refl _) (a := b1) (argsL := [(.int (p1 &&& (15 : Int32)))]) (rest := [(.ref b1)]) (lenOf pd_2 rfl) rfl (by show 2 * 0 + _ ≤ _; exact Nat.le_of_eq rfl) (hb hby at_8) (fun _ _ => ⟨rfl, e1, (by decide : 1 + 1 ≤ _), (by decide : 2 + 15 ≤ _)⟩)
  dsimp only [Pt.U, Pt.locs, Pt.cells, Pt.slots] at X5 l5 y5 z5 st5 hQ5
  subst l5 y5 z5
  obtain ⟨b5_1, k5_2, rfl, Nq5, g_b5_1, szq_b5_1, Kc5, fq5_0, fq5_1, fq5_2, fq5_3, fq5_4⟩ := hQ5
  have ne_b1_b5_1 : b1 ≠ b5_1 := Nat.ne_of_lt (Nat.lt_of_lt_of_le A1.lt szq_b5_1)
  have f7 : Fld Z T5.heap b1 "com/example/herald/herald/bytecode/Bytes" "bytes" "[B" (.ref b5_1) := fq5_1
  have f8 : Fld Z T5.heap b1 "com/example/herald/herald/bytecode/Bytes" "length" "I" (.int (0 : Int32)) := fq5_2
  have f9 : Arv Z T5.heap b5_1 k5_2 .byte (p1 &&& (15 : Int32)) (List.replicate 16 (Value.int (0 : Int32))) (.int (0 : Int32)) := fq5_4
  have Zs10 : n0 ≤ T5.heap.size := Nat.le_trans Zs2 Kc5.1
  have N6 := Fr.app N0 Nq5
  obtain ⟨cq11, kq11, q11a, q11b, q11c⟩ := isOf hZ rfl fq5_0
  obtain ⟨_, _, ⟨T11, L11, k11, n11⟩, -, X11, ⟨Lc11, hQ11, l11, y11, z11⟩, st11⟩ := X5.virtualBack hx (y := (⟨"com/example/herald/herald/bytecode/Bytes", "u4", "(I)V"⟩ : MethodName)) (z := (⟨"com/example/herald/herald/bytecode/Bytes", "u4", "(I)V"⟩ : MethodName)) hown (mvT hZ (hw _ (List.mem_of_getElem? (i := 12) rfl))) (mvT hZ (hw _ (List.mem_of_getElem? (i := 13) rfl))) (notFace_of_selects (args := #[]) (mvT hZ (hw _ (List.mem_of_getElem? (i := 15) rfl)))) (mvT hZ (hw _ (List.mem_of_getElem? (i := 15) rfl))) (mvT hZ (hw _ (List.mem_of_getElem? (i := 14) rfl))) (by decide) (backOf (W := 0) (rm_u4 l Z a0 hw [] b1 p2 b5_1 k5_2 (p1 &&& (15 : Int32)) (List.replicate 16 (Value.int (0 : Int32))) (0 : Int32) T5.heap n0 Zs10 f7 fq5_3 f9 f8 fq5_0 g_b1 g_b5_1 hp2 (by decide)) hZ (hw _ (List.mem_of_getElem? (i := 16) rfl)) (hw _ (List.mem_of_getElem? (i := 2) rfl)) (by decide) (by decide)) q11a q11c (g := (mkF m 16 #[.val (.int p1), .val (.int p2), .val (.int p3), .val (.int p4), .val (.int p5), .val (.ref b1), .unset, .unset] [(.int p2), (.ref b1)])) rfl (by rw [hml]; rfl) (Steps.refl _) (argsL := [(.int p2)]) (rest := []) (lenOf pd_2 rfl) rfl (by show 2 * 0 + _ ≤ _; exact Nat.le_of_eq rfl) (hb hby at_16) (fun _ _ => ⟨rfl, rfl, (by decide : 2 + 1 ≤ _), (by decide : 17 + 14 ≤ _)⟩)
  dsimp only [Pt.U, Pt.locs, Pt.cells, Pt.slots] at X11 l11 y11 z11 st11 hQ11
  subst l11 y11 z11
  obtain ⟨b11_1, k11_2, i11_3, rfl, Nq11, g_b11_1, hq11_0, Kc11, fq11_0, fq11_1, fq11_2, fq11_3, fq11_4⟩ := hQ11
  have f13 : Exa Z T11.heap b5_1 "[B" := fq5_3.keep Kc11
  have f14 : Fld Z T11.heap b1 "com/example/herald/herald/bytecode/Bytes" "bytes" "[B" (.ref b11_1) := fq11_1
  have f15 : Fld Z T11.heap b1 "com/example/herald/herald/bytecode/Bytes" "length" "I" (.int (4 : Int32)) := fq11_2
  have f16 : Arv Z T11.heap b11_1 k11_2 .byte i11_3 (((((List.replicate 16 (Value.int (0 : Int32))).set (0 : Int32).toNatClampNeg (.int ((((p2.toUInt32 >>> ((24 : Int32) &&& 31).toUInt32).toInt32).toInt8.toInt32).toInt8.toInt32))).set (1 : Int32).toNatClampNeg (.int ((((p2.toUInt32 >>> ((16 : Int32) &&& 31).toUInt32).toInt32).toInt8.toInt32).toInt8.toInt32))).set (2 : Int32).toNatClampNeg (.int ((((p2.toUInt32 >>> ((8 : Int32) &&& 31).toUInt32).toInt32).toInt8.toInt32).toInt8.toInt32))).set (3 : Int32).toNatClampNeg (.int ((p2.toInt8.toInt32).toInt8.toInt32))) (.int (0 : Int32)) := fq11_4
  have Zs17 : n0 ≤ T11.heap.size := Nat.le_trans Zs10 Kc11.1
  have N12 := Fr.app N6 Nq11
  obtain ⟨cq18, kq18, q18a, q18b, q18c⟩ := isOf hZ rfl fq11_0
  obtain ⟨_, _, ⟨T18, L18, k18, n18⟩, -, X18, ⟨Lc18, hQ18, l18, y18, z18⟩, st18⟩ := X11.virtualBack hx (y := (⟨"com/example/herald/herald/bytecode/Bytes", "u4", "(I)V"⟩ : MethodName)) (z := (⟨"com/example/herald/herald/bytecode/Bytes", "u4", "(I)V"⟩ : MethodName)) hown (mvT hZ (hw _ (List.mem_of_getElem? (i := 12) rfl))) (mvT hZ (hw _ (List.mem_of_getElem? (i := 13) rfl))) (notFace_of_selects (args := #[]) (mvT hZ (hw _ (List.mem_of_getElem? (i := 15) rfl)))) (mvT hZ (hw _ (List.mem_of_getElem? (i := 15) rfl))) (mvT hZ (hw _ (List.mem_of_getElem? (i := 14) rfl))) (by decide) (backOf (W := 0) (rm_u4 l Z a0 hw [] b1 p3 b11_1 k11_2 i11_3 (((((List.replicate 16 (Value.int (0 : Int32))).set (0 : Int32).toNatClampNeg (.int ((((p2.toUInt32 >>> ((24 : Int32) &&& 31).toUInt32).toInt32).toInt8.toInt32).toInt8.toInt32))).set (1 : Int32).toNatClampNeg (.int ((((p2.toUInt32 >>> ((16 : Int32) &&& 31).toUInt32).toInt32).toInt8.toInt32).toInt8.toInt32))).set (2 : Int32).toNatClampNeg (.int ((((p2.toUInt32 >>> ((8 : Int32) &&& 31).toUInt32).toInt32).toInt8.toInt32).toInt8.toInt32))).set (3 : Int32).toNatClampNeg (.int ((p2.toInt8.toInt32).toInt8.toInt32))) (4 : Int32) T11.heap n0 Zs17 f14 fq11_3 f16 f15 fq11_0 g_b1 g_b11_1 hq11_0 (by decide)) hZ (hw _ (List.mem_of_getElem? (i := 16) rfl)) (hw _ (List.mem_of_getElem? (i := 2) rfl)) (by decide) (by decide)) q18a q18c (g := (mkF m 22 #[.val (.int p1), .val (.int p2), .val (.int p3), .val (.int p4), .val (.int p5), .val (.ref b1), .unset, .unset] [(.int p3), (.ref b1)])) rfl (by rw [hml]; rfl) (Steps.refl _) (argsL := [(.int p3)]) (rest := []) (lenOf pd_2 rfl) rfl (by show 2 * 0 + _ ≤ _; exact Nat.le_of_eq rfl) (hb hby at_22) (fun _ _ => ⟨rfl, rfl, (by decide : 3 + 1 ≤ _), (by decide : 31 + 14 ≤ _)⟩)
  dsimp only [Pt.U, Pt.locs, Pt.cells, Pt.slots] at X18 l18 y18 z18 st18 hQ18
  subst l18 y18 z18
  obtain ⟨b18_1, k18_2, i18_3, rfl, Nq18, g_b18_1, hq18_0, Kc18, fq18_0, fq18_1, fq18_2, fq18_3, fq18_4⟩ := hQ18
  have ne_b1_b11_1 : b1 ≠ b11_1 := ne_exa fq11_0 fq11_3 (by decide)
  have f20 : Exa Z T18.heap b5_1 "[B" := f13.keep Kc18
  have f21 : Exa Z T18.heap b11_1 "[B" := fq11_3.keep Kc18
  have f22 : Fld Z T18.heap b1 "com/example/herald/herald/bytecode/Bytes" "bytes" "[B" (.ref b18_1) := fq18_1
  have f23 : Fld Z T18.heap b1 "com/example/herald/herald/bytecode/Bytes" "length" "I" (.int (8 : Int32)) := fq18_2
  have f24 : Arv Z T18.heap b18_1 k18_2 .byte i18_3 (((((((((List.replicate 16 (Value.int (0 : Int32))).set (0 : Int32).toNatClampNeg (.int ((((p2.toUInt32 >>> ((24 : Int32) &&& 31).toUInt32).toInt32).toInt8.toInt32).toInt8.toInt32))).set (1 : Int32).toNatClampNeg (.int ((((p2.toUInt32 >>> ((16 : Int32) &&& 31).toUInt32).toInt32).toInt8.toInt32).toInt8.toInt32))).set (2 : Int32).toNatClampNeg (.int ((((p2.toUInt32 >>> ((8 : Int32) &&& 31).toUInt32).toInt32).toInt8.toInt32).toInt8.toInt32))).set (3 : Int32).toNatClampNeg (.int ((p2.toInt8.toInt32).toInt8.toInt32))).set (4 : Int32).toNatClampNeg (.int ((((p3.toUInt32 >>> ((24 : Int32) &&& 31).toUInt32).toInt32).toInt8.toInt32).toInt8.toInt32))).set (5 : Int32).toNatClampNeg (.int ((((p3.toUInt32 >>> ((16 : Int32) &&& 31).toUInt32).toInt32).toInt8.toInt32).toInt8.toInt32))).set (6 : Int32).toNatClampNeg (.int ((((p3.toUInt32 >>> ((8 : Int32) &&& 31).toUInt32).toInt32).toInt8.toInt32).toInt8.toInt32))).set (7 : Int32).toNatClampNeg (.int ((p3.toInt8.toInt32).toInt8.toInt32))) (.int (0 : Int32)) := fq18_4
  have Zs25 : n0 ≤ T18.heap.size := Nat.le_trans Zs17 Kc18.1
  have N19 := Fr.app N12 Nq18
  obtain ⟨cq26, kq26, q26a, q26b, q26c⟩ := isOf hZ rfl fq18_0
  obtain ⟨_, _, ⟨T26, L26, k26, n26⟩, -, X26, ⟨Lc26, hQ26, l26, y26, z26⟩, st26⟩ := X18.virtualBack hx (y := (⟨"com/example/herald/herald/bytecode/Bytes", "putU4", "(II)V"⟩ : MethodName)) (z := (⟨"com/example/herald/herald/bytecode/Bytes", "putU4", "(II)V"⟩ : MethodName)) hown (mvT hZ (hw _ (List.mem_of_getElem? (i := 39) rfl))) (mvT hZ (hw _ (List.mem_of_getElem? (i := 40) rfl))) (notFace_of_selects (args := #[]) (mvT hZ (hw _ (List.mem_of_getElem? (i := 42) rfl)))) (mvT hZ (hw _ (List.mem_of_getElem? (i := 42) rfl))) (mvT hZ (hw _ (List.mem_of_getElem? (i := 41) rfl))) (by decide) (backOf (W := 0) (rm_put l Z a0 hw [] b1 (2 : Int32) p5 b18_1 k18_2 i18_3 (((((((((List.replicate 16 (Value.int (0 : Int32))).set (0 : Int32).toNatClampNeg (.int ((((p2.toUInt32 >>> ((24 : Int32) &&& 31).toUInt32).toInt32).toInt8.toInt32).toInt8.toInt32))).set (1 : Int32).toNatClampNeg (.int ((((p2.toUInt32 >>> ((16 : Int32) &&& 31).toUInt32).toInt32).toInt8.toInt32).toInt8.toInt32))).set (2 : Int32).toNatClampNeg (.int ((((p2.toUInt32 >>> ((8 : Int32) &&& 31).toUInt32).toInt32).toInt8.toInt32).toInt8.toInt32))).set (3 : Int32).toNatClampNeg (.int ((p2.toInt8.toInt32).toInt8.toInt32))).set (4 : Int32).toNatClampNeg (.int ((((p3.toUInt32 >>> ((24 : Int32) &&& 31).toUInt32).toInt32).toInt8.toInt32).toInt8.toInt32))).set (5 : Int32).toNatClampNeg (.int ((((p3.toUInt32 >>> ((16 : Int32) &&& 31).toUInt32).toInt32).toInt8.toInt32).toInt8.toInt32))).set (6 : Int32).toNatClampNeg (.int ((((p3.toUInt32 >>> ((8 : Int32) &&& 31).toUInt32).toInt32).toInt8.toInt32).toInt8.toInt32))).set (7 : Int32).toNatClampNeg (.int ((p3.toInt8.toInt32).toInt8.toInt32))) T18.heap n0 Zs25 f22 fq18_3 f24 fq18_0 g_b1 g_b18_1 hq18_0 (by decide) (by decide)) hZ (hw _ (List.mem_of_getElem? (i := 43) rfl)) (hw _ (List.mem_of_getElem? (i := 2) rfl)) (by decide) (by decide)) q26a q26c (g := (mkF m 39 #[.val (.int p1), .val (.int p2), .val (.int p3), .val (.int p4), .val (.int p5), .val (.ref b1), .val (.int (2 : Int32)), .unset] [(.int p5), (.int (2 : Int32)), (.ref b1)])) rfl (by rw [hml]; rfl) (Steps.refl _) (argsL := [(.int (2 : Int32)), (.int p5)]) (rest := []) (lenOf pd_4 rfl) rfl (by show 2 * 0 + _ ≤ _; exact Nat.le_of_eq rfl) (hb hby at_39) (fun _ _ => ⟨rfl, rfl, (by decide : 4 + 0 ≤ _), (by decide : 45 + 0 ≤ _)⟩)
  dsimp only [Pt.U, Pt.locs, Pt.cells, Pt.slots] at X26 l26 y26 z26 st26 hQ26
  subst l26 y26 z26
  obtain ⟨rfl, Nq26, hq26_0, Kc26, fq26_0, fq26_1⟩ := hQ26
  have ne_b1_b18_1 : b1 ≠ b18_1 := ne_exa fq18_0 fq18_3 (by decide)
  have f28 : Exa Z T26.heap b1 "com/example/herald/herald/bytecode/Bytes" := fq18_0.keep Kc26
  have f29 : Fld Z T26.heap b1 "com/example/herald/herald/bytecode/Bytes" "bytes" "[B" (.ref b18_1) := f22.keep Kc26 (ninS ne_b1_b18_1 nin0)
  have f30 : Fld Z T26.heap b1 "com/example/herald/herald/bytecode/Bytes" "length" "I" (.int (8 : Int32)) := f23.keep Kc26 (ninS ne_b1_b18_1 nin0)
  have f31 : Exa Z T26.heap b5_1 "[B" := f20.keep Kc26
  have f32 : Exa Z T26.heap b11_1 "[B" := f21.keep Kc26
  have f33 : Arv Z T26.heap b18_1 k18_2 .byte i18_3 (((((((((((((List.replicate 16 (Value.int (0 : Int32))).set (0 : Int32).toNatClampNeg (.int ((((p2.toUInt32 >>> ((24 : Int32) &&& 31).toUInt32).toInt32).toInt8.toInt32).toInt8.toInt32))).set (1 : Int32).toNatClampNeg (.int ((((p2.toUInt32 >>> ((16 : Int32) &&& 31).toUInt32).toInt32).toInt8.toInt32).toInt8.toInt32))).set (2 : Int32).toNatClampNeg (.int ((((p2.toUInt32 >>> ((8 : Int32) &&& 31).toUInt32).toInt32).toInt8.toInt32).toInt8.toInt32))).set (3 : Int32).toNatClampNeg (.int ((p2.toInt8.toInt32).toInt8.toInt32))).set (4 : Int32).toNatClampNeg (.int ((((p3.toUInt32 >>> ((24 : Int32) &&& 31).toUInt32).toInt32).toInt8.toInt32).toInt8.toInt32))).set (5 : Int32).toNatClampNeg (.int ((((p3.toUInt32 >>> ((16 : Int32) &&& 31).toUInt32).toInt32).toInt8.toInt32).toInt8.toInt32))).set (6 : Int32).toNatClampNeg (.int ((((p3.toUInt32 >>> ((8 : Int32) &&& 31).toUInt32).toInt32).toInt8.toInt32).toInt8.toInt32))).set (7 : Int32).toNatClampNeg (.int ((p3.toInt8.toInt32).toInt8.toInt32))).set (2 : Int32).toNatClampNeg (.int ((((p5.toUInt32 >>> ((24 : Int32) &&& 31).toUInt32).toInt32).toInt8.toInt32).toInt8.toInt32))).set (3 : Int32).toNatClampNeg (.int ((((p5.toUInt32 >>> ((16 : Int32) &&& 31).toUInt32).toInt32).toInt8.toInt32).toInt8.toInt32))).set (4 : Int32).toNatClampNeg (.int ((((p5.toUInt32 >>> ((8 : Int32) &&& 31).toUInt32).toInt32).toInt8.toInt32).toInt8.toInt32))).set (5 : Int32).toNatClampNeg (.int ((p5.toInt8.toInt32).toInt8.toInt32))) (.int (0 : Int32)) := fq26_1
  have Zs34 : n0 ≤ T26.heap.size := Nat.le_trans Zs25 Kc26.1
  have N27 := Fr.app N19 Nq26
  obtain ⟨cq35, kq35, q35a, q35b, q35c⟩ := isOf hZ rfl f28
  obtain ⟨_, _, ⟨T35, L35, k35, n35⟩, -, X35, ⟨Lc35, hQ35, l35, y35, z35⟩, st35⟩ := X26.virtualBack hx (y := (⟨"com/example/herald/herald/bytecode/Bytes", "length", "()I"⟩ : MethodName)) (z := (⟨"com/example/herald/herald/bytecode/Bytes", "length", "()I"⟩ : MethodName)) hown (mvT hZ (hw _ (List.mem_of_getElem? (i := 44) rfl))) (mvT hZ (hw _ (List.mem_of_getElem? (i := 45) rfl))) (notFace_of_selects (args := #[]) (mvT hZ (hw _ (List.mem_of_getElem? (i := 47) rfl)))) (mvT hZ (hw _ (List.mem_of_getElem? (i := 47) rfl))) (mvT hZ (hw _ (List.mem_of_getElem? (i := 46) rfl))) (by decide) (backOf (W := 0) (rm_length l Z a0 hw [] b1 (8 : Int32) T26.heap n0 Zs34 f30) hZ (hw _ (List.mem_of_getElem? (i := 48) rfl)) (hw _ (List.mem_of_getElem? (i := 2) rfl)) (by decide) (by decide)) q35a q35c (g := (mkF m 44 #[.val (.int p1), .val (.int p2), .val (.int p3), .val (.int p4), .val (.int p5), .val (.ref b1), .val (.int (2 : Int32)), .unset] [(.ref b1)])) rfl (by rw [hml]; rfl) (Steps.refl _) (argsL := []) (rest := []) (lenOf pd_5 rfl) rfl (by show 2 * 0 + _ ≤ _; exact Nat.le_of_eq rfl) (hb hby at_44) (fun _ _ => ⟨rfl, rfl, (by decide : 4 + 0 ≤ _), (by decide : 45 + 0 ≤ _)⟩)
  dsimp only [Pt.U, Pt.locs, Pt.cells, Pt.slots] at X35 l35 y35 z35 st35 hQ35
  subst l35 y35 z35
  obtain ⟨rfl, Nq35, e35⟩ := hQ35
  have N36 := Fr.app N27 Nq35
  obtain ⟨cq37, kq37, q37a, q37b, q37c⟩ := isOf hZ e35 f28
  obtain ⟨_, _, ⟨T37, L37, k37, n37⟩, -, X37, ⟨Lc37, hQ37, l37, y37, z37⟩, st37⟩ := X35.virtualBack hx (y := (⟨"com/example/herald/herald/bytecode/Bytes", "toArray", "()[B"⟩ : MethodName)) (z := (⟨"com/example/herald/herald/bytecode/Bytes", "toArray", "()[B"⟩ : MethodName)) hown (mvT hZ (hw _ (List.mem_of_getElem? (i := 49) rfl))) (mvT hZ (hw _ (List.mem_of_getElem? (i := 50) rfl))) (notFace_of_selects (args := #[]) (mvT hZ (hw _ (List.mem_of_getElem? (i := 52) rfl)))) (mvT hZ (hw _ (List.mem_of_getElem? (i := 52) rfl))) (mvT hZ (hw _ (List.mem_of_getElem? (i := 51) rfl))) (by decide) (backOf (W := 0) (rm_arr l Z a0 hw [] b1 b18_1 k18_2 i18_3 (((((((((((((List.replicate 16 (Value.int (0 : Int32))).set (0 : Int32).toNatClampNeg (.int ((((p2.toUInt32 >>> ((24 : Int32) &&& 31).toUInt32).toInt32).toInt8.toInt32).toInt8.toInt32))).set (1 : Int32).toNatClampNeg (.int ((((p2.toUInt32 >>> ((16 : Int32) &&& 31).toUInt32).toInt32).toInt8.toInt32).toInt8.toInt32))).set (2 : Int32).toNatClampNeg (.int ((((p2.toUInt32 >>> ((8 : Int32) &&& 31).toUInt32).toInt32).toInt8.toInt32).toInt8.toInt32))).set (3 : Int32).toNatClampNeg (.int ((p2.toInt8.toInt32).toInt8.toInt32))).set (4 : Int32).toNatClampNeg (.int ((((p3.toUInt32 >>> ((24 : Int32) &&& 31).toUInt32).toInt32).toInt8.toInt32).toInt8.toInt32))).set (5 : Int32).toNatClampNeg (.int ((((p3.toUInt32 >>> ((16 : Int32) &&& 31).toUInt32).toInt32).toInt8.toInt32).toInt8.toInt32))).set (6 : Int32).toNatClampNeg (.int ((((p3.toUInt32 >>> ((8 : Int32) &&& 31).toUInt32).toInt32).toInt8.toInt32).toInt8.toInt32))).set (7 : Int32).toNatClampNeg (.int ((p3.toInt8.toInt32).toInt8.toInt32))).set (2 : Int32).toNatClampNeg (.int ((((p5.toUInt32 >>> ((24 : Int32) &&& 31).toUInt32).toInt32).toInt8.toInt32).toInt8.toInt32))).set (3 : Int32).toNatClampNeg (.int ((((p5.toUInt32 >>> ((16 : Int32) &&& 31).toUInt32).toInt32).toInt8.toInt32).toInt8.toInt32))).set (4 : Int32).toNatClampNeg (.int ((((p5.toUInt32 >>> ((8 : Int32) &&& 31).toUInt32).toInt32).toInt8.toInt32).toInt8.toInt32))).set (5 : Int32).toNatClampNeg (.int ((p5.toInt8.toInt32).toInt8.toInt32))) (8 : Int32) T26.heap n0 Zs34 f29 fq26_0 f33 f30 f28 hq26_0 (by decide)) hZ (hw _ (List.mem_of_getElem? (i := 53) rfl)) (hw _ (List.mem_of_getElem? (i := 2) rfl)) (by decide) (by decide)) q37a q37c (g := (mkF m 56 #[.val (.int p1), .val (.int p2), .val (.int p3), .val (.int p4), .val (.int p5), .val (.ref b1), .val (.int (2 : Int32)), .unset] [(.ref b1)])) rfl (by rw [hml]; rfl) (Steps.refl _) (argsL := []) (rest := []) (lenOf pd_6 rfl) rfl (by show 2 * 0 + _ ≤ _; exact Nat.le_of_eq rfl) (hb hby at_56) (fun _ _ => ⟨rfl, e35, (by decide : 4 + 1 ≤ _), (by decide : 45 + 8 ≤ _)⟩)
  dsimp only [Pt.U, Pt.locs, Pt.cells, Pt.slots] at X37 l37 y37 z37 st37 hQ37
  subst l37 y37 z37
  obtain ⟨b37_1, k37_2, rfl, Nq37, g_b37_1, szq_b37_1, Kc37, fq37_0, fq37_1⟩ := hQ37
  have ne_b1_b37_1 : b1 ≠ b37_1 := Nat.ne_of_lt (Nat.lt_of_lt_of_le f28.lt szq_b37_1)
  have ne_b5_1_b37_1 : b5_1 ≠ b37_1 := Nat.ne_of_lt (Nat.lt_of_lt_of_le f31.lt szq_b37_1)
  have ne_b11_1_b37_1 : b11_1 ≠ b37_1 := Nat.ne_of_lt (Nat.lt_of_lt_of_le f32.lt szq_b37_1)
  have ne_b18_1_b37_1 : b18_1 ≠ b37_1 := Nat.ne_of_lt (Nat.lt_of_lt_of_le fq26_0.lt szq_b37_1)
  have f39 : Exa Z T37.heap b1 "com/example/herald/herald/bytecode/Bytes" := f28.keep Kc37
  have f40 : Fld Z T37.heap b1 "com/example/herald/herald/bytecode/Bytes" "bytes" "[B" (.ref b18_1) := f29.keep Kc37 nin0
  have f41 : Fld Z T37.heap b1 "com/example/herald/herald/bytecode/Bytes" "length" "I" (.int (8 : Int32)) := f30.keep Kc37 nin0
  have f42 : Exa Z T37.heap b5_1 "[B" := f31.keep Kc37
  have f43 : Exa Z T37.heap b11_1 "[B" := f32.keep Kc37
  have f44 : Exa Z T37.heap b18_1 "[B" := fq26_0.keep Kc37
  have f45 : Arv Z T37.heap b18_1 k18_2 .byte i18_3 (((((((((((((List.replicate 16 (Value.int (0 : Int32))).set (0 : Int32).toNatClampNeg (.int ((((p2.toUInt32 >>> ((24 : Int32) &&& 31).toUInt32).toInt32).toInt8.toInt32).toInt8.toInt32))).set (1 : Int32).toNatClampNeg (.int ((((p2.toUInt32 >>> ((16 : Int32) &&& 31).toUInt32).toInt32).toInt8.toInt32).toInt8.toInt32))).set (2 : Int32).toNatClampNeg (.int ((((p2.toUInt32 >>> ((8 : Int32) &&& 31).toUInt32).toInt32).toInt8.toInt32).toInt8.toInt32))).set (3 : Int32).toNatClampNeg (.int ((p2.toInt8.toInt32).toInt8.toInt32))).set (4 : Int32).toNatClampNeg (.int ((((p3.toUInt32 >>> ((24 : Int32) &&& 31).toUInt32).toInt32).toInt8.toInt32).toInt8.toInt32))).set (5 : Int32).toNatClampNeg (.int ((((p3.toUInt32 >>> ((16 : Int32) &&& 31).toUInt32).toInt32).toInt8.toInt32).toInt8.toInt32))).set (6 : Int32).toNatClampNeg (.int ((((p3.toUInt32 >>> ((8 : Int32) &&& 31).toUInt32).toInt32).toInt8.toInt32).toInt8.toInt32))).set (7 : Int32).toNatClampNeg (.int ((p3.toInt8.toInt32).toInt8.toInt32))).set (2 : Int32).toNatClampNeg (.int ((((p5.toUInt32 >>> ((24 : Int32) &&& 31).toUInt32).toInt32).toInt8.toInt32).toInt8.toInt32))).set (3 : Int32).toNatClampNeg (.int ((((p5.toUInt32 >>> ((16 : Int32) &&& 31).toUInt32).toInt32).toInt8.toInt32).toInt8.toInt32))).set (4 : Int32).toNatClampNeg (.int ((((p5.toUInt32 >>> ((8 : Int32) &&& 31).toUInt32).toInt32).toInt8.toInt32).toInt8.toInt32))).set (5 : Int32).toNatClampNeg (.int ((p5.toInt8.toInt32).toInt8.toInt32))) (.int (0 : Int32)) := f33.keep Kc37 nin0
  have f46 : Arv Z T37.heap b37_1 k37_2 .byte (8 : Int32) (((((((((((((List.replicate 16 (Value.int (0 : Int32))).set (0 : Int32).toNatClampNeg (.int ((((p2.toUInt32 >>> ((24 : Int32) &&& 31).toUInt32).toInt32).toInt8.toInt32).toInt8.toInt32))).set (1 : Int32).toNatClampNeg (.int ((((p2.toUInt32 >>> ((16 : Int32) &&& 31).toUInt32).toInt32).toInt8.toInt32).toInt8.toInt32))).set (2 : Int32).toNatClampNeg (.int ((((p2.toUInt32 >>> ((8 : Int32) &&& 31).toUInt32).toInt32).toInt8.toInt32).toInt8.toInt32))).set (3 : Int32).toNatClampNeg (.int ((p2.toInt8.toInt32).toInt8.toInt32))).set (4 : Int32).toNatClampNeg (.int ((((p3.toUInt32 >>> ((24 : Int32) &&& 31).toUInt32).toInt32).toInt8.toInt32).toInt8.toInt32))).set (5 : Int32).toNatClampNeg (.int ((((p3.toUInt32 >>> ((16 : Int32) &&& 31).toUInt32).toInt32).toInt8.toInt32).toInt8.toInt32))).set (6 : Int32).toNatClampNeg (.int ((((p3.toUInt32 >>> ((8 : Int32) &&& 31).toUInt32).toInt32).toInt8.toInt32).toInt8.toInt32))).set (7 : Int32).toNatClampNeg (.int ((p3.toInt8.toInt32).toInt8.toInt32))).set (2 : Int32).toNatClampNeg (.int ((((p5.toUInt32 >>> ((24 : Int32) &&& 31).toUInt32).toInt32).toInt8.toInt32).toInt8.toInt32))).set (3 : Int32).toNatClampNeg (.int ((((p5.toUInt32 >>> ((16 : Int32) &&& 31).toUInt32).toInt32).toInt8.toInt32).toInt8.toInt32))).set (4 : Int32).toNatClampNeg (.int ((((p5.toUInt32 >>> ((8 : Int32) &&& 31).toUInt32).toInt32).toInt8.toInt32).toInt8.toInt32))).set (5 : Int32).toNatClampNeg (.int ((p5.toInt8.toInt32).toInt8.toInt32))) (.int (0 : Int32)) := fq37_1
  have Zs47 : n0 ≤ T37.heap.size := Nat.le_trans Zs34 Kc37.1
  have N38 := Fr.app N36 Nq37
  obtain ⟨clo48, Aro48, -, So48, No48, -, -⟩ := id f46
  obtain ⟨_, _, ⟨T49, L49, k49, n49⟩, -, X49, ⟨Lc49, hQ49, l49, y49, z49⟩, st49⟩ := Jvm.LawKit.callS X37 hx (y := (⟨"com/example/herald/herald/bytecode/BytesPutU4PinLaw", "ok", "([BIIIII)Z"⟩ : MethodName)) hown (mvT hZ (hw _ (List.mem_of_getElem? (i := 63) rfl))) (mvT hZ (hw _ (List.mem_of_getElem? (i := 64) rfl))) (mvT hZ (hw _ (List.mem_of_getElem? (i := 65) rfl))) (mvT hZ (hw _ (List.mem_of_getElem? (i := 66) rfl))) (by decide) (backOf (W := 0) (rm_okA l Z a0 hw [] b37_1 (0 : Int32) p2 p3 (2 : Int32) p5 k37_2 (8 : Int32) (((((((((((((List.replicate 16 (Value.int (0 : Int32))).set (0 : Int32).toNatClampNeg (.int ((((p2.toUInt32 >>> ((24 : Int32) &&& 31).toUInt32).toInt32).toInt8.toInt32).toInt8.toInt32))).set (1 : Int32).toNatClampNeg (.int ((((p2.toUInt32 >>> ((16 : Int32) &&& 31).toUInt32).toInt32).toInt8.toInt32).toInt8.toInt32))).set (2 : Int32).toNatClampNeg (.int ((((p2.toUInt32 >>> ((8 : Int32) &&& 31).toUInt32).toInt32).toInt8.toInt32).toInt8.toInt32))).set (3 : Int32).toNatClampNeg (.int ((p2.toInt8.toInt32).toInt8.toInt32))).set (4 : Int32).toNatClampNeg (.int ((((p3.toUInt32 >>> ((24 : Int32) &&& 31).toUInt32).toInt32).toInt8.toInt32).toInt8.toInt32))).set (5 : Int32).toNatClampNeg (.int ((((p3.toUInt32 >>> ((16 : Int32) &&& 31).toUInt32).toInt32).toInt8.toInt32).toInt8.toInt32))).set (6 : Int32).toNatClampNeg (.int ((((p3.toUInt32 >>> ((8 : Int32) &&& 31).toUInt32).toInt32).toInt8.toInt32).toInt8.toInt32))).set (7 : Int32).toNatClampNeg (.int ((p3.toInt8.toInt32).toInt8.toInt32))).set (2 : Int32).toNatClampNeg (.int ((((p5.toUInt32 >>> ((24 : Int32) &&& 31).toUInt32).toInt32).toInt8.toInt32).toInt8.toInt32))).set (3 : Int32).toNatClampNeg (.int ((((p5.toUInt32 >>> ((16 : Int32) &&& 31).toUInt32).toInt32).toInt8.toInt32).toInt8.toInt32))).set (4 : Int32).toNatClampNeg (.int ((((p5.toUInt32 >>> ((8 : Int32) &&& 31).toUInt32).toInt32).toInt8.toInt32).toInt8.toInt32))).set (5 : Int32).toNatClampNeg (.int ((p5.toInt8.toInt32).toInt8.toInt32))) T37.heap n0 Zs47 f46 (by decide) (by decide) (by decide) hp7) hZ (hw _ (List.mem_of_getElem? (i := 66) rfl)) (hw _ (List.mem_of_getElem? (i := 65) rfl)) (by decide) (by decide)) (g := (mkF m 80 #[.val (.int p1), .val (.int p2), .val (.int p3), .val (.int p4), .val (.int p5), .val (.ref b1), .val (.int (2 : Int32)), .val (.ref b37_1)] [(.int p5), (.int (2 : Int32)), (.int p3), (.int p2), (.int (0 : Int32)), (.ref b37_1)])) rfl (by rw [hml]; rfl) (argsL := [(.ref b37_1), (.int (0 : Int32)), (.int p2), (.int p3), (.int (2 : Int32)), (.int p5)]) (rest := []) (lenOf pd_7 rfl) rfl (by show 2 * 0 + _ ≤ _; exact Nat.le_of_eq rfl) (hb hby at_80) (fun _ _ => ⟨rfl, rfl, (by decide : 5 + 0 ≤ _), (by decide : 53 + 0 ≤ _)⟩)
  dsimp only [Pt.U, Pt.locs, Pt.cells, Pt.slots] at X49 l49 y49 z49 st49 hQ49
  subst l49 y49 z49
  obtain ⟨rfl, Nq49, e49⟩ := hQ49
  have N50 := Fr.app N38 Nq49
  obtain ⟨_, _, ⟨T51, L51, k51, n51⟩, -, X51, ⟨Lc51, hQ51, l51, y51, z51⟩, st51⟩ := Jvm.LawKit.callS X49 hx (y := (⟨"com/example/herald/herald/bytecode/BytesPutU4PinLaw", "ok", "([BIIIII)Z"⟩ : MethodName)) hown (mvT hZ (hw _ (List.mem_of_getElem? (i := 63) rfl))) (mvT hZ (hw _ (List.mem_of_getElem? (i := 64) rfl))) (mvT hZ (hw _ (List.mem_of_getElem? (i := 65) rfl))) (mvT hZ (hw _ (List.mem_of_getElem? (i := 66) rfl))) (by decide) (backOf (W := 0) (rm_okA l Z a0 hw [] b37_1 (1 : Int32) p2 p3 (2 : Int32) p5 k37_2 (8 : Int32) (((((((((((((List.replicate 16 (Value.int (0 : Int32))).set (0 : Int32).toNatClampNeg (.int ((((p2.toUInt32 >>> ((24 : Int32) &&& 31).toUInt32).toInt32).toInt8.toInt32).toInt8.toInt32))).set (1 : Int32).toNatClampNeg (.int ((((p2.toUInt32 >>> ((16 : Int32) &&& 31).toUInt32).toInt32).toInt8.toInt32).toInt8.toInt32))).set (2 : Int32).toNatClampNeg (.int ((((p2.toUInt32 >>> ((8 : Int32) &&& 31).toUInt32).toInt32).toInt8.toInt32).toInt8.toInt32))).set (3 : Int32).toNatClampNeg (.int ((p2.toInt8.toInt32).toInt8.toInt32))).set (4 : Int32).toNatClampNeg (.int ((((p3.toUInt32 >>> ((24 : Int32) &&& 31).toUInt32).toInt32).toInt8.toInt32).toInt8.toInt32))).set (5 : Int32).toNatClampNeg (.int ((((p3.toUInt32 >>> ((16 : Int32) &&& 31).toUInt32).toInt32).toInt8.toInt32).toInt8.toInt32))).set (6 : Int32).toNatClampNeg (.int ((((p3.toUInt32 >>> ((8 : Int32) &&& 31).toUInt32).toInt32).toInt8.toInt32).toInt8.toInt32))).set (7 : Int32).toNatClampNeg (.int ((p3.toInt8.toInt32).toInt8.toInt32))).set (2 : Int32).toNatClampNeg (.int ((((p5.toUInt32 >>> ((24 : Int32) &&& 31).toUInt32).toInt32).toInt8.toInt32).toInt8.toInt32))).set (3 : Int32).toNatClampNeg (.int ((((p5.toUInt32 >>> ((16 : Int32) &&& 31).toUInt32).toInt32).toInt8.toInt32).toInt8.toInt32))).set (4 : Int32).toNatClampNeg (.int ((((p5.toUInt32 >>> ((8 : Int32) &&& 31).toUInt32).toInt32).toInt8.toInt32).toInt8.toInt32))).set (5 : Int32).toNatClampNeg (.int ((p5.toInt8.toInt32).toInt8.toInt32))) T37.heap n0 Zs47 f46 (by decide) (by decide) (by decide) hp8) hZ (hw _ (List.mem_of_getElem? (i := 66) rfl)) (hw _ (List.mem_of_getElem? (i := 65) rfl)) (by decide) (by decide)) (g := (mkF m 95 #[.val (.int p1), .val (.int p2), .val (.int p3), .val (.int p4), .val (.int p5), .val (.ref b1), .val (.int (2 : Int32)), .val (.ref b37_1)] [(.int p5), (.int (2 : Int32)), (.int p3), (.int p2), (.int (1 : Int32)), (.ref b37_1)])) rfl (by rw [hml]; rfl) (argsL := [(.ref b37_1), (.int (1 : Int32)), (.int p2), (.int p3), (.int (2 : Int32)), (.int p5)]) (rest := []) (lenOf pd_7 rfl) rfl (by show 2 * 0 + _ ≤ _; exact Nat.le_of_eq rfl) (hb hby at_95) (fun _ _ => ⟨rfl, e49, (by decide : 5 + 0 ≤ _), (by decide : 53 + 0 ≤ _)⟩)
  dsimp only [Pt.U, Pt.locs, Pt.cells, Pt.slots] at X51 l51 y51 z51 st51 hQ51
  subst l51 y51 z51
  obtain ⟨rfl, Nq51, e51⟩ := hQ51
  have N52 := Fr.app N50 Nq51
  obtain ⟨_, _, ⟨T53, L53, k53, n53⟩, -, X53, ⟨Lc53, hQ53, l53, y53, z53⟩, st53⟩ := Jvm.LawKit.callS X51 hx (y := (⟨"com/example/herald/herald/bytecode/BytesPutU4PinLaw", "ok", "([BIIIII)Z"⟩ : MethodName)) hown (mvT hZ (hw _ (List.mem_of_getElem? (i := 63) rfl))) (mvT hZ (hw _ (List.mem_of_getElem? (i := 64) rfl))) (mvT hZ (hw _ (List.mem_of_getElem? (i := 65) rfl))) (mvT hZ (hw _ (List.mem_of_getElem? (i := 66) rfl))) (by decide) (backOf (W := 0) (rm_okV l Z a0 hw [] b37_1 (2 : Int32) p2 p3 (2 : Int32) p5 k37_2 (8 : Int32) (((((((((((((List.replicate 16 (Value.int (0 : Int32))).set (0 : Int32).toNatClampNeg (.int ((((p2.toUInt32 >>> ((24 : Int32) &&& 31).toUInt32).toInt32).toInt8.toInt32).toInt8.toInt32))).set (1 : Int32).toNatClampNeg (.int ((((p2.toUInt32 >>> ((16 : Int32) &&& 31).toUInt32).toInt32).toInt8.toInt32).toInt8.toInt32))).set (2 : Int32).toNatClampNeg (.int ((((p2.toUInt32 >>> ((8 : Int32) &&& 31).toUInt32).toInt32).toInt8.toInt32).toInt8.toInt32))).set (3 : Int32).toNatClampNeg (.int ((p2.toInt8.toInt32).toInt8.toInt32))).set (4 : Int32).toNatClampNeg (.int ((((p3.toUInt32 >>> ((24 : Int32) &&& 31).toUInt32).toInt32).toInt8.toInt32).toInt8.toInt32))).set (5 : Int32).toNatClampNeg (.int ((((p3.toUInt32 >>> ((16 : Int32) &&& 31).toUInt32).toInt32).toInt8.toInt32).toInt8.toInt32))).set (6 : Int32).toNatClampNeg (.int ((((p3.toUInt32 >>> ((8 : Int32) &&& 31).toUInt32).toInt32).toInt8.toInt32).toInt8.toInt32))).set (7 : Int32).toNatClampNeg (.int ((p3.toInt8.toInt32).toInt8.toInt32))).set (2 : Int32).toNatClampNeg (.int ((((p5.toUInt32 >>> ((24 : Int32) &&& 31).toUInt32).toInt32).toInt8.toInt32).toInt8.toInt32))).set (3 : Int32).toNatClampNeg (.int ((((p5.toUInt32 >>> ((16 : Int32) &&& 31).toUInt32).toInt32).toInt8.toInt32).toInt8.toInt32))).set (4 : Int32).toNatClampNeg (.int ((((p5.toUInt32 >>> ((8 : Int32) &&& 31).toUInt32).toInt32).toInt8.toInt32).toInt8.toInt32))).set (5 : Int32).toNatClampNeg (.int ((p5.toInt8.toInt32).toInt8.toInt32))) T37.heap n0 Zs47 f46 (by decide) (by decide) (by decide) (by decide) hp9) hZ (hw _ (List.mem_of_getElem? (i := 66) rfl)) (hw _ (List.mem_of_getElem? (i := 65) rfl)) (by decide) (by decide)) (g := (mkF m 110 #[.val (.int p1), .val (.int p2), .val (.int p3), .val (.int p4), .val (.int p5), .val (.ref b1), .val (.int (2 : Int32)), .val (.ref b37_1)] [(.int p5), (.int (2 : Int32)), (.int p3), (.int p2), (.int (2 : Int32)), (.ref b37_1)])) rfl (by rw [hml]; rfl) (argsL := [(.ref b37_1), (.int (2 : Int32)), (.int p2), (.int p3), (.int (2 : Int32)), (.int p5)]) (rest := []) (lenOf pd_7 rfl) rfl (by show 2 * 0 + _ ≤ _; exact Nat.le_of_eq rfl) (hb hby at_110) (fun _ _ => ⟨rfl, e51, (by decide : 5 + 0 ≤ _), (by decide : 53 + 0 ≤ _)⟩)
  dsimp only [Pt.U, Pt.locs, Pt.cells, Pt.slots] at X53 l53 y53 z53 st53 hQ53
  subst l53 y53 z53
  obtain ⟨rfl, Nq53, e53⟩ := hQ53
  have N54 := Fr.app N52 Nq53
  obtain ⟨_, _, ⟨T55, L55, k55, n55⟩, -, X55, ⟨Lc55, hQ55, l55, y55, z55⟩, st55⟩ := Jvm.LawKit.callS X53 hx (y := (⟨"com/example/herald/herald/bytecode/BytesPutU4PinLaw", "ok", "([BIIIII)Z"⟩ : MethodName)) hown (mvT hZ (hw _ (List.mem_of_getElem? (i := 63) rfl))) (mvT hZ (hw _ (List.mem_of_getElem? (i := 64) rfl))) (mvT hZ (hw _ (List.mem_of_getElem? (i := 65) rfl))) (mvT hZ (hw _ (List.mem_of_getElem? (i := 66) rfl))) (by decide) (backOf (W := 0) (rm_okV l Z a0 hw [] b37_1 (3 : Int32) p2 p3 (2 : Int32) p5 k37_2 (8 : Int32) (((((((((((((List.replicate 16 (Value.int (0 : Int32))).set (0 : Int32).toNatClampNeg (.int ((((p2.toUInt32 >>> ((24 : Int32) &&& 31).toUInt32).toInt32).toInt8.toInt32).toInt8.toInt32))).set (1 : Int32).toNatClampNeg (.int ((((p2.toUInt32 >>> ((16 : Int32) &&& 31).toUInt32).toInt32).toInt8.toInt32).toInt8.toInt32))).set (2 : Int32).toNatClampNeg (.int ((((p2.toUInt32 >>> ((8 : Int32) &&& 31).toUInt32).toInt32).toInt8.toInt32).toInt8.toInt32))).set (3 : Int32).toNatClampNeg (.int ((p2.toInt8.toInt32).toInt8.toInt32))).set (4 : Int32).toNatClampNeg (.int ((((p3.toUInt32 >>> ((24 : Int32) &&& 31).toUInt32).toInt32).toInt8.toInt32).toInt8.toInt32))).set (5 : Int32).toNatClampNeg (.int ((((p3.toUInt32 >>> ((16 : Int32) &&& 31).toUInt32).toInt32).toInt8.toInt32).toInt8.toInt32))).set (6 : Int32).toNatClampNeg (.int ((((p3.toUInt32 >>> ((8 : Int32) &&& 31).toUInt32).toInt32).toInt8.toInt32).toInt8.toInt32))).set (7 : Int32).toNatClampNeg (.int ((p3.toInt8.toInt32).toInt8.toInt32))).set (2 : Int32).toNatClampNeg (.int ((((p5.toUInt32 >>> ((24 : Int32) &&& 31).toUInt32).toInt32).toInt8.toInt32).toInt8.toInt32))).set (3 : Int32).toNatClampNeg (.int ((((p5.toUInt32 >>> ((16 : Int32) &&& 31).toUInt32).toInt32).toInt8.toInt32).toInt8.toInt32))).set (4 : Int32).toNatClampNeg (.int ((((p5.toUInt32 >>> ((8 : Int32) &&& 31).toUInt32).toInt32).toInt8.toInt32).toInt8.toInt32))).set (5 : Int32).toNatClampNeg (.int ((p5.toInt8.toInt32).toInt8.toInt32))) T37.heap n0 Zs47 f46 (by decide) (by decide) (by decide) (by decide) hp10) hZ (hw _ (List.mem_of_getElem? (i := 66) rfl)) (hw _ (List.mem_of_getElem? (i := 65) rfl)) (by decide) (by decide)) (g := (mkF m 125 #[.val (.int p1), .val (.int p2), .val (.int p3), .val (.int p4), .val (.int p5), .val (.ref b1), .val (.int (2 : Int32)), .val (.ref b37_1)] [(.int p5), (.int (2 : Int32)), (.int p3), (.int p2), (.int (3 : Int32)), (.ref b37_1)])) rfl (by rw [hml]; rfl) (argsL := [(.ref b37_1), (.int (3 : Int32)), (.int p2), (.int p3), (.int (2 : Int32)), (.int p5)]) (rest := []) (lenOf pd_7 rfl) rfl (by show 2 * 0 + _ ≤ _; exact Nat.le_of_eq rfl) (hb hby at_125) (fun _ _ => ⟨rfl, e53, (by decide : 5 + 0 ≤ _), (by decide : 53 + 0 ≤ _)⟩)
  dsimp only [Pt.U, Pt.locs, Pt.cells, Pt.slots] at X55 l55 y55 z55 st55 hQ55
  subst l55 y55 z55
  obtain ⟨rfl, Nq55, e55⟩ := hQ55
  have N56 := Fr.app N54 Nq55
  obtain ⟨_, _, ⟨T57, L57, k57, n57⟩, -, X57, ⟨Lc57, hQ57, l57, y57, z57⟩, st57⟩ := Jvm.LawKit.callS X55 hx (y := (⟨"com/example/herald/herald/bytecode/BytesPutU4PinLaw", "ok", "([BIIIII)Z"⟩ : MethodName)) hown (mvT hZ (hw _ (List.mem_of_getElem? (i := 63) rfl))) (mvT hZ (hw _ (List.mem_of_getElem? (i := 64) rfl))) (mvT hZ (hw _ (List.mem_of_getElem? (i := 65) rfl))) (mvT hZ (hw _ (List.mem_of_getElem? (i := 66) rfl))) (by decide) (backOf (W := 0) (rm_okV l Z a0 hw [] b37_1 (4 : Int32) p2 p3 (2 : Int32) p5 k37_2 (8 : Int32) (((((((((((((List.replicate 16 (Value.int (0 : Int32))).set (0 : Int32).toNatClampNeg (.int ((((p2.toUInt32 >>> ((24 : Int32) &&& 31).toUInt32).toInt32).toInt8.toInt32).toInt8.toInt32))).set (1 : Int32).toNatClampNeg (.int ((((p2.toUInt32 >>> ((16 : Int32) &&& 31).toUInt32).toInt32).toInt8.toInt32).toInt8.toInt32))).set (2 : Int32).toNatClampNeg (.int ((((p2.toUInt32 >>> ((8 : Int32) &&& 31).toUInt32).toInt32).toInt8.toInt32).toInt8.toInt32))).set (3 : Int32).toNatClampNeg (.int ((p2.toInt8.toInt32).toInt8.toInt32))).set (4 : Int32).toNatClampNeg (.int ((((p3.toUInt32 >>> ((24 : Int32) &&& 31).toUInt32).toInt32).toInt8.toInt32).toInt8.toInt32))).set (5 : Int32).toNatClampNeg (.int ((((p3.toUInt32 >>> ((16 : Int32) &&& 31).toUInt32).toInt32).toInt8.toInt32).toInt8.toInt32))).set (6 : Int32).toNatClampNeg (.int ((((p3.toUInt32 >>> ((8 : Int32) &&& 31).toUInt32).toInt32).toInt8.toInt32).toInt8.toInt32))).set (7 : Int32).toNatClampNeg (.int ((p3.toInt8.toInt32).toInt8.toInt32))).set (2 : Int32).toNatClampNeg (.int ((((p5.toUInt32 >>> ((24 : Int32) &&& 31).toUInt32).toInt32).toInt8.toInt32).toInt8.toInt32))).set (3 : Int32).toNatClampNeg (.int ((((p5.toUInt32 >>> ((16 : Int32) &&& 31).toUInt32).toInt32).toInt8.toInt32).toInt8.toInt32))).set (4 : Int32).toNatClampNeg (.int ((((p5.toUInt32 >>> ((8 : Int32) &&& 31).toUInt32).toInt32).toInt8.toInt32).toInt8.toInt32))).set (5 : Int32).toNatClampNeg (.int ((p5.toInt8.toInt32).toInt8.toInt32))) T37.heap n0 Zs47 f46 (by decide) (by decide) (by decide) (by decide) hp11) hZ (hw _ (List.mem_of_getElem? (i := 66) rfl)) (hw _ (List.mem_of_getElem? (i := 65) rfl)) (by decide) (by decide)) (g := (mkF m 140 #[.val (.int p1), .val (.int p2), .val (.int p3), .val (.int p4), .val (.int p5), .val (.ref b1), .val (.int (2 : Int32)), .val (.ref b37_1)] [(.int p5), (.int (2 : Int32)), (.int p3), (.int p2), (.int (4 : Int32)), (.ref b37_1)])) rfl (by rw [hml]; rfl) (argsL := [(.ref b37_1), (.int (4 : Int32)), (.int p2), (.int p3), (.int (2 : Int32)), (.int p5)]) (rest := []) (lenOf pd_7 rfl) rfl (by show 2 * 0 + _ ≤ _; exact Nat.le_of_eq rfl) (hb hby at_140) (fun _ _ => ⟨rfl, e55, (by decide : 5 + 0 ≤ _), (by decide : 53 + 0 ≤ _)⟩)
  dsimp only [Pt.U, Pt.locs, Pt.cells, Pt.slots] at X57 l57 y57 z57 st57 hQ57
  subst l57 y57 z57
  obtain ⟨rfl, Nq57, e57⟩ := hQ57
  have N58 := Fr.app N56 Nq57
  obtain ⟨_, _, ⟨T59, L59, k59, n59⟩, -, X59, ⟨Lc59, hQ59, l59, y59, z59⟩, st59⟩ := Jvm.LawKit.callS X57 hx (y := (⟨"com/example/herald/herald/bytecode/BytesPutU4PinLaw", "ok", "([BIIIII)Z"⟩ : MethodName)) hown (mvT hZ (hw _ (List.mem_of_getElem? (i := 63) rfl))) (mvT hZ (hw _ (List.mem_of_getElem? (i := 64) rfl))) (mvT hZ (hw _ (List.mem_of_getElem? (i := 65) rfl))) (mvT hZ (hw _ (List.mem_of_getElem? (i := 66) rfl))) (by decide) (backOf (W := 0) (rm_okV l Z a0 hw [] b37_1 (5 : Int32) p2 p3 (2 : Int32) p5 k37_2 (8 : Int32) (((((((((((((List.replicate 16 (Value.int (0 : Int32))).set (0 : Int32).toNatClampNeg (.int ((((p2.toUInt32 >>> ((24 : Int32) &&& 31).toUInt32).toInt32).toInt8.toInt32).toInt8.toInt32))).set (1 : Int32).toNatClampNeg (.int ((((p2.toUInt32 >>> ((16 : Int32) &&& 31).toUInt32).toInt32).toInt8.toInt32).toInt8.toInt32))).set (2 : Int32).toNatClampNeg (.int ((((p2.toUInt32 >>> ((8 : Int32) &&& 31).toUInt32).toInt32).toInt8.toInt32).toInt8.toInt32))).set (3 : Int32).toNatClampNeg (.int ((p2.toInt8.toInt32).toInt8.toInt32))).set (4 : Int32).toNatClampNeg (.int ((((p3.toUInt32 >>> ((24 : Int32) &&& 31).toUInt32).toInt32).toInt8.toInt32).toInt8.toInt32))).set (5 : Int32).toNatClampNeg (.int ((((p3.toUInt32 >>> ((16 : Int32) &&& 31).toUInt32).toInt32).toInt8.toInt32).toInt8.toInt32))).set (6 : Int32).toNatClampNeg (.int ((((p3.toUInt32 >>> ((8 : Int32) &&& 31).toUInt32).toInt32).toInt8.toInt32).toInt8.toInt32))).set (7 : Int32).toNatClampNeg (.int ((p3.toInt8.toInt32).toInt8.toInt32))).set (2 : Int32).toNatClampNeg (.int ((((p5.toUInt32 >>> ((24 : Int32) &&& 31).toUInt32).toInt32).toInt8.toInt32).toInt8.toInt32))).set (3 : Int32).toNatClampNeg (.int ((((p5.toUInt32 >>> ((16 : Int32) &&& 31).toUInt32).toInt32).toInt8.toInt32).toInt8.toInt32))).set (4 : Int32).toNatClampNeg (.int ((((p5.toUInt32 >>> ((8 : Int32) &&& 31).toUInt32).toInt32).toInt8.toInt32).toInt8.toInt32))).set (5 : Int32).toNatClampNeg (.int ((p5.toInt8.toInt32).toInt8.toInt32))) T37.heap n0 Zs47 f46 (by decide) (by decide) (by decide) (by decide) hp12) hZ (hw _ (List.mem_of_getElem? (i := 66) rfl)) (hw _ (List.mem_of_getElem? (i := 65) rfl)) (by decide) (by decide)) (g := (mkF m 155 #[.val (.int p1), .val (.int p2), .val (.int p3), .val (.int p4), .val (.int p5), .val (.ref b1), .val (.int (2 : Int32)), .val (.ref b37_1)] [(.int p5), (.int (2 : Int32)), (.int p3), (.int p2), (.int (5 : Int32)), (.ref b37_1)])) rfl (by rw [hml]; rfl) (argsL := [(.ref b37_1), (.int (5 : Int32)), (.int p2), (.int p3), (.int (2 : Int32)), (.int p5)]) (rest := []) (lenOf pd_7 rfl) rfl (by show 2 * 0 + _ ≤ _; exact Nat.le_of_eq rfl) (hb hby at_155) (fun _ _ => ⟨rfl, e57, (by decide : 5 + 0 ≤ _), (by decide : 53 + 0 ≤ _)⟩)
  dsimp only [Pt.U, Pt.locs, Pt.cells, Pt.slots] at X59 l59 y59 z59 st59 hQ59
  subst l59 y59 z59
  obtain ⟨rfl, Nq59, e59⟩ := hQ59
  have N60 := Fr.app N58 Nq59
  obtain ⟨_, _, ⟨T61, L61, k61, n61⟩, -, X61, ⟨Lc61, hQ61, l61, y61, z61⟩, st61⟩ := Jvm.LawKit.callS X59 hx (y := (⟨"com/example/herald/herald/bytecode/BytesPutU4PinLaw", "ok", "([BIIIII)Z"⟩ : MethodName)) hown (mvT hZ (hw _ (List.mem_of_getElem? (i := 63) rfl))) (mvT hZ (hw _ (List.mem_of_getElem? (i := 64) rfl))) (mvT hZ (hw _ (List.mem_of_getElem? (i := 65) rfl))) (mvT hZ (hw _ (List.mem_of_getElem? (i := 66) rfl))) (by decide) (backOf (W := 0) (rm_okB l Z a0 hw [] b37_1 (6 : Int32) p2 p3 (2 : Int32) p5 k37_2 (8 : Int32) (((((((((((((List.replicate 16 (Value.int (0 : Int32))).set (0 : Int32).toNatClampNeg (.int ((((p2.toUInt32 >>> ((24 : Int32) &&& 31).toUInt32).toInt32).toInt8.toInt32).toInt8.toInt32))).set (1 : Int32).toNatClampNeg (.int ((((p2.toUInt32 >>> ((16 : Int32) &&& 31).toUInt32).toInt32).toInt8.toInt32).toInt8.toInt32))).set (2 : Int32).toNatClampNeg (.int ((((p2.toUInt32 >>> ((8 : Int32) &&& 31).toUInt32).toInt32).toInt8.toInt32).toInt8.toInt32))).set (3 : Int32).toNatClampNeg (.int ((p2.toInt8.toInt32).toInt8.toInt32))).set (4 : Int32).toNatClampNeg (.int ((((p3.toUInt32 >>> ((24 : Int32) &&& 31).toUInt32).toInt32).toInt8.toInt32).toInt8.toInt32))).set (5 : Int32).toNatClampNeg (.int ((((p3.toUInt32 >>> ((16 : Int32) &&& 31).toUInt32).toInt32).toInt8.toInt32).toInt8.toInt32))).set (6 : Int32).toNatClampNeg (.int ((((p3.toUInt32 >>> ((8 : Int32) &&& 31).toUInt32).toInt32).toInt8.toInt32).toInt8.toInt32))).set (7 : Int32).toNatClampNeg (.int ((p3.toInt8.toInt32).toInt8.toInt32))).set (2 : Int32).toNatClampNeg (.int ((((p5.toUInt32 >>> ((24 : Int32) &&& 31).toUInt32).toInt32).toInt8.toInt32).toInt8.toInt32))).set (3 : Int32).toNatClampNeg (.int ((((p5.toUInt32 >>> ((16 : Int32) &&& 31).toUInt32).toInt32).toInt8.toInt32).toInt8.toInt32))).set (4 : Int32).toNatClampNeg (.int ((((p5.toUInt32 >>> ((8 : Int32) &&& 31).toUInt32).toInt32).toInt8.toInt32).toInt8.toInt32))).set (5 : Int32).toNatClampNeg (.int ((p5.toInt8.toInt32).toInt8.toInt32))) T37.heap n0 Zs47 f46 (by decide) (by decide) (by decide) (by decide) hp13) hZ (hw _ (List.mem_of_getElem? (i := 66) rfl)) (hw _ (List.mem_of_getElem? (i := 65) rfl)) (by decide) (by decide)) (g := (mkF m 171 #[.val (.int p1), .val (.int p2), .val (.int p3), .val (.int p4), .val (.int p5), .val (.ref b1), .val (.int (2 : Int32)), .val (.ref b37_1)] [(.int p5), (.int (2 : Int32)), (.int p3), (.int p2), (.int (6 : Int32)), (.ref b37_1)])) rfl (by rw [hml]; rfl) (argsL := [(.ref b37_1), (.int (6 : Int32)), (.int p2), (.int p3), (.int (2 : Int32)), (.int p5)]) (rest := []) (lenOf pd_7 rfl) rfl (by show 2 * 0 + _ ≤ _; exact Nat.le_of_eq rfl) (hb hby at_171) (fun _ _ => ⟨rfl, e59, (by decide : 5 + 0 ≤ _), (by decide : 53 + 0 ≤ _)⟩)
  dsimp only [Pt.U, Pt.locs, Pt.cells, Pt.slots] at X61 l61 y61 z61 st61 hQ61
  subst l61 y61 z61
  obtain ⟨rfl, Nq61, e61⟩ := hQ61
  have N62 := Fr.app N60 Nq61
  obtain ⟨_, _, ⟨T63, L63, k63, n63⟩, -, X63, ⟨Lc63, hQ63, l63, y63, z63⟩, st63⟩ := Jvm.LawKit.callS X61 hx (y := (⟨"com/example/herald/herald/bytecode/BytesPutU4PinLaw", "ok", "([BIIIII)Z"⟩ : MethodName)) hown (mvT hZ (hw _ (List.mem_of_getElem? (i := 63) rfl))) (mvT hZ (hw _ (List.mem_of_getElem? (i := 64) rfl))) (mvT hZ (hw _ (List.mem_of_getElem? (i := 65) rfl))) (mvT hZ (hw _ (List.mem_of_getElem? (i := 66) rfl))) (by decide) (backOf (W := 0) (rm_okB l Z a0 hw [] b37_1 (7 : Int32) p2 p3 (2 : Int32) p5 k37_2 (8 : Int32) (((((((((((((List.replicate 16 (Value.int (0 : Int32))).set (0 : Int32).toNatClampNeg (.int ((((p2.toUInt32 >>> ((24 : Int32) &&& 31).toUInt32).toInt32).toInt8.toInt32).toInt8.toInt32))).set (1 : Int32).toNatClampNeg (.int ((((p2.toUInt32 >>> ((16 : Int32) &&& 31).toUInt32).toInt32).toInt8.toInt32).toInt8.toInt32))).set (2 : Int32).toNatClampNeg (.int ((((p2.toUInt32 >>> ((8 : Int32) &&& 31).toUInt32).toInt32).toInt8.toInt32).toInt8.toInt32))).set (3 : Int32).toNatClampNeg (.int ((p2.toInt8.toInt32).toInt8.toInt32))).set (4 : Int32).toNatClampNeg (.int ((((p3.toUInt32 >>> ((24 : Int32) &&& 31).toUInt32).toInt32).toInt8.toInt32).toInt8.toInt32))).set (5 : Int32).toNatClampNeg (.int ((((p3.toUInt32 >>> ((16 : Int32) &&& 31).toUInt32).toInt32).toInt8.toInt32).toInt8.toInt32))).set (6 : Int32).toNatClampNeg (.int ((((p3.toUInt32 >>> ((8 : Int32) &&& 31).toUInt32).toInt32).toInt8.toInt32).toInt8.toInt32))).set (7 : Int32).toNatClampNeg (.int ((p3.toInt8.toInt32).toInt8.toInt32))).set (2 : Int32).toNatClampNeg (.int ((((p5.toUInt32 >>> ((24 : Int32) &&& 31).toUInt32).toInt32).toInt8.toInt32).toInt8.toInt32))).set (3 : Int32).toNatClampNeg (.int ((((p5.toUInt32 >>> ((16 : Int32) &&& 31).toUInt32).toInt32).toInt8.toInt32).toInt8.toInt32))).set (4 : Int32).toNatClampNeg (.int ((((p5.toUInt32 >>> ((8 : Int32) &&& 31).toUInt32).toInt32).toInt8.toInt32).toInt8.toInt32))).set (5 : Int32).toNatClampNeg (.int ((p5.toInt8.toInt32).toInt8.toInt32))) T37.heap n0 Zs47 f46 (by decide) (by decide) (by decide) (by decide) hp14) hZ (hw _ (List.mem_of_getElem? (i := 66) rfl)) (hw _ (List.mem_of_getElem? (i := 65) rfl)) (by decide) (by decide)) (g := (mkF m 187 #[.val (.int p1), .val (.int p2), .val (.int p3), .val (.int p4), .val (.int p5), .val (.ref b1), .val (.int (2 : Int32)), .val (.ref b37_1)] [(.int p5), (.int (2 : Int32)), (.int p3), (.int p2), (.int (7 : Int32)), (.ref b37_1)])) rfl (by rw [hml]; rfl) (argsL := [(.ref b37_1), (.int (7 : Int32)), (.int p2), (.int p3), (.int (2 : Int32)), (.int p5)]) (rest := []) (lenOf pd_7 rfl) rfl (by show 2 * 0 + _ ≤ _; exact Nat.le_of_eq rfl) (hb hby at_187) (fun _ _ => ⟨rfl, e61, (by decide : 5 + 0 ≤ _), (by decide : 53 + 0 ≤ _)⟩)
  dsimp only [Pt.U, Pt.locs, Pt.cells, Pt.slots] at X63 l63 y63 z63 st63 hQ63
  subst l63 y63 z63
  obtain ⟨rfl, Nq63, e63⟩ := hQ63
  have N64 := Fr.app N62 Nq63
  obtain ⟨fs, hr, hrun, hended, hW, hsame⟩ := X63.leave (v := some (.int (1 : Int32))) (fun h => by rw [Bd.returns] at h; cases h) Bd.notSynchronized
  refine ⟨_, _, pre0 _ ?_, hrun, hended, _, _, rfl, ?_, ⟨_, rfl⟩, hW, hsame.mono (by decide) (by decide)⟩
  · show Steps p.tables e below (s₁.setTop (mkF m 0 #[.val (.int p1), .val (.int p2), .val (.int p3), .val (.int p4), .val (.int p5), .unset, .unset, .unset] [])) _
    refine st1 _ ?_
    show Steps p.tables e below (T1.setTop (mkF m 3 #[.val (.int p1), .val (.int p2), .val (.int p3), .val (.int p4), .val (.int p5), .unset, .unset, .unset] [(.ref b1)])) _
    refine XS.dup X1.here hx rfl (hb hby at_3) rfl rfl ?_
    show Steps p.tables e below (T1.setTop (mkF m 4 #[.val (.int p1), .val (.int p2), .val (.int p3), .val (.int p4), .val (.int p5), .unset, .unset, .unset] [(.ref b1), (.ref b1)])) _
    refine XS.iloadN X1.here hx rfl (hb hby at_4) rfl ?_
    show Steps p.tables e below (T1.setTop (mkF m 5 #[.val (.int p1), .val (.int p2), .val (.int p3), .val (.int p4), .val (.int p5), .unset, .unset, .unset] [(.int p1), (.ref b1), (.ref b1)])) _
    refine XS.bipush X1.here hx rfl (hb hby at_5) ?_
    show Steps p.tables e below (T1.setTop (mkF m 7 #[.val (.int p1), .val (.int p2), .val (.int p3), .val (.int p4), .val (.int p5), .unset, .unset, .unset] [(.int (15 : Int32)), (.int p1), (.ref b1), (.ref b1)])) _
    refine XS.iand X1.here hx rfl (hb hby at_7) rfl ?_
    show Steps p.tables e below (T1.setTop (mkF m 8 #[.val (.int p1), .val (.int p2), .val (.int p3), .val (.int p4), .val (.int p5), .unset, .unset, .unset] [(.int (p1 &&& (15 : Int32))), (.ref b1), (.ref b1)])) _
    refine st5.trans ?_
    show Steps p.tables e below (T5.setTop (mkF m 11 #[.val (.int p1), .val (.int p2), .val (.int p3), .val (.int p4), .val (.int p5), .unset, .unset, .unset] [(.ref b1)])) _
    refine XS.astore X5.here hx rfl (hb hby at_11) rfl rfl (l' := #[.val (.int p1), .val (.int p2), .val (.int p3), .val (.int p4), .val (.int p5), .val (.ref b1), .unset, .unset]) rfl ?_
    show Steps p.tables e below (T5.setTop (mkF m 13 #[.val (.int p1), .val (.int p2), .val (.int p3), .val (.int p4), .val (.int p5), .val (.ref b1), .unset, .unset] [])) _
    refine XS.aload X5.here hx rfl (hb hby at_13) rfl rfl ?_
    show Steps p.tables e below (T5.setTop (mkF m 15 #[.val (.int p1), .val (.int p2), .val (.int p3), .val (.int p4), .val (.int p5), .val (.ref b1), .unset, .unset] [(.ref b1)])) _
    refine XS.iloadN X5.here hx rfl (hb hby at_15) rfl ?_
    show Steps p.tables e below (T5.setTop (mkF m 16 #[.val (.int p1), .val (.int p2), .val (.int p3), .val (.int p4), .val (.int p5), .val (.ref b1), .unset, .unset] [(.int p2), (.ref b1)])) _
    refine st11.trans ?_
    show Steps p.tables e below (T11.setTop (mkF m 19 #[.val (.int p1), .val (.int p2), .val (.int p3), .val (.int p4), .val (.int p5), .val (.ref b1), .unset, .unset] [])) _
    refine XS.aload X11.here hx rfl (hb hby at_19) rfl rfl ?_
    show Steps p.tables e below (T11.setTop (mkF m 21 #[.val (.int p1), .val (.int p2), .val (.int p3), .val (.int p4), .val (.int p5), .val (.ref b1), .unset, .unset] [(.ref b1)])) _
    refine XS.iloadN X11.here hx rfl (hb hby at_21) rfl ?_
    show Steps p.tables e below (T11.setTop (mkF m 22 #[.val (.int p1), .val (.int p2), .val (.int p3), .val (.int p4), .val (.int p5), .val (.ref b1), .unset, .unset] [(.int p3), (.ref b1)])) _
    refine st18.trans ?_
    show Steps p.tables e below (T18.setTop (mkF m 25 #[.val (.int p1), .val (.int p2), .val (.int p3), .val (.int p4), .val (.int p5), .val (.ref b1), .unset, .unset] [])) _
    refine XS.iloadN X18.here hx rfl (hb hby at_25) rfl ?_
    show Steps p.tables e below (T18.setTop (mkF m 26 #[.val (.int p1), .val (.int p2), .val (.int p3), .val (.int p4), .val (.int p5), .val (.ref b1), .unset, .unset] [(.int p4)])) _
    refine X18.ldcInt hx hown (mvT hZ (hw _ (List.mem_of_getElem? (i := 38) rfl))) (g := (mkF m 26 #[.val (.int p1), .val (.int p2), .val (.int p3), .val (.int p4), .val (.int p5), .val (.ref b1), .unset, .unset] [(.int p4)])) rfl (hb hby at_26) _ ?_
    show Steps p.tables e below (T18.setTop (mkF m 28 #[.val (.int p1), .val (.int p2), .val (.int p3), .val (.int p4), .val (.int p5), .val (.ref b1), .unset, .unset] [(.int (2147483647 : Int32)), (.int p4)])) _
    refine XS.iand X18.here hx rfl (hb hby at_28) rfl ?_
    show Steps p.tables e below (T18.setTop (mkF m 29 #[.val (.int p1), .val (.int p2), .val (.int p3), .val (.int p4), .val (.int p5), .val (.ref b1), .unset, .unset] [(.int (p4 &&& (2147483647 : Int32)))])) _
    refine XS.iconst X18.here hx rfl (hb hby at_29) ?_
    show Steps p.tables e below (T18.setTop (mkF m 30 #[.val (.int p1), .val (.int p2), .val (.int p3), .val (.int p4), .val (.int p5), .val (.ref b1), .unset, .unset] [(.int (5 : Int32)), (.int (p4 &&& (2147483647 : Int32)))])) _
    refine iremM X18 hx rfl (hb hby at_30) rfl (by decide) ?_
    show Steps p.tables e below (T18.setTop (mkF m 31 #[.val (.int p1), .val (.int p2), .val (.int p3), .val (.int p4), .val (.int p5), .val (.ref b1), .unset, .unset] [(.int ((p4 &&& (2147483647 : Int32)) % (5 : Int32)))])) _
    refine XS.istore X18.here hx rfl (hb hby at_31) rfl (l' := #[.val (.int p1), .val (.int p2), .val (.int p3), .val (.int p4), .val (.int p5), .val (.ref b1), .val (.int ((p4 &&& (2147483647 : Int32)) % (5 : Int32))), .unset]) rfl ?_
    show Steps p.tables e below (T18.setTop (mkF m 33 #[.val (.int p1), .val (.int p2), .val (.int p3), .val (.int p4), .val (.int p5), .val (.ref b1), .val (.int ((p4 &&& (2147483647 : Int32)) % (5 : Int32))), .unset] [])) _
    rw [hw_5]
    show Steps p.tables e below (T18.setTop (mkF m 33 #[.val (.int p1), .val (.int p2), .val (.int p3), .val (.int p4), .val (.int p5), .val (.ref b1), .val (.int (2 : Int32)), .unset] [])) _
    refine XS.aload X18.here hx rfl (hb hby at_33) rfl rfl ?_
    show Steps p.tables e below (T18.setTop (mkF m 35 #[.val (.int p1), .val (.int p2), .val (.int p3), .val (.int p4), .val (.int p5), .val (.ref b1), .val (.int (2 : Int32)), .unset] [(.ref b1)])) _
    refine XS.iload X18.here hx rfl (hb hby at_35) rfl ?_
    show Steps p.tables e below (T18.setTop (mkF m 37 #[.val (.int p1), .val (.int p2), .val (.int p3), .val (.int p4), .val (.int p5), .val (.ref b1), .val (.int (2 : Int32)), .unset] [(.int (2 : Int32)), (.ref b1)])) _
    refine XS.iload X18.here hx rfl (hb hby at_37) rfl ?_
    show Steps p.tables e below (T18.setTop (mkF m 39 #[.val (.int p1), .val (.int p2), .val (.int p3), .val (.int p4), .val (.int p5), .val (.ref b1), .val (.int (2 : Int32)), .unset] [(.int p5), (.int (2 : Int32)), (.ref b1)])) _
    refine st26.trans ?_
    show Steps p.tables e below (T26.setTop (mkF m 42 #[.val (.int p1), .val (.int p2), .val (.int p3), .val (.int p4), .val (.int p5), .val (.ref b1), .val (.int (2 : Int32)), .unset] [])) _
    refine XS.aload X26.here hx rfl (hb hby at_42) rfl rfl ?_
    show Steps p.tables e below (T26.setTop (mkF m 44 #[.val (.int p1), .val (.int p2), .val (.int p3), .val (.int p4), .val (.int p5), .val (.ref b1), .val (.int (2 : Int32)), .unset] [(.ref b1)])) _
    refine st35.trans ?_
    show Steps p.tables e below (T35.setTop (mkF m 47 #[.val (.int p1), .val (.int p2), .val (.int p3), .val (.int p4), .val (.int p5), .val (.ref b1), .val (.int (2 : Int32)), .unset] [(.int (8 : Int32))])) _
    refine XS.bipush X35.here hx rfl (hb hby at_47) ?_
    show Steps p.tables e below (T35.setTop (mkF m 49 #[.val (.int p1), .val (.int p2), .val (.int p3), .val (.int p4), .val (.int p5), .val (.ref b1), .val (.int (2 : Int32)), .unset] [(.int (8 : Int32)), (.int (8 : Int32))])) _
    refine XS.icmpYes X35.here hx rfl (pc0 := 49) (pc' := 54) rfl (hb hby at_49) rfl (teq (by decide : (8 : Int32) = (8 : Int32))).1 (by decide) (by decide) ?_
    show Steps p.tables e below (T35.setTop (mkF m 54 #[.val (.int p1), .val (.int p2), .val (.int p3), .val (.int p4), .val (.int p5), .val (.ref b1), .val (.int (2 : Int32)), .unset] [])) _
    refine XS.aload X35.here hx rfl (hb hby at_54) rfl rfl ?_
    show Steps p.tables e below (T35.setTop (mkF m 56 #[.val (.int p1), .val (.int p2), .val (.int p3), .val (.int p4), .val (.int p5), .val (.ref b1), .val (.int (2 : Int32)), .unset] [(.ref b1)])) _
    refine st37.trans ?_
    show Steps p.tables e below (T37.setTop (mkF m 59 #[.val (.int p1), .val (.int p2), .val (.int p3), .val (.int p4), .val (.int p5), .val (.ref b1), .val (.int (2 : Int32)), .unset] [(.ref b37_1)])) _
    refine XS.astore X37.here hx rfl (hb hby at_59) rfl rfl (l' := #[.val (.int p1), .val (.int p2), .val (.int p3), .val (.int p4), .val (.int p5), .val (.ref b1), .val (.int (2 : Int32)), .val (.ref b37_1)]) rfl ?_
    show Steps p.tables e below (T37.setTop (mkF m 61 #[.val (.int p1), .val (.int p2), .val (.int p3), .val (.int p4), .val (.int p5), .val (.ref b1), .val (.int (2 : Int32)), .val (.ref b37_1)] [])) _
    refine XS.aload X37.here hx rfl (hb hby at_61) rfl rfl ?_
    show Steps p.tables e below (T37.setTop (mkF m 63 #[.val (.int p1), .val (.int p2), .val (.int p3), .val (.int p4), .val (.int p5), .val (.ref b1), .val (.int (2 : Int32)), .val (.ref b37_1)] [(.ref b37_1)])) _
    refine X37.arraylength hx Aro48.1 (State.isArrayOf_alike hZ.alike Aro48.2.1) (g := (mkF m 63 #[.val (.int p1), .val (.int p2), .val (.int p3), .val (.int p4), .val (.int p5), .val (.ref b1), .val (.int (2 : Int32)), .val (.ref b37_1)] [(.ref b37_1)])) rfl rfl (hb hby at_63) _ ?_
    rw [len_of So48 No48]
    show Steps p.tables e below (T37.setTop (mkF m 64 #[.val (.int p1), .val (.int p2), .val (.int p3), .val (.int p4), .val (.int p5), .val (.ref b1), .val (.int (2 : Int32)), .val (.ref b37_1)] [(.int (8 : Int32))])) _
    refine XS.bipush X37.here hx rfl (hb hby at_64) ?_
    show Steps p.tables e below (T37.setTop (mkF m 66 #[.val (.int p1), .val (.int p2), .val (.int p3), .val (.int p4), .val (.int p5), .val (.ref b1), .val (.int (2 : Int32)), .val (.ref b37_1)] [(.int (8 : Int32)), (.int (8 : Int32))])) _
    refine XS.icmpYes X37.here hx rfl (pc0 := 66) (pc' := 71) rfl (hb hby at_66) rfl (teq (by decide : (8 : Int32) = (8 : Int32))).1 (by decide) (by decide) ?_
    show Steps p.tables e below (T37.setTop (mkF m 71 #[.val (.int p1), .val (.int p2), .val (.int p3), .val (.int p4), .val (.int p5), .val (.ref b1), .val (.int (2 : Int32)), .val (.ref b37_1)] [])) _
    refine XS.aload X37.here hx rfl (hb hby at_71) rfl rfl ?_
    show Steps p.tables e below (T37.setTop (mkF m 73 #[.val (.int p1), .val (.int p2), .val (.int p3), .val (.int p4), .val (.int p5), .val (.ref b1), .val (.int (2 : Int32)), .val (.ref b37_1)] [(.ref b37_1)])) _
    refine XS.iconst X37.here hx rfl (hb hby at_73) ?_
    show Steps p.tables e below (T37.setTop (mkF m 74 #[.val (.int p1), .val (.int p2), .val (.int p3), .val (.int p4), .val (.int p5), .val (.ref b1), .val (.int (2 : Int32)), .val (.ref b37_1)] [(.int (0 : Int32)), (.ref b37_1)])) _
    refine XS.iloadN X37.here hx rfl (hb hby at_74) rfl ?_
    show Steps p.tables e below (T37.setTop (mkF m 75 #[.val (.int p1), .val (.int p2), .val (.int p3), .val (.int p4), .val (.int p5), .val (.ref b1), .val (.int (2 : Int32)), .val (.ref b37_1)] [(.int p2), (.int (0 : Int32)), (.ref b37_1)])) _
    refine XS.iloadN X37.here hx rfl (hb hby at_75) rfl ?_
    show Steps p.tables e below (T37.setTop (mkF m 76 #[.val (.int p1), .val (.int p2), .val (.int p3), .val (.int p4), .val (.int p5), .val (.ref b1), .val (.int (2 : Int32)), .val (.ref b37_1)] [(.int p3), (.int p2), (.int (0 : Int32)), (.ref b37_1)])) _
    refine XS.iload X37.here hx rfl (hb hby at_76) rfl ?_
    show Steps p.tables e below (T37.setTop (mkF m 78 #[.val (.int p1), .val (.int p2), .val (.int p3), .val (.int p4), .val (.int p5), .val (.ref b1), .val (.int (2 : Int32)), .val (.ref b37_1)] [(.int (2 : Int32)), (.int p3), (.int p2), (.int (0 : Int32)), (.ref b37_1)])) _
    refine XS.iload X37.here hx rfl (hb hby at_78) rfl ?_
    show Steps p.tables e below (T37.setTop (mkF m 80 #[.val (.int p1), .val (.int p2), .val (.int p3), .val (.int p4), .val (.int p5), .val (.ref b1), .val (.int (2 : Int32)), .val (.ref b37_1)] [(.int p5), (.int (2 : Int32)), (.int p3), (.int p2), (.int (0 : Int32)), (.ref b37_1)])) _
    refine st49 _ ?_
    show Steps p.tables e below (T49.setTop (mkF m 83 #[.val (.int p1), .val (.int p2), .val (.int p3), .val (.int p4), .val (.int p5), .val (.ref b1), .val (.int (2 : Int32)), .val (.ref b37_1)] [(.int (1 : Int32))])) _
    refine XS.ifNo X49.here hx rfl (hb hby at_83) rfl ((if0 _ _).trans (feq (by decide : ¬ ((1 : Int32) = (0 : Int32)))).1) ?_
    show Steps p.tables e below (T49.setTop (mkF m 86 #[.val (.int p1), .val (.int p2), .val (.int p3), .val (.int p4), .val (.int p5), .val (.ref b1), .val (.int (2 : Int32)), .val (.ref b37_1)] [])) _
    refine XS.aload X49.here hx rfl (hb hby at_86) rfl rfl ?_
    show Steps p.tables e below (T49.setTop (mkF m 88 #[.val (.int p1), .val (.int p2), .val (.int p3), .val (.int p4), .val (.int p5), .val (.ref b1), .val (.int (2 : Int32)), .val (.ref b37_1)] [(.ref b37_1)])) _
    refine XS.iconst X49.here hx rfl (hb hby at_88) ?_
    show Steps p.tables e below (T49.setTop (mkF m 89 #[.val (.int p1), .val (.int p2), .val (.int p3), .val (.int p4), .val (.int p5), .val (.ref b1), .val (.int (2 : Int32)), .val (.ref b37_1)] [(.int (1 : Int32)), (.ref b37_1)])) _
    refine XS.iloadN X49.here hx rfl (hb hby at_89) rfl ?_
    show Steps p.tables e below (T49.setTop (mkF m 90 #[.val (.int p1), .val (.int p2), .val (.int p3), .val (.int p4), .val (.int p5), .val (.ref b1), .val (.int (2 : Int32)), .val (.ref b37_1)] [(.int p2), (.int (1 : Int32)), (.ref b37_1)])) _
    refine XS.iloadN X49.here hx rfl (hb hby at_90) rfl ?_
    show Steps p.tables e below (T49.setTop (mkF m 91 #[.val (.int p1), .val (.int p2), .val (.int p3), .val (.int p4), .val (.int p5), .val (.ref b1), .val (.int (2 : Int32)), .val (.ref b37_1)] [(.int p3), (.int p2), (.int (1 : Int32)), (.ref b37_1)])) _
    refine XS.iload X49.here hx rfl (hb hby at_91) rfl ?_
    show Steps p.tables e below (T49.setTop (mkF m 93 #[.val (.int p1), .val (.int p2), .val (.int p3), .val (.int p4), .val (.int p5), .val (.ref b1), .val (.int (2 : Int32)), .val (.ref b37_1)] [(.int (2 : Int32)), (.int p3), (.int p2), (.int (1 : Int32)), (.ref b37_1)])) _
    refine XS.iload X49.here hx rfl (hb hby at_93) rfl ?_
    show Steps p.tables e below (T49.setTop (mkF m 95 #[.val (.int p1), .val (.int p2), .val (.int p3), .val (.int p4), .val (.int p5), .val (.ref b1), .val (.int (2 : Int32)), .val (.ref b37_1)] [(.int p5), (.int (2 : Int32)), (.int p3), (.int p2), (.int (1 : Int32)), (.ref b37_1)])) _
    refine st51 _ ?_
    show Steps p.tables e below (T51.setTop (mkF m 98 #[.val (.int p1), .val (.int p2), .val (.int p3), .val (.int p4), .val (.int p5), .val (.ref b1), .val (.int (2 : Int32)), .val (.ref b37_1)] [(.int (1 : Int32))])) _
    refine XS.ifNo X51.here hx rfl (hb hby at_98) rfl ((if0 _ _).trans (feq (by decide : ¬ ((1 : Int32) = (0 : Int32)))).1) ?_
    show Steps p.tables e below (T51.setTop (mkF m 101 #[.val (.int p1), .val (.int p2), .val (.int p3), .val (.int p4), .val (.int p5), .val (.ref b1), .val (.int (2 : Int32)), .val (.ref b37_1)] [])) _
    refine XS.aload X51.here hx rfl (hb hby at_101) rfl rfl ?_
    show Steps p.tables e below (T51.setTop (mkF m 103 #[.val (.int p1), .val (.int p2), .val (.int p3), .val (.int p4), .val (.int p5), .val (.ref b1), .val (.int (2 : Int32)), .val (.ref b37_1)] [(.ref b37_1)])) _
    refine XS.iconst X51.here hx rfl (hb hby at_103) ?_
    show Steps p.tables e below (T51.setTop (mkF m 104 #[.val (.int p1), .val (.int p2), .val (.int p3), .val (.int p4), .val (.int p5), .val (.ref b1), .val (.int (2 : Int32)), .val (.ref b37_1)] [(.int (2 : Int32)), (.ref b37_1)])) _
    refine XS.iloadN X51.here hx rfl (hb hby at_104) rfl ?_
    show Steps p.tables e below (T51.setTop (mkF m 105 #[.val (.int p1), .val (.int p2), .val (.int p3), .val (.int p4), .val (.int p5), .val (.ref b1), .val (.int (2 : Int32)), .val (.ref b37_1)] [(.int p2), (.int (2 : Int32)), (.ref b37_1)])) _
    refine XS.iloadN X51.here hx rfl (hb hby at_105) rfl ?_
    show Steps p.tables e below (T51.setTop (mkF m 106 #[.val (.int p1), .val (.int p2), .val (.int p3), .val (.int p4), .val (.int p5), .val (.ref b1), .val (.int (2 : Int32)), .val (.ref b37_1)] [(.int p3), (.int p2), (.int (2 : Int32)), (.ref b37_1)])) _
    refine XS.iload X51.here hx rfl (hb hby at_106) rfl ?_
    show Steps p.tables e below (T51.setTop (mkF m 108 #[.val (.int p1), .val (.int p2), .val (.int p3), .val (.int p4), .val (.int p5), .val (.ref b1), .val (.int (2 : Int32)), .val (.ref b37_1)] [(.int (2 : Int32)), (.int p3), (.int p2), (.int (2 : Int32)), (.ref b37_1)])) _
    refine XS.iload X51.here hx rfl (hb hby at_108) rfl ?_
    show Steps p.tables e below (T51.setTop (mkF m 110 #[.val (.int p1), .val (.int p2), .val (.int p3), .val (.int p4), .val (.int p5), .val (.ref b1), .val (.int (2 : Int32)), .val (.ref b37_1)] [(.int p5), (.int (2 : Int32)), (.int p3), (.int p2), (.int (2 : Int32)), (.ref b37_1)])) _
    refine st53 _ ?_
    show Steps p.tables e below (T53.setTop (mkF m 113 #[.val (.int p1), .val (.int p2), .val (.int p3), .val (.int p4), .val (.int p5), .val (.ref b1), .val (.int (2 : Int32)), .val (.ref b37_1)] [(.int (1 : Int32))])) _
    refine XS.ifNo X53.here hx rfl (hb hby at_113) rfl ((if0 _ _).trans (feq (by decide : ¬ ((1 : Int32) = (0 : Int32)))).1) ?_
    show Steps p.tables e below (T53.setTop (mkF m 116 #[.val (.int p1), .val (.int p2), .val (.int p3), .val (.int p4), .val (.int p5), .val (.ref b1), .val (.int (2 : Int32)), .val (.ref b37_1)] [])) _
    refine XS.aload X53.here hx rfl (hb hby at_116) rfl rfl ?_
    show Steps p.tables e below (T53.setTop (mkF m 118 #[.val (.int p1), .val (.int p2), .val (.int p3), .val (.int p4), .val (.int p5), .val (.ref b1), .val (.int (2 : Int32)), .val (.ref b37_1)] [(.ref b37_1)])) _
    refine XS.iconst X53.here hx rfl (hb hby at_118) ?_
    show Steps p.tables e below (T53.setTop (mkF m 119 #[.val (.int p1), .val (.int p2), .val (.int p3), .val (.int p4), .val (.int p5), .val (.ref b1), .val (.int (2 : Int32)), .val (.ref b37_1)] [(.int (3 : Int32)), (.ref b37_1)])) _
    refine XS.iloadN X53.here hx rfl (hb hby at_119) rfl ?_
    show Steps p.tables e below (T53.setTop (mkF m 120 #[.val (.int p1), .val (.int p2), .val (.int p3), .val (.int p4), .val (.int p5), .val (.ref b1), .val (.int (2 : Int32)), .val (.ref b37_1)] [(.int p2), (.int (3 : Int32)), (.ref b37_1)])) _
    refine XS.iloadN X53.here hx rfl (hb hby at_120) rfl ?_
    show Steps p.tables e below (T53.setTop (mkF m 121 #[.val (.int p1), .val (.int p2), .val (.int p3), .val (.int p4), .val (.int p5), .val (.ref b1), .val (.int (2 : Int32)), .val (.ref b37_1)] [(.int p3), (.int p2), (.int (3 : Int32)), (.ref b37_1)])) _
    refine XS.iload X53.here hx rfl (hb hby at_121) rfl ?_
    show Steps p.tables e below (T53.setTop (mkF m 123 #[.val (.int p1), .val (.int p2), .val (.int p3), .val (.int p4), .val (.int p5), .val (.ref b1), .val (.int (2 : Int32)), .val (.ref b37_1)] [(.int (2 : Int32)), (.int p3), (.int p2), (.int (3 : Int32)), (.ref b37_1)])) _
    refine XS.iload X53.here hx rfl (hb hby at_123) rfl ?_
    show Steps p.tables e below (T53.setTop (mkF m 125 #[.val (.int p1), .val (.int p2), .val (.int p3), .val (.int p4), .val (.int p5), .val (.ref b1), .val (.int (2 : Int32)), .val (.ref b37_1)] [(.int p5), (.int (2 : Int32)), (.int p3), (.int p2), (.int (3 : Int32)), (.ref b37_1)])) _
    refine st55 _ ?_
    show Steps p.tables e below (T55.setTop (mkF m 128 #[.val (.int p1), .val (.int p2), .val (.int p3), .val (.int p4), .val (.int p5), .val (.ref b1), .val (.int (2 : Int32)), .val (.ref b37_1)] [(.int (1 : Int32))])) _
    refine XS.ifNo X55.here hx rfl (hb hby at_128) rfl ((if0 _ _).trans (feq (by decide : ¬ ((1 : Int32) = (0 : Int32)))).1) ?_
    show Steps p.tables e below (T55.setTop (mkF m 131 #[.val (.int p1), .val (.int p2), .val (.int p3), .val (.int p4), .val (.int p5), .val (.ref b1), .val (.int (2 : Int32)), .val (.ref b37_1)] [])) _
    refine XS.aload X55.here hx rfl (hb hby at_131) rfl rfl ?_
    show Steps p.tables e below (T55.setTop (mkF m 133 #[.val (.int p1), .val (.int p2), .val (.int p3), .val (.int p4), .val (.int p5), .val (.ref b1), .val (.int (2 : Int32)), .val (.ref b37_1)] [(.ref b37_1)])) _
    refine XS.iconst X55.here hx rfl (hb hby at_133) ?_
    show Steps p.tables e below (T55.setTop (mkF m 134 #[.val (.int p1), .val (.int p2), .val (.int p3), .val (.int p4), .val (.int p5), .val (.ref b1), .val (.int (2 : Int32)), .val (.ref b37_1)] [(.int (4 : Int32)), (.ref b37_1)])) _
    refine XS.iloadN X55.here hx rfl (hb hby at_134) rfl ?_
    show Steps p.tables e below (T55.setTop (mkF m 135 #[.val (.int p1), .val (.int p2), .val (.int p3), .val (.int p4), .val (.int p5), .val (.ref b1), .val (.int (2 : Int32)), .val (.ref b37_1)] [(.int p2), (.int (4 : Int32)), (.ref b37_1)])) _
    refine XS.iloadN X55.here hx rfl (hb hby at_135) rfl ?_
    show Steps p.tables e below (T55.setTop (mkF m 136 #[.val (.int p1), .val (.int p2), .val (.int p3), .val (.int p4), .val (.int p5), .val (.ref b1), .val (.int (2 : Int32)), .val (.ref b37_1)] [(.int p3), (.int p2), (.int (4 : Int32)), (.ref b37_1)])) _
    refine XS.iload X55.here hx rfl (hb hby at_136) rfl ?_
    show Steps p.tables e below (T55.setTop (mkF m 138 #[.val (.int p1), .val (.int p2), .val (.int p3), .val (.int p4), .val (.int p5), .val (.ref b1), .val (.int (2 : Int32)), .val (.ref b37_1)] [(.int (2 : Int32)), (.int p3), (.int p2), (.int (4 : Int32)), (.ref b37_1)])) _
    refine XS.iload X55.here hx rfl (hb hby at_138) rfl ?_
    show Steps p.tables e below (T55.setTop (mkF m 140 #[.val (.int p1), .val (.int p2), .val (.int p3), .val (.int p4), .val (.int p5), .val (.ref b1), .val (.int (2 : Int32)), .val (.ref b37_1)] [(.int p5), (.int (2 : Int32)), (.int p3), (.int p2), (.int (4 : Int32)), (.ref b37_1)])) _
    refine st57 _ ?_
    show Steps p.tables e below (T57.setTop (mkF m 143 #[.val (.int p1), .val (.int p2), .val (.int p3), .val (.int p4), .val (.int p5), .val (.ref b1), .val (.int (2 : Int32)), .val (.ref b37_1)] [(.int (1 : Int32))])) _
    refine XS.ifNo X57.here hx rfl (hb hby at_143) rfl ((if0 _ _).trans (feq (by decide : ¬ ((1 : Int32) = (0 : Int32)))).1) ?_
    show Steps p.tables e below (T57.setTop (mkF m 146 #[.val (.int p1), .val (.int p2), .val (.int p3), .val (.int p4), .val (.int p5), .val (.ref b1), .val (.int (2 : Int32)), .val (.ref b37_1)] [])) _
    refine XS.aload X57.here hx rfl (hb hby at_146) rfl rfl ?_
    show Steps p.tables e below (T57.setTop (mkF m 148 #[.val (.int p1), .val (.int p2), .val (.int p3), .val (.int p4), .val (.int p5), .val (.ref b1), .val (.int (2 : Int32)), .val (.ref b37_1)] [(.ref b37_1)])) _
    refine XS.iconst X57.here hx rfl (hb hby at_148) ?_
    show Steps p.tables e below (T57.setTop (mkF m 149 #[.val (.int p1), .val (.int p2), .val (.int p3), .val (.int p4), .val (.int p5), .val (.ref b1), .val (.int (2 : Int32)), .val (.ref b37_1)] [(.int (5 : Int32)), (.ref b37_1)])) _
    refine XS.iloadN X57.here hx rfl (hb hby at_149) rfl ?_
    show Steps p.tables e below (T57.setTop (mkF m 150 #[.val (.int p1), .val (.int p2), .val (.int p3), .val (.int p4), .val (.int p5), .val (.ref b1), .val (.int (2 : Int32)), .val (.ref b37_1)] [(.int p2), (.int (5 : Int32)), (.ref b37_1)])) _
    refine XS.iloadN X57.here hx rfl (hb hby at_150) rfl ?_
    show Steps p.tables e below (T57.setTop (mkF m 151 #[.val (.int p1), .val (.int p2), .val (.int p3), .val (.int p4), .val (.int p5), .val (.ref b1), .val (.int (2 : Int32)), .val (.ref b37_1)] [(.int p3), (.int p2), (.int (5 : Int32)), (.ref b37_1)])) _
    refine XS.iload X57.here hx rfl (hb hby at_151) rfl ?_
    show Steps p.tables e below (T57.setTop (mkF m 153 #[.val (.int p1), .val (.int p2), .val (.int p3), .val (.int p4), .val (.int p5), .val (.ref b1), .val (.int (2 : Int32)), .val (.ref b37_1)] [(.int (2 : Int32)), (.int p3), (.int p2), (.int (5 : Int32)), (.ref b37_1)])) _
    refine XS.iload X57.here hx rfl (hb hby at_153) rfl ?_
    show Steps p.tables e below (T57.setTop (mkF m 155 #[.val (.int p1), .val (.int p2), .val (.int p3), .val (.int p4), .val (.int p5), .val (.ref b1), .val (.int (2 : Int32)), .val (.ref b37_1)] [(.int p5), (.int (2 : Int32)), (.int p3), (.int p2), (.int (5 : Int32)), (.ref b37_1)])) _
    refine st59 _ ?_
    show Steps p.tables e below (T59.setTop (mkF m 158 #[.val (.int p1), .val (.int p2), .val (.int p3), .val (.int p4), .val (.int p5), .val (.ref b1), .val (.int (2 : Int32)), .val (.ref b37_1)] [(.int (1 : Int32))])) _
    refine XS.ifNo X59.here hx rfl (hb hby at_158) rfl ((if0 _ _).trans (feq (by decide : ¬ ((1 : Int32) = (0 : Int32)))).1) ?_
    show Steps p.tables e below (T59.setTop (mkF m 161 #[.val (.int p1), .val (.int p2), .val (.int p3), .val (.int p4), .val (.int p5), .val (.ref b1), .val (.int (2 : Int32)), .val (.ref b37_1)] [])) _
    refine XS.aload X59.here hx rfl (hb hby at_161) rfl rfl ?_
    show Steps p.tables e below (T59.setTop (mkF m 163 #[.val (.int p1), .val (.int p2), .val (.int p3), .val (.int p4), .val (.int p5), .val (.ref b1), .val (.int (2 : Int32)), .val (.ref b37_1)] [(.ref b37_1)])) _
    refine XS.bipush X59.here hx rfl (hb hby at_163) ?_
    show Steps p.tables e below (T59.setTop (mkF m 165 #[.val (.int p1), .val (.int p2), .val (.int p3), .val (.int p4), .val (.int p5), .val (.ref b1), .val (.int (2 : Int32)), .val (.ref b37_1)] [(.int (6 : Int32)), (.ref b37_1)])) _
    refine XS.iloadN X59.here hx rfl (hb hby at_165) rfl ?_
    show Steps p.tables e below (T59.setTop (mkF m 166 #[.val (.int p1), .val (.int p2), .val (.int p3), .val (.int p4), .val (.int p5), .val (.ref b1), .val (.int (2 : Int32)), .val (.ref b37_1)] [(.int p2), (.int (6 : Int32)), (.ref b37_1)])) _
    refine XS.iloadN X59.here hx rfl (hb hby at_166) rfl ?_
    show Steps p.tables e below (T59.setTop (mkF m 167 #[.val (.int p1), .val (.int p2), .val (.int p3), .val (.int p4), .val (.int p5), .val (.ref b1), .val (.int (2 : Int32)), .val (.ref b37_1)] [(.int p3), (.int p2), (.int (6 : Int32)), (.ref b37_1)])) _
    refine XS.iload X59.here hx rfl (hb hby at_167) rfl ?_
    show Steps p.tables e below (T59.setTop (mkF m 169 #[.val (.int p1), .val (.int p2), .val (.int p3), .val (.int p4), .val (.int p5), .val (.ref b1), .val (.int (2 : Int32)), .val (.ref b37_1)] [(.int (2 : Int32)), (.int p3), (.int p2), (.int (6 : Int32)), (.ref b37_1)])) _
    refine XS.iload X59.here hx rfl (hb hby at_169) rfl ?_
    show Steps p.tables e below (T59.setTop (mkF m 171 #[.val (.int p1), .val (.int p2), .val (.int p3), .val (.int p4), .val (.int p5), .val (.ref b1), .val (.int (2 : Int32)), .val (.ref b37_1)] [(.int p5), (.int (2 : Int32)), (.int p3), (.int p2), (.int (6 : Int32)), (.ref b37_1)])) _
    refine st61 _ ?_
    show Steps p.tables e below (T61.setTop (mkF m 174 #[.val (.int p1), .val (.int p2), .val (.int p3), .val (.int p4), .val (.int p5), .val (.ref b1), .val (.int (2 : Int32)), .val (.ref b37_1)] [(.int (1 : Int32))])) _
    refine XS.ifNo X61.here hx rfl (hb hby at_174) rfl ((if0 _ _).trans (feq (by decide : ¬ ((1 : Int32) = (0 : Int32)))).1) ?_
    show Steps p.tables e below (T61.setTop (mkF m 177 #[.val (.int p1), .val (.int p2), .val (.int p3), .val (.int p4), .val (.int p5), .val (.ref b1), .val (.int (2 : Int32)), .val (.ref b37_1)] [])) _
    refine XS.aload X61.here hx rfl (hb hby at_177) rfl rfl ?_
    show Steps p.tables e below (T61.setTop (mkF m 179 #[.val (.int p1), .val (.int p2), .val (.int p3), .val (.int p4), .val (.int p5), .val (.ref b1), .val (.int (2 : Int32)), .val (.ref b37_1)] [(.ref b37_1)])) _
    refine XS.bipush X61.here hx rfl (hb hby at_179) ?_
    show Steps p.tables e below (T61.setTop (mkF m 181 #[.val (.int p1), .val (.int p2), .val (.int p3), .val (.int p4), .val (.int p5), .val (.ref b1), .val (.int (2 : Int32)), .val (.ref b37_1)] [(.int (7 : Int32)), (.ref b37_1)])) _
    refine XS.iloadN X61.here hx rfl (hb hby at_181) rfl ?_
    show Steps p.tables e below (T61.setTop (mkF m 182 #[.val (.int p1), .val (.int p2), .val (.int p3), .val (.int p4), .val (.int p5), .val (.ref b1), .val (.int (2 : Int32)), .val (.ref b37_1)] [(.int p2), (.int (7 : Int32)), (.ref b37_1)])) _
    refine XS.iloadN X61.here hx rfl (hb hby at_182) rfl ?_
    show Steps p.tables e below (T61.setTop (mkF m 183 #[.val (.int p1), .val (.int p2), .val (.int p3), .val (.int p4), .val (.int p5), .val (.ref b1), .val (.int (2 : Int32)), .val (.ref b37_1)] [(.int p3), (.int p2), (.int (7 : Int32)), (.ref b37_1)])) _
    refine XS.iload X61.here hx rfl (hb hby at_183) rfl ?_
    show Steps p.tables e below (T61.setTop (mkF m 185 #[.val (.int p1), .val (.int p2), .val (.int p3), .val (.int p4), .val (.int p5), .val (.ref b1), .val (.int (2 : Int32)), .val (.ref b37_1)] [(.int (2 : Int32)), (.int p3), (.int p2), (.int (7 : Int32)), (.ref b37_1)])) _
    refine XS.iload X61.here hx rfl (hb hby at_185) rfl ?_
    show Steps p.tables e below (T61.setTop (mkF m 187 #[.val (.int p1), .val (.int p2), .val (.int p3), .val (.int p4), .val (.int p5), .val (.ref b1), .val (.int (2 : Int32)), .val (.ref b37_1)] [(.int p5), (.int (2 : Int32)), (.int p3), (.int p2), (.int (7 : Int32)), (.ref b37_1)])) _
    refine st63 _ ?_
    show Steps p.tables e below (T63.setTop (mkF m 190 #[.val (.int p1), .val (.int p2), .val (.int p3), .val (.int p4), .val (.int p5), .val (.ref b1), .val (.int (2 : Int32)), .val (.ref b37_1)] [(.int (1 : Int32))])) _
    refine XS.ifNo X63.here hx rfl (hb hby at_190) rfl ((if0 _ _).trans (feq (by decide : ¬ ((1 : Int32) = (0 : Int32)))).1) ?_
    show Steps p.tables e below (T63.setTop (mkF m 193 #[.val (.int p1), .val (.int p2), .val (.int p3), .val (.int p4), .val (.int p5), .val (.ref b1), .val (.int (2 : Int32)), .val (.ref b37_1)] [])) _
    refine XS.iconst X63.here hx rfl (hb hby at_193) ?_
    show Steps p.tables e below (T63.setTop (mkF m 194 #[.val (.int p1), .val (.int p2), .val (.int p3), .val (.int p4), .val (.int p5), .val (.ref b1), .val (.int (2 : Int32)), .val (.ref b37_1)] [(.int (1 : Int32))])) _
    refine XS.goto X63.here hx rfl (pc0 := 194) (pc' := 198) rfl (hb hby at_194) (by decide) (by decide) ?_
    show Steps p.tables e below (T63.setTop (mkF m 198 #[.val (.int p1), .val (.int p2), .val (.int p3), .val (.int p4), .val (.int p5), .val (.ref b1), .val (.int (2 : Int32)), .val (.ref b37_1)] [(.int (1 : Int32))])) _
    exact retN X63 hx (t := .boolean) Bd.returns (by simp) (hb hby at_198) hr
  · show Q_law Z p1 p2 p3 p4 p5 h0 n0 _ T63.heap _
    rw [e63]
    exact ⟨rfl, N64⟩
def Road_at3 (p1 : Int32) (p2 : Int32) (p3 : Int32) (p4 : Int32) (p5 : Int32) : Prop := (¬ ((p1 &&& (15 : Int32)) < (0 : Int32))) ∧ ((p1 &&& (15 : Int32)).toNatClampNeg ≤ 15) ∧ (own_B (0 : Int32) (p1 &&& (15 : Int32)) (List.replicate 16 (Value.int (0 : Int32)))) ∧ (((p4 &&& (2147483647 : Int32)) % (5 : Int32)) = (3 : Int32)) ∧ (((own_at (((((((((((((List.replicate 16 (Value.int (0 : Int32))).set (0 : Int32).toNatClampNeg (.int ((((p2.toUInt32 >>> ((24 : Int32) &&& 31).toUInt32).toInt32).toInt8.toInt32).toInt8.toInt32))).set (1 : Int32).toNatClampNeg (.int ((((p2.toUInt32 >>> ((16 : Int32) &&& 31).toUInt32).toInt32).toInt8.toInt32).toInt8.toInt32))).set (2 : Int32).toNatClampNeg (.int ((((p2.toUInt32 >>> ((8 : Int32) &&& 31).toUInt32).toInt32).toInt8.toInt32).toInt8.toInt32))).set (3 : Int32).toNatClampNeg (.int ((p2.toInt8.toInt32).toInt8.toInt32))).set (4 : Int32).toNatClampNeg (.int ((((p3.toUInt32 >>> ((24 : Int32) &&& 31).toUInt32).toInt32).toInt8.toInt32).toInt8.toInt32))).set (5 : Int32).toNatClampNeg (.int ((((p3.toUInt32 >>> ((16 : Int32) &&& 31).toUInt32).toInt32).toInt8.toInt32).toInt8.toInt32))).set (6 : Int32).toNatClampNeg (.int ((((p3.toUInt32 >>> ((8 : Int32) &&& 31).toUInt32).toInt32).toInt8.toInt32).toInt8.toInt32))).set (7 : Int32).toNatClampNeg (.int ((p3.toInt8.toInt32).toInt8.toInt32))).set (3 : Int32).toNatClampNeg (.int ((((p5.toUInt32 >>> ((24 : Int32) &&& 31).toUInt32).toInt32).toInt8.toInt32).toInt8.toInt32))).set (4 : Int32).toNatClampNeg (.int ((((p5.toUInt32 >>> ((16 : Int32) &&& 31).toUInt32).toInt32).toInt8.toInt32).toInt8.toInt32))).set (5 : Int32).toNatClampNeg (.int ((((p5.toUInt32 >>> ((8 : Int32) &&& 31).toUInt32).toInt32).toInt8.toInt32).toInt8.toInt32))).set (6 : Int32).toNatClampNeg (.int ((p5.toInt8.toInt32).toInt8.toInt32))) ((0 : Int32)).toNatClampNeg (.int (0 : Int32))) &&& (255 : Int32)) = (f_orig (0 : Int32) p2 p3)) ∧ (((own_at (((((((((((((List.replicate 16 (Value.int (0 : Int32))).set (0 : Int32).toNatClampNeg (.int ((((p2.toUInt32 >>> ((24 : Int32) &&& 31).toUInt32).toInt32).toInt8.toInt32).toInt8.toInt32))).set (1 : Int32).toNatClampNeg (.int ((((p2.toUInt32 >>> ((16 : Int32) &&& 31).toUInt32).toInt32).toInt8.toInt32).toInt8.toInt32))).set (2 : Int32).toNatClampNeg (.int ((((p2.toUInt32 >>> ((8 : Int32) &&& 31).toUInt32).toInt32).toInt8.toInt32).toInt8.toInt32))).set (3 : Int32).toNatClampNeg (.int ((p2.toInt8.toInt32).toInt8.toInt32))).set (4 : Int32).toNatClampNeg (.int ((((p3.toUInt32 >>> ((24 : Int32) &&& 31).toUInt32).toInt32).toInt8.toInt32).toInt8.toInt32))).set (5 : Int32).toNatClampNeg (.int ((((p3.toUInt32 >>> ((16 : Int32) &&& 31).toUInt32).toInt32).toInt8.toInt32).toInt8.toInt32))).set (6 : Int32).toNatClampNeg (.int ((((p3.toUInt32 >>> ((8 : Int32) &&& 31).toUInt32).toInt32).toInt8.toInt32).toInt8.toInt32))).set (7 : Int32).toNatClampNeg (.int ((p3.toInt8.toInt32).toInt8.toInt32))).set (3 : Int32).toNatClampNeg (.int ((((p5.toUInt32 >>> ((24 : Int32) &&& 31).toUInt32).toInt32).toInt8.toInt32).toInt8.toInt32))).set (4 : Int32).toNatClampNeg (.int ((((p5.toUInt32 >>> ((16 : Int32) &&& 31).toUInt32).toInt32).toInt8.toInt32).toInt8.toInt32))).set (5 : Int32).toNatClampNeg (.int ((((p5.toUInt32 >>> ((8 : Int32) &&& 31).toUInt32).toInt32).toInt8.toInt32).toInt8.toInt32))).set (6 : Int32).toNatClampNeg (.int ((p5.toInt8.toInt32).toInt8.toInt32))) ((1 : Int32)).toNatClampNeg (.int (0 : Int32))) &&& (255 : Int32)) = (f_orig (1 : Int32) p2 p3)) ∧ (((own_at (((((((((((((List.replicate 16 (Value.int (0 : Int32))).set (0 : Int32).toNatClampNeg (.int ((((p2.toUInt32 >>> ((24 : Int32) &&& 31).toUInt32).toInt32).toInt8.toInt32).toInt8.toInt32))).set (1 : Int32).toNatClampNeg (.int ((((p2.toUInt32 >>> ((16 : Int32) &&& 31).toUInt32).toInt32).toInt8.toInt32).toInt8.toInt32))).set (2 : Int32).toNatClampNeg (.int ((((p2.toUInt32 >>> ((8 : Int32) &&& 31).toUInt32).toInt32).toInt8.toInt32).toInt8.toInt32))).set (3 : Int32).toNatClampNeg (.int ((p2.toInt8.toInt32).toInt8.toInt32))).set (4 : Int32).toNatClampNeg (.int ((((p3.toUInt32 >>> ((24 : Int32) &&& 31).toUInt32).toInt32).toInt8.toInt32).toInt8.toInt32))).set (5 : Int32).toNatClampNeg (.int ((((p3.toUInt32 >>> ((16 : Int32) &&& 31).toUInt32).toInt32).toInt8.toInt32).toInt8.toInt32))).set (6 : Int32).toNatClampNeg (.int ((((p3.toUInt32 >>> ((8 : Int32) &&& 31).toUInt32).toInt32).toInt8.toInt32).toInt8.toInt32))).set (7 : Int32).toNatClampNeg (.int ((p3.toInt8.toInt32).toInt8.toInt32))).set (3 : Int32).toNatClampNeg (.int ((((p5.toUInt32 >>> ((24 : Int32) &&& 31).toUInt32).toInt32).toInt8.toInt32).toInt8.toInt32))).set (4 : Int32).toNatClampNeg (.int ((((p5.toUInt32 >>> ((16 : Int32) &&& 31).toUInt32).toInt32).toInt8.toInt32).toInt8.toInt32))).set (5 : Int32).toNatClampNeg (.int ((((p5.toUInt32 >>> ((8 : Int32) &&& 31).toUInt32).toInt32).toInt8.toInt32).toInt8.toInt32))).set (6 : Int32).toNatClampNeg (.int ((p5.toInt8.toInt32).toInt8.toInt32))) ((2 : Int32)).toNatClampNeg (.int (0 : Int32))) &&& (255 : Int32)) = (f_orig (2 : Int32) p2 p3)) ∧ (((own_at (((((((((((((List.replicate 16 (Value.int (0 : Int32))).set (0 : Int32).toNatClampNeg (.int ((((p2.toUInt32 >>> ((24 : Int32) &&& 31).toUInt32).toInt32).toInt8.toInt32).toInt8.toInt32))).set (1 : Int32).toNatClampNeg (.int ((((p2.toUInt32 >>> ((16 : Int32) &&& 31).toUInt32).toInt32).toInt8.toInt32).toInt8.toInt32))).set (2 : Int32).toNatClampNeg (.int ((((p2.toUInt32 >>> ((8 : Int32) &&& 31).toUInt32).toInt32).toInt8.toInt32).toInt8.toInt32))).set (3 : Int32).toNatClampNeg (.int ((p2.toInt8.toInt32).toInt8.toInt32))).set (4 : Int32).toNatClampNeg (.int ((((p3.toUInt32 >>> ((24 : Int32) &&& 31).toUInt32).toInt32).toInt8.toInt32).toInt8.toInt32))).set (5 : Int32).toNatClampNeg (.int ((((p3.toUInt32 >>> ((16 : Int32) &&& 31).toUInt32).toInt32).toInt8.toInt32).toInt8.toInt32))).set (6 : Int32).toNatClampNeg (.int ((((p3.toUInt32 >>> ((8 : Int32) &&& 31).toUInt32).toInt32).toInt8.toInt32).toInt8.toInt32))).set (7 : Int32).toNatClampNeg (.int ((p3.toInt8.toInt32).toInt8.toInt32))).set (3 : Int32).toNatClampNeg (.int ((((p5.toUInt32 >>> ((24 : Int32) &&& 31).toUInt32).toInt32).toInt8.toInt32).toInt8.toInt32))).set (4 : Int32).toNatClampNeg (.int ((((p5.toUInt32 >>> ((16 : Int32) &&& 31).toUInt32).toInt32).toInt8.toInt32).toInt8.toInt32))).set (5 : Int32).toNatClampNeg (.int ((((p5.toUInt32 >>> ((8 : Int32) &&& 31).toUInt32).toInt32).toInt8.toInt32).toInt8.toInt32))).set (6 : Int32).toNatClampNeg (.int ((p5.toInt8.toInt32).toInt8.toInt32))) ((3 : Int32)).toNatClampNeg (.int (0 : Int32))) &&& (255 : Int32)) = ((p5 >>> ((24 : Int32) &&& 31)) &&& (255 : Int32))) ∧ (((own_at (((((((((((((List.replicate 16 (Value.int (0 : Int32))).set (0 : Int32).toNatClampNeg (.int ((((p2.toUInt32 >>> ((24 : Int32) &&& 31).toUInt32).toInt32).toInt8.toInt32).toInt8.toInt32))).set (1 : Int32).toNatClampNeg (.int ((((p2.toUInt32 >>> ((16 : Int32) &&& 31).toUInt32).toInt32).toInt8.toInt32).toInt8.toInt32))).set (2 : Int32).toNatClampNeg (.int ((((p2.toUInt32 >>> ((8 : Int32) &&& 31).toUInt32).toInt32).toInt8.toInt32).toInt8.toInt32))).set (3 : Int32).toNatClampNeg (.int ((p2.toInt8.toInt32).toInt8.toInt32))).set (4 : Int32).toNatClampNeg (.int ((((p3.toUInt32 >>> ((24 : Int32) &&& 31).toUInt32).toInt32).toInt8.toInt32).toInt8.toInt32))).set (5 : Int32).toNatClampNeg (.int ((((p3.toUInt32 >>> ((16 : Int32) &&& 31).toUInt32).toInt32).toInt8.toInt32).toInt8.toInt32))).set (6 : Int32).toNatClampNeg (.int ((((p3.toUInt32 >>> ((8 : Int32) &&& 31).toUInt32).toInt32).toInt8.toInt32).toInt8.toInt32))).set (7 : Int32).toNatClampNeg (.int ((p3.toInt8.toInt32).toInt8.toInt32))).set (3 : Int32).toNatClampNeg (.int ((((p5.toUInt32 >>> ((24 : Int32) &&& 31).toUInt32).toInt32).toInt8.toInt32).toInt8.toInt32))).set (4 : Int32).toNatClampNeg (.int ((((p5.toUInt32 >>> ((16 : Int32) &&& 31).toUInt32).toInt32).toInt8.toInt32).toInt8.toInt32))).set (5 : Int32).toNatClampNeg (.int ((((p5.toUInt32 >>> ((8 : Int32) &&& 31).toUInt32).toInt32).toInt8.toInt32).toInt8.toInt32))).set (6 : Int32).toNatClampNeg (.int ((p5.toInt8.toInt32).toInt8.toInt32))) ((4 : Int32)).toNatClampNeg (.int (0 : Int32))) &&& (255 : Int32)) = ((p5 >>> ((16 : Int32) &&& 31)) &&& (255 : Int32))) ∧ (((own_at (((((((((((((List.replicate 16 (Value.int (0 : Int32))).set (0 : Int32).toNatClampNeg (.int ((((p2.toUInt32 >>> ((24 : Int32) &&& 31).toUInt32).toInt32).toInt8.toInt32).toInt8.toInt32))).set (1 : Int32).toNatClampNeg (.int ((((p2.toUInt32 >>> ((16 : Int32) &&& 31).toUInt32).toInt32).toInt8.toInt32).toInt8.toInt32))).set (2 : Int32).toNatClampNeg (.int ((((p2.toUInt32 >>> ((8 : Int32) &&& 31).toUInt32).toInt32).toInt8.toInt32).toInt8.toInt32))).set (3 : Int32).toNatClampNeg (.int ((p2.toInt8.toInt32).toInt8.toInt32))).set (4 : Int32).toNatClampNeg (.int ((((p3.toUInt32 >>> ((24 : Int32) &&& 31).toUInt32).toInt32).toInt8.toInt32).toInt8.toInt32))).set (5 : Int32).toNatClampNeg (.int ((((p3.toUInt32 >>> ((16 : Int32) &&& 31).toUInt32).toInt32).toInt8.toInt32).toInt8.toInt32))).set (6 : Int32).toNatClampNeg (.int ((((p3.toUInt32 >>> ((8 : Int32) &&& 31).toUInt32).toInt32).toInt8.toInt32).toInt8.toInt32))).set (7 : Int32).toNatClampNeg (.int ((p3.toInt8.toInt32).toInt8.toInt32))).set (3 : Int32).toNatClampNeg (.int ((((p5.toUInt32 >>> ((24 : Int32) &&& 31).toUInt32).toInt32).toInt8.toInt32).toInt8.toInt32))).set (4 : Int32).toNatClampNeg (.int ((((p5.toUInt32 >>> ((16 : Int32) &&& 31).toUInt32).toInt32).toInt8.toInt32).toInt8.toInt32))).set (5 : Int32).toNatClampNeg (.int ((((p5.toUInt32 >>> ((8 : Int32) &&& 31).toUInt32).toInt32).toInt8.toInt32).toInt8.toInt32))).set (6 : Int32).toNatClampNeg (.int ((p5.toInt8.toInt32).toInt8.toInt32))) ((5 : Int32)).toNatClampNeg (.int (0 : Int32))) &&& (255 : Int32)) = ((p5 >>> ((8 : Int32) &&& 31)) &&& (255 : Int32))) ∧ (((own_at (((((((((((((List.replicate 16 (Value.int (0 : Int32))).set (0 : Int32).toNatClampNeg (.int ((((p2.toUInt32 >>> ((24 : Int32) &&& 31).toUInt32).toInt32).toInt8.toInt32).toInt8.toInt32))).set (1 : Int32).toNatClampNeg (.int ((((p2.toUInt32 >>> ((16 : Int32) &&& 31).toUInt32).toInt32).toInt8.toInt32).toInt8.toInt32))).set (2 : Int32).toNatClampNeg (.int ((((p2.toUInt32 >>> ((8 : Int32) &&& 31).toUInt32).toInt32).toInt8.toInt32).toInt8.toInt32))).set (3 : Int32).toNatClampNeg (.int ((p2.toInt8.toInt32).toInt8.toInt32))).set (4 : Int32).toNatClampNeg (.int ((((p3.toUInt32 >>> ((24 : Int32) &&& 31).toUInt32).toInt32).toInt8.toInt32).toInt8.toInt32))).set (5 : Int32).toNatClampNeg (.int ((((p3.toUInt32 >>> ((16 : Int32) &&& 31).toUInt32).toInt32).toInt8.toInt32).toInt8.toInt32))).set (6 : Int32).toNatClampNeg (.int ((((p3.toUInt32 >>> ((8 : Int32) &&& 31).toUInt32).toInt32).toInt8.toInt32).toInt8.toInt32))).set (7 : Int32).toNatClampNeg (.int ((p3.toInt8.toInt32).toInt8.toInt32))).set (3 : Int32).toNatClampNeg (.int ((((p5.toUInt32 >>> ((24 : Int32) &&& 31).toUInt32).toInt32).toInt8.toInt32).toInt8.toInt32))).set (4 : Int32).toNatClampNeg (.int ((((p5.toUInt32 >>> ((16 : Int32) &&& 31).toUInt32).toInt32).toInt8.toInt32).toInt8.toInt32))).set (5 : Int32).toNatClampNeg (.int ((((p5.toUInt32 >>> ((8 : Int32) &&& 31).toUInt32).toInt32).toInt8.toInt32).toInt8.toInt32))).set (6 : Int32).toNatClampNeg (.int ((p5.toInt8.toInt32).toInt8.toInt32))) ((6 : Int32)).toNatClampNeg (.int (0 : Int32))) &&& (255 : Int32)) = ((p5 >>> ((0 : Int32) &&& 31)) &&& (255 : Int32))) ∧ (((own_at (((((((((((((List.replicate 16 (Value.int (0 : Int32))).set (0 : Int32).toNatClampNeg (.int ((((p2.toUInt32 >>> ((24 : Int32) &&& 31).toUInt32).toInt32).toInt8.toInt32).toInt8.toInt32))).set (1 : Int32).toNatClampNeg (.int ((((p2.toUInt32 >>> ((16 : Int32) &&& 31).toUInt32).toInt32).toInt8.toInt32).toInt8.toInt32))).set (2 : Int32).toNatClampNeg (.int ((((p2.toUInt32 >>> ((8 : Int32) &&& 31).toUInt32).toInt32).toInt8.toInt32).toInt8.toInt32))).set (3 : Int32).toNatClampNeg (.int ((p2.toInt8.toInt32).toInt8.toInt32))).set (4 : Int32).toNatClampNeg (.int ((((p3.toUInt32 >>> ((24 : Int32) &&& 31).toUInt32).toInt32).toInt8.toInt32).toInt8.toInt32))).set (5 : Int32).toNatClampNeg (.int ((((p3.toUInt32 >>> ((16 : Int32) &&& 31).toUInt32).toInt32).toInt8.toInt32).toInt8.toInt32))).set (6 : Int32).toNatClampNeg (.int ((((p3.toUInt32 >>> ((8 : Int32) &&& 31).toUInt32).toInt32).toInt8.toInt32).toInt8.toInt32))).set (7 : Int32).toNatClampNeg (.int ((p3.toInt8.toInt32).toInt8.toInt32))).set (3 : Int32).toNatClampNeg (.int ((((p5.toUInt32 >>> ((24 : Int32) &&& 31).toUInt32).toInt32).toInt8.toInt32).toInt8.toInt32))).set (4 : Int32).toNatClampNeg (.int ((((p5.toUInt32 >>> ((16 : Int32) &&& 31).toUInt32).toInt32).toInt8.toInt32).toInt8.toInt32))).set (5 : Int32).toNatClampNeg (.int ((((p5.toUInt32 >>> ((8 : Int32) &&& 31).toUInt32).toInt32).toInt8.toInt32).toInt8.toInt32))).set (6 : Int32).toNatClampNeg (.int ((p5.toInt8.toInt32).toInt8.toInt32))) ((7 : Int32)).toNatClampNeg (.int (0 : Int32))) &&& (255 : Int32)) = (f_orig (7 : Int32) p2 p3))
set_option maxRecDepth 65536 in
set_option maxHeartbeats 40000000 in
theorem rm_law_at3 (l : Launch) (Z : State) (a0 : Array Value) (hw : ∀ d ∈ tables_1, d.before a0 Z = true) (ws : List Jvm.Cond) (p1 : Int32) (p2 : Int32) (p3 : Int32) (p4 : Int32) (p5 : Int32) (h0 : Heap) (n0 : Nat) (Z0 : n0 ≤ h0.size) (hroad : Road_at3 p1 p2 p3 p4 p5) :
    MetFree l x (head1 (Jvm.Cond.code x code maxLocals ret :: ws) room_1) (fun a U => a = #[(.int p1), (.int p2), (.int p3), (.int p4), (.int p5)] ∧ Z.Warmed39 U.vm ∧ U.heap = h0) (fun _ _ _ _ _ => True) (fun _ U o U' => ∃ v L, o = .returned v ∧ Q_law Z p1 p2 p3 p4 p5 h0 n0 v U'.heap L ∧ FrameEnd U o U' L room_1.cells room_1.slots) := by
  obtain ⟨hp0, hp1, hp2, hw_5, hp7, hp8, hp9, hp10, hp11, hp12, hp13, hp14⟩ := hroad
  refine MetFree.of_bodySF (plainFor_of_name pn_com_example_herald_herald_bytecode_BytesPutU4PinLaw) hisR ?_
  intro p e s m args below meth c s₁ Bd hml0 hP hK
  obtain ⟨rfl, hZ, hh⟩ := hP
  have hx := Bd.exec
  have hby := Bd.bytes
  have hml : c.maxLocals = 8 := hml0
  have hown : s.vm.findClass "com/example/herald/herald/bytecode/BytesPutU4PinLaw" = some m.cls := findClass_of_methodNamed Bd.named
  have hnm := (name_of_methodNamed Bd.named Bd.method).1
  have X0 : Stand p l e room_1 s m #[(.int p1), (.int p2), (.int p3), (.int p4), (.int p5)] below meth c s₁ [] 0 0 := Stand.of_body Bd
  have e0 : s₁.heap = h0 := by rw [← hh, Bd.state]; rfl
  have N0 := Fr.nil n0
  have pre0 : ∀ t, Steps p.tables e below (s₁.setTop (mkF m 0 #[.val (.int p1), .val (.int p2), .val (.int p3), .val (.int p4), .val (.int p5), .unset, .unset, .unset] [])) t → Steps p.tables e below (s₁.setTop (entryFrame m #[(.int p1), (.int p2), (.int p3), (.int p4), (.int p5)] maxLocals)) t := fun t k => castTop (ef_0_IIIII m p1 p2 p3 p4 p5) k
  obtain ⟨T1, h1, X1, e1, E1, A1, D1, -, st1⟩ := newO X0 hx hZ hown (hw _ (List.mem_of_getElem? (i := 0) rfl)) (hw _ (List.mem_of_getElem? (i := 1) rfl)) (hw _ (List.mem_of_getElem? (i := 2) rfl)) e0 (g := (mkF m 0 #[.val (.int p1), .val (.int p2), .val (.int p3), .val (.int p4), .val (.int p5), .unset, .unset, .unset] [])) rfl (hb hby at_0) (by decide) (by decide)
  obtain ⟨b1, g1⟩ : ∃ z, z = h0.size := ⟨_, rfl⟩
  rw [← g1] at A1 D1 st1
  have g_b1 : n0 ≤ b1 := Nat.le_trans Z0 (Nat.le_of_eq g1.symm)
  have Zs2 : n0 ≤ h1.size := Nat.le_trans Z0 E1.1
  have f3 : Fld Z h1 b1 "com/example/herald/herald/bytecode/Bytes" "bytes" "[B" .null := D1 (Or.inl (hw _ (List.mem_of_getElem? (i := 11) rfl))) (ty := (.array .byte)) (by decide)
  have f4 : Fld Z h1 b1 "com/example/herald/herald/bytecode/Bytes" "length" "I" (.int (0 : Int32)) := D1 (Or.inl (hw _ (List.mem_of_getElem? (i := 22) rfl))) (ty := .int) (by decide)
  obtain ⟨_, _, ⟨T5, L5, k5, n5⟩, -, X5, ⟨Lc5, hQ5, l5, y5, z5⟩, st5⟩ := X1.specialBack hx (y := (⟨"com/example/herald/herald/bytecode/Bytes", "<init>", "(I)V"⟩ : MethodName)) rfl hown (mvT hZ (hw _ (List.mem_of_getElem? (i := 3) rfl))) (mvT hZ (hw _ (List.mem_of_getElem? (i := 4) rfl))) (mvT hZ (hw _ (List.mem_of_getElem? (i := 5) rfl))) (by decide) (backOf (W := 1) (rm_init l Z a0 hw [] b1 (p1 &&& (15 : Int32)) h1 n0 Zs2 A1 f3 g_b1 f4 hp0 hp1) hZ (hw _ (List.mem_of_getElem? (i := 5) rfl)) (hw _ (List.mem_of_getElem? (i := 2) rfl)) (by decide) (by decide)) (g := (mkF m 8 #[.val (.int p1), .val (.int p2), .val (.int p3), .val (.int p4), .val (.int p5), .unset, .unset, .unset] [(.int (p1 &&& (15 : Int32))), (.ref b1), (.ref b1)])) rfl (by rw [hml]; rfl) (Steps.refl _) (a := b1) (argsL := [(.int (p1 &&& (15 : Int32)))]) (rest := [(.ref b1)]) (lenOf pd_2 rfl) rfl (by show 2 * 0 + _ ≤ _; exact Nat.le_of_eq rfl) (hb hby at_8) (fun _ _ => ⟨rfl, e1, (by decide : 1 + 1 ≤ _), (by decide : 2 + 15 ≤ _)⟩)
  dsimp only [Pt.U, Pt.locs, Pt.cells, Pt.slots] at X5 l5 y5 z5 st5 hQ5
  subst l5 y5 z5
  obtain ⟨b5_1, k5_2, rfl, Nq5, g_b5_1, szq_b5_1, Kc5, fq5_0, fq5_1, fq5_2, fq5_3, fq5_4⟩ := hQ5
  have ne_b1_b5_1 : b1 ≠ b5_1 := Nat.ne_of_lt (Nat.lt_of_lt_of_le A1.lt szq_b5_1)
  have f7 : Fld Z T5.heap b1 "com/example/herald/herald/bytecode/Bytes" "bytes" "[B" (.ref b5_1) := fq5_1
  have f8 : Fld Z T5.heap b1 "com/example/herald/herald/bytecode/Bytes" "length" "I" (.int (0 : Int32)) := fq5_2
  have f9 : Arv Z T5.heap b5_1 k5_2 .byte (p1 &&& (15 : Int32)) (List.replicate 16 (Value.int (0 : Int32))) (.int (0 : Int32)) := fq5_4
  have Zs10 : n0 ≤ T5.heap.size := Nat.le_trans Zs2 Kc5.1
  have N6 := Fr.app N0 Nq5
  obtain ⟨cq11, kq11, q11a, q11b, q11c⟩ := isOf hZ rfl fq5_0
  obtain ⟨_, _, ⟨T11, L11, k11, n11⟩, -, X11, ⟨Lc11, hQ11, l11, y11, z11⟩, st11⟩ := X5.virtualBack hx (y := (⟨"com/example/herald/herald/bytecode/Bytes", "u4", "(I)V"⟩ : MethodName)) (z := (⟨"com/example/herald/herald/bytecode/Bytes", "u4", "(I)V"⟩ : MethodName)) hown (mvT hZ (hw _ (List.mem_of_getElem? (i := 12) rfl))) (mvT hZ (hw _ (List.mem_of_getElem? (i := 13) rfl))) (notFace_of_selects (args := #[]) (mvT hZ (hw _ (List.mem_of_getElem? (i := 15) rfl)))) (mvT hZ (hw _ (List.mem_of_getElem? (i := 15) rfl))) (mvT hZ (hw _ (List.mem_of_getElem? (i := 14) rfl))) (by decide) (backOf (W := 0) (rm_u4 l Z a0 hw [] b1 p2 b5_1 k5_2 (p1 &&& (15 : Int32)) (List.replicate 16 (Value.int (0 : Int32))) (0 : Int32) T5.heap n0 Zs10 f7 fq5_3 f9 f8 fq5_0 g_b1 g_b5_1 hp2 (by decide)) hZ (hw _ (List.mem_of_getElem? (i := 16) rfl)) (hw _ (List.mem_of_getElem? (i := 2) rfl)) (by decide) (by decide)) q11a q11c (g := (mkF m 16 #[.val (.int p1), .val (.int p2), .val (.int p3), .val (.int p4), .val (.int p5), .val (.ref b1), .unset, .unset] [(.int p2), (.ref b1)])) rfl (by rw [hml]; rfl) (Steps.refl _) (argsL := [(.int p2)]) (rest := []) (lenOf pd_2 rfl) rfl (by show 2 * 0 + _ ≤ _; exact Nat.le_of_eq rfl) (hb hby at_16) (fun _ _ => ⟨rfl, rfl, (by decide : 2 + 1 ≤ _), (by decide : 17 + 14 ≤ _)⟩)
  dsimp only [Pt.U, Pt.locs, Pt.cells, Pt.slots] at X11 l11 y11 z11 st11 hQ11
  subst l11 y11 z11
  obtain ⟨b11_1, k11_2, i11_3, rfl, Nq11, g_b11_1, hq11_0, Kc11, fq11_0, fq11_1, fq11_2, fq11_3, fq11_4⟩ := hQ11
  have f13 : Exa Z T11.heap b5_1 "[B" := fq5_3.keep Kc11
  have f14 : Fld Z T11.heap b1 "com/example/herald/herald/bytecode/Bytes" "bytes" "[B" (.ref b11_1) := fq11_1
  have f15 : Fld Z T11.heap b1 "com/example/herald/herald/bytecode/Bytes" "length" "I" (.int (4 : Int32)) := fq11_2
  have f16 : Arv Z T11.heap b11_1 k11_2 .byte i11_3 (((((List.replicate 16 (Value.int (0 : Int32))).set (0 : Int32).toNatClampNeg (.int ((((p2.toUInt32 >>> ((24 : Int32) &&& 31).toUInt32).toInt32).toInt8.toInt32).toInt8.toInt32))).set (1 : Int32).toNatClampNeg (.int ((((p2.toUInt32 >>> ((16 : Int32) &&& 31).toUInt32).toInt32).toInt8.toInt32).toInt8.toInt32))).set (2 : Int32).toNatClampNeg (.int ((((p2.toUInt32 >>> ((8 : Int32) &&& 31).toUInt32).toInt32).toInt8.toInt32).toInt8.toInt32))).set (3 : Int32).toNatClampNeg (.int ((p2.toInt8.toInt32).toInt8.toInt32))) (.int (0 : Int32)) := fq11_4
  have Zs17 : n0 ≤ T11.heap.size := Nat.le_trans Zs10 Kc11.1
  have N12 := Fr.app N6 Nq11
  obtain ⟨cq18, kq18, q18a, q18b, q18c⟩ := isOf hZ rfl fq11_0
  obtain ⟨_, _, ⟨T18, L18, k18, n18⟩, -, X18, ⟨Lc18, hQ18, l18, y18, z18⟩, st18⟩ := X11.virtualBack hx (y := (⟨"com/example/herald/herald/bytecode/Bytes", "u4", "(I)V"⟩ : MethodName)) (z := (⟨"com/example/herald/herald/bytecode/Bytes", "u4", "(I)V"⟩ : MethodName)) hown (mvT hZ (hw _ (List.mem_of_getElem? (i := 12) rfl))) (mvT hZ (hw _ (List.mem_of_getElem? (i := 13) rfl))) (notFace_of_selects (args := #[]) (mvT hZ (hw _ (List.mem_of_getElem? (i := 15) rfl)))) (mvT hZ (hw _ (List.mem_of_getElem? (i := 15) rfl))) (mvT hZ (hw _ (List.mem_of_getElem? (i := 14) rfl))) (by decide) (backOf (W := 0) (rm_u4 l Z a0 hw [] b1 p3 b11_1 k11_2 i11_3 (((((List.replicate 16 (Value.int (0 : Int32))).set (0 : Int32).toNatClampNeg (.int ((((p2.toUInt32 >>> ((24 : Int32) &&& 31).toUInt32).toInt32).toInt8.toInt32).toInt8.toInt32))).set (1 : Int32).toNatClampNeg (.int ((((p2.toUInt32 >>> ((16 : Int32) &&& 31).toUInt32).toInt32).toInt8.toInt32).toInt8.toInt32))).set (2 : Int32).toNatClampNeg (.int ((((p2.toUInt32 >>> ((8 : Int32) &&& 31).toUInt32).toInt32).toInt8.toInt32).toInt8.toInt32))).set (3 : Int32).toNatClampNeg (.int ((p2.toInt8.toInt32).toInt8.toInt32))) (4 : Int32) T11.heap n0 Zs17 f14 fq11_3 f16 f15 fq11_0 g_b1 g_b11_1 hq11_0 (by decide)) hZ (hw _ (List.mem_of_getElem? (i := 16) rfl)) (hw _ (List.mem_of_getElem? (i := 2) rfl)) (by decide) (by decide)) q18a q18c (g := (mkF m 22 #[.val (.int p1), .val (.int p2), .val (.int p3), .val (.int p4), .val (.int p5), .val (.ref b1), .unset, .unset] [(.int p3), (.ref b1)])) rfl (by rw [hml]; rfl) (Steps.refl _) (argsL := [(.int p3)]) (rest := []) (lenOf pd_2 rfl) rfl (by show 2 * 0 + _ ≤ _; exact Nat.le_of_eq rfl) (hb hby at_22) (fun _ _ => ⟨rfl, rfl, (by decide : 3 + 1 ≤ _), (by decide : 31 + 14 ≤ _)⟩)
  dsimp only [Pt.U, Pt.locs, Pt.cells, Pt.slots] at X18 l18 y18 z18 st18 hQ18
  subst l18 y18 z18
  obtain ⟨b18_1, k18_2, i18_3, rfl, Nq18, g_b18_1, hq18_0, Kc18, fq18_0, fq18_1, fq18_2, fq18_3, fq18_4⟩ := hQ18
  have ne_b1_b11_1 : b1 ≠ b11_1 := ne_exa fq11_0 fq11_3 (by decide)
  have f20 : Exa Z T18.heap b5_1 "[B" := f13.keep Kc18
  have f21 : Exa Z T18.heap b11_1 "[B" := fq11_3.keep Kc18
  have f22 : Fld Z T18.heap b1 "com/example/herald/herald/bytecode/Bytes" "bytes" "[B" (.ref b18_1) := fq18_1
  have f23 : Fld Z T18.heap b1 "com/example/herald/herald/bytecode/Bytes" "length" "I" (.int (8 : Int32)) := fq18_2
  have f24 : Arv Z T18.heap b18_1 k18_2 .byte i18_3 (((((((((List.replicate 16 (Value.int (0 : Int32))).set (0 : Int32).toNatClampNeg (.int ((((p2.toUInt32 >>> ((24 : Int32) &&& 31).toUInt32).toInt32).toInt8.toInt32).toInt8.toInt32))).set (1 : Int32).toNatClampNeg (.int ((((p2.toUInt32 >>> ((16 : Int32) &&& 31).toUInt32).toInt32).toInt8.toInt32).toInt8.toInt32))).set (2 : Int32).toNatClampNeg (.int ((((p2.toUInt32 >>> ((8 : Int32) &&& 31).toUInt32).toInt32).toInt8.toInt32).toInt8.toInt32))).set (3 : Int32).toNatClampNeg (.int ((p2.toInt8.toInt32).toInt8.toInt32))).set (4 : Int32).toNatClampNeg (.int ((((p3.toUInt32 >>> ((24 : Int32) &&& 31).toUInt32).toInt32).toInt8.toInt32).toInt8.toInt32))).set (5 : Int32).toNatClampNeg (.int ((((p3.toUInt32 >>> ((16 : Int32) &&& 31).toUInt32).toInt32).toInt8.toInt32).toInt8.toInt32))).set (6 : Int32).toNatClampNeg (.int ((((p3.toUInt32 >>> ((8 : Int32) &&& 31).toUInt32).toInt32).toInt8.toInt32).toInt8.toInt32))).set (7 : Int32).toNatClampNeg (.int ((p3.toInt8.toInt32).toInt8.toInt32))) (.int (0 : Int32)) := fq18_4
  have Zs25 : n0 ≤ T18.heap.size := Nat.le_trans Zs17 Kc18.1
  have N19 := Fr.app N12 Nq18
  obtain ⟨cq26, kq26, q26a, q26b, q26c⟩ := isOf hZ rfl fq18_0
  obtain ⟨_, _, ⟨T26, L26, k26, n26⟩, -, X26, ⟨Lc26, hQ26, l26, y26, z26⟩, st26⟩ := X18.virtualBack hx (y := (⟨"com/example/herald/herald/bytecode/Bytes", "putU4", "(II)V"⟩ : MethodName)) (z := (⟨"com/example/herald/herald/bytecode/Bytes", "putU4", "(II)V"⟩ : MethodName)) hown (mvT hZ (hw _ (List.mem_of_getElem? (i := 39) rfl))) (mvT hZ (hw _ (List.mem_of_getElem? (i := 40) rfl))) (notFace_of_selects (args := #[]) (mvT hZ (hw _ (List.mem_of_getElem? (i := 42) rfl)))) (mvT hZ (hw _ (List.mem_of_getElem? (i := 42) rfl))) (mvT hZ (hw _ (List.mem_of_getElem? (i := 41) rfl))) (by decide) (backOf (W := 0) (rm_put l Z a0 hw [] b1 (3 : Int32) p5 b18_1 k18_2 i18_3 (((((((((List.replicate 16 (Value.int (0 : Int32))).set (0 : Int32).toNatClampNeg (.int ((((p2.toUInt32 >>> ((24 : Int32) &&& 31).toUInt32).toInt32).toInt8.toInt32).toInt8.toInt32))).set (1 : Int32).toNatClampNeg (.int ((((p2.toUInt32 >>> ((16 : Int32) &&& 31).toUInt32).toInt32).toInt8.toInt32).toInt8.toInt32))).set (2 : Int32).toNatClampNeg (.int ((((p2.toUInt32 >>> ((8 : Int32) &&& 31).toUInt32).toInt32).toInt8.toInt32).toInt8.toInt32))).set (3 : Int32).toNatClampNeg (.int ((p2.toInt8.toInt32).toInt8.toInt32))).set (4 : Int32).toNatClampNeg (.int ((((p3.toUInt32 >>> ((24 : Int32) &&& 31).toUInt32).toInt32).toInt8.toInt32).toInt8.toInt32))).set (5 : Int32).toNatClampNeg (.int ((((p3.toUInt32 >>> ((16 : Int32) &&& 31).toUInt32).toInt32).toInt8.toInt32).toInt8.toInt32))).set (6 : Int32).toNatClampNeg (.int ((((p3.toUInt32 >>> ((8 : Int32) &&& 31).toUInt32).toInt32).toInt8.toInt32).toInt8.toInt32))).set (7 : Int32).toNatClampNeg (.int ((p3.toInt8.toInt32).toInt8.toInt32))) T18.heap n0 Zs25 f22 fq18_3 f24 fq18_0 g_b1 g_b18_1 hq18_0 (by decide) (by decide)) hZ (hw _ (List.mem_of_getElem? (i := 43) rfl)) (hw _ (List.mem_of_getElem? (i := 2) rfl)) (by decide) (by decide)) q26a q26c (g := (mkF m 39 #[.val (.int p1), .val (.int p2), .val (.int p3), .val (.int p4), .val (.int p5), .val (.ref b1), .val (.int (3 : Int32)), .unset] [(.int p5), (.int (3 : Int32)), (.ref b1)])) rfl (by rw [hml]; rfl) (Steps.refl _) (argsL := [(.int (3 : Int32)), (.int p5)]) (rest := []) (lenOf pd_4 rfl) rfl (by show 2 * 0 + _ ≤ _; exact Nat.le_of_eq rfl) (hb hby at_39) (fun _ _ => ⟨rfl, rfl, (by decide : 4 + 0 ≤ _), (by decide : 45 + 0 ≤ _)⟩)
  dsimp only [Pt.U, Pt.locs, Pt.cells, Pt.slots] at X26 l26 y26 z26 st26 hQ26
  subst l26 y26 z26
  obtain ⟨rfl, Nq26, hq26_0, Kc26, fq26_0, fq26_1⟩ := hQ26
  have ne_b1_b18_1 : b1 ≠ b18_1 := ne_exa fq18_0 fq18_3 (by decide)
  have f28 : Exa Z T26.heap b1 "com/example/herald/herald/bytecode/Bytes" := fq18_0.keep Kc26
  have f29 : Fld Z T26.heap b1 "com/example/herald/herald/bytecode/Bytes" "bytes" "[B" (.ref b18_1) := f22.keep Kc26 (ninS ne_b1_b18_1 nin0)
  have f30 : Fld Z T26.heap b1 "com/example/herald/herald/bytecode/Bytes" "length" "I" (.int (8 : Int32)) := f23.keep Kc26 (ninS ne_b1_b18_1 nin0)
  have f31 : Exa Z T26.heap b5_1 "[B" := f20.keep Kc26
  have f32 : Exa Z T26.heap b11_1 "[B" := f21.keep Kc26
  have f33 : Arv Z T26.heap b18_1 k18_2 .byte i18_3 (((((((((((((List.replicate 16 (Value.int (0 : Int32))).set (0 : Int32).toNatClampNeg (.int ((((p2.toUInt32 >>> ((24 : Int32) &&& 31).toUInt32).toInt32).toInt8.toInt32).toInt8.toInt32))).set (1 : Int32).toNatClampNeg (.int ((((p2.toUInt32 >>> ((16 : Int32) &&& 31).toUInt32).toInt32).toInt8.toInt32).toInt8.toInt32))).set (2 : Int32).toNatClampNeg (.int ((((p2.toUInt32 >>> ((8 : Int32) &&& 31).toUInt32).toInt32).toInt8.toInt32).toInt8.toInt32))).set (3 : Int32).toNatClampNeg (.int ((p2.toInt8.toInt32).toInt8.toInt32))).set (4 : Int32).toNatClampNeg (.int ((((p3.toUInt32 >>> ((24 : Int32) &&& 31).toUInt32).toInt32).toInt8.toInt32).toInt8.toInt32))).set (5 : Int32).toNatClampNeg (.int ((((p3.toUInt32 >>> ((16 : Int32) &&& 31).toUInt32).toInt32).toInt8.toInt32).toInt8.toInt32))).set (6 : Int32).toNatClampNeg (.int ((((p3.toUInt32 >>> ((8 : Int32) &&& 31).toUInt32).toInt32).toInt8.toInt32).toInt8.toInt32))).set (7 : Int32).toNatClampNeg (.int ((p3.toInt8.toInt32).toInt8.toInt32))).set (3 : Int32).toNatClampNeg (.int ((((p5.toUInt32 >>> ((24 : Int32) &&& 31).toUInt32).toInt32).toInt8.toInt32).toInt8.toInt32))).set (4 : Int32).toNatClampNeg (.int ((((p5.toUInt32 >>> ((16 : Int32) &&& 31).toUInt32).toInt32).toInt8.toInt32).toInt8.toInt32))).set (5 : Int32).toNatClampNeg (.int ((((p5.toUInt32 >>> ((8 : Int32) &&& 31).toUInt32).toInt32).toInt8.toInt32).toInt8.toInt32))).set (6 : Int32).toNatClampNeg (.int ((p5.toInt8.toInt32).toInt8.toInt32))) (.int (0 : Int32)) := fq26_1
  have Zs34 : n0 ≤ T26.heap.size := Nat.le_trans Zs25 Kc26.1
  have N27 := Fr.app N19 Nq26
  obtain ⟨cq35, kq35, q35a, q35b, q35c⟩ := isOf hZ rfl f28
  obtain ⟨_, _, ⟨T35, L35, k35, n35⟩, -, X35, ⟨Lc35, hQ35, l35, y35, z35⟩, st35⟩ := X26.virtualBack hx (y := (⟨"com/example/herald/herald/bytecode/Bytes", "length", "()I"⟩ : MethodName)) (z := (⟨"com/example/herald/herald/bytecode/Bytes", "length", "()I"⟩ : MethodName)) hown (mvT hZ (hw _ (List.mem_of_getElem? (i := 44) rfl))) (mvT hZ (hw _ (List.mem_of_getElem? (i := 45) rfl))) (notFace_of_selects (args := #[]) (mvT hZ (hw _ (List.mem_of_getElem? (i := 47) rfl)))) (mvT hZ (hw _ (List.mem_of_getElem? (i := 47) rfl))) (mvT hZ (hw _ (List.mem_of_getElem? (i := 46) rfl))) (by decide) (backOf (W := 0) (rm_length l Z a0 hw [] b1 (8 : Int32) T26.heap n0 Zs34 f30) hZ (hw _ (List.mem_of_getElem? (i := 48) rfl)) (hw _ (List.mem_of_getElem? (i := 2) rfl)) (by decide) (by decide)) q35a q35c (g := (mkF m 44 #[.val (.int p1), .val (.int p2), .val (.int p3), .val (.int p4), .val (.int p5), .val (.ref b1), .val (.int (3 : Int32)), .unset] [(.ref b1)])) rfl (by rw [hml]; rfl) (Steps.refl _) (argsL := []) (rest := []) (lenOf pd_5 rfl) rfl (by show 2 * 0 + _ ≤ _; exact Nat.le_of_eq rfl) (hb hby at_44) (fun _ _ => ⟨rfl, rfl, (by decide : 4 + 0 ≤ _), (by decide : 45 + 0 ≤ _)⟩)
  dsimp only [Pt.U, Pt.locs, Pt.cells, Pt.slots] at X35 l35 y35 z35 st35 hQ35
  subst l35 y35 z35
  obtain ⟨rfl, Nq35, e35⟩ := hQ35
  have N36 := Fr.app N27 Nq35
  obtain ⟨cq37, kq37, q37a, q37b, q37c⟩ := isOf hZ e35 f28
  obtain ⟨_, _, ⟨T37, L37, k37, n37⟩, -, X37, ⟨Lc37, hQ37, l37, y37, z37⟩, st37⟩ := X35.virtualBack hx (y := (⟨"com/example/herald/herald/bytecode/Bytes", "toArray", "()[B"⟩ : MethodName)) (z := (⟨"com/example/herald/herald/bytecode/Bytes", "toArray", "()[B"⟩ : MethodName)) hown (mvT hZ (hw _ (List.mem_of_getElem? (i := 49) rfl))) (mvT hZ (hw _ (List.mem_of_getElem? (i := 50) rfl))) (notFace_of_selects (args := #[]) (mvT hZ (hw _ (List.mem_of_getElem? (i := 52) rfl)))) (mvT hZ (hw _ (List.mem_of_getElem? (i := 52) rfl))) (mvT hZ (hw _ (List.mem_of_getElem? (i := 51) rfl))) (by decide) (backOf (W := 0) (rm_arr l Z a0 hw [] b1 b18_1 k18_2 i18_3 (((((((((((((List.replicate 16 (Value.int (0 : Int32))).set (0 : Int32).toNatClampNeg (.int ((((p2.toUInt32 >>> ((24 : Int32) &&& 31).toUInt32).toInt32).toInt8.toInt32).toInt8.toInt32))).set (1 : Int32).toNatClampNeg (.int ((((p2.toUInt32 >>> ((16 : Int32) &&& 31).toUInt32).toInt32).toInt8.toInt32).toInt8.toInt32))).set (2 : Int32).toNatClampNeg (.int ((((p2.toUInt32 >>> ((8 : Int32) &&& 31).toUInt32).toInt32).toInt8.toInt32).toInt8.toInt32))).set (3 : Int32).toNatClampNeg (.int ((p2.toInt8.toInt32).toInt8.toInt32))).set (4 : Int32).toNatClampNeg (.int ((((p3.toUInt32 >>> ((24 : Int32) &&& 31).toUInt32).toInt32).toInt8.toInt32).toInt8.toInt32))).set (5 : Int32).toNatClampNeg (.int ((((p3.toUInt32 >>> ((16 : Int32) &&& 31).toUInt32).toInt32).toInt8.toInt32).toInt8.toInt32))).set (6 : Int32).toNatClampNeg (.int ((((p3.toUInt32 >>> ((8 : Int32) &&& 31).toUInt32).toInt32).toInt8.toInt32).toInt8.toInt32))).set (7 : Int32).toNatClampNeg (.int ((p3.toInt8.toInt32).toInt8.toInt32))).set (3 : Int32).toNatClampNeg (.int ((((p5.toUInt32 >>> ((24 : Int32) &&& 31).toUInt32).toInt32).toInt8.toInt32).toInt8.toInt32))).set (4 : Int32).toNatClampNeg (.int ((((p5.toUInt32 >>> ((16 : Int32) &&& 31).toUInt32).toInt32).toInt8.toInt32).toInt8.toInt32))).set (5 : Int32).toNatClampNeg (.int ((((p5.toUInt32 >>> ((8 : Int32) &&& 31).toUInt32).toInt32).toInt8.toInt32).toInt8.toInt32))).set (6 : Int32).toNatClampNeg (.int ((p5.toInt8.toInt32).toInt8.toInt32))) (8 : Int32) T26.heap n0 Zs34 f29 fq26_0 f33 f30 f28 hq26_0 (by decide)) hZ (hw _ (List.mem_of_getElem? (i := 53) rfl)) (hw _ (List.mem_of_getElem? (i := 2) rfl)) (by decide) (by decide)) q37a q37c (g := (mkF m 56 #[.val (.int p1), .val (.int p2), .val (.int p3), .val (.int p4), .val (.int p5), .val (.ref b1), .val (.int (3 : Int32)), .unset] [(.ref b1)])) rfl (by rw [hml]; rfl) (Steps.refl _) (argsL := []) (rest := []) (lenOf pd_6 rfl) rfl (by show 2 * 0 + _ ≤ _; exact Nat.le_of_eq rfl) (hb hby at_56) (fun _ _ => ⟨rfl, e35, (by decide : 4 + 1 ≤ _), (by decide : 45 + 8 ≤ _)⟩)
  dsimp only [Pt.U, Pt.locs, Pt.cells, Pt.slots] at X37 l37 y37 z37 st37 hQ37
  subst l37 y37 z37
  obtain ⟨b37_1, k37_2, rfl, Nq37, g_b37_1, szq_b37_1, Kc37, fq37_0, fq37_1⟩ := hQ37
  have ne_b1_b37_1 : b1 ≠ b37_1 := Nat.ne_of_lt (Nat.lt_of_lt_of_le f28.lt szq_b37_1)
  have ne_b5_1_b37_1 : b5_1 ≠ b37_1 := Nat.ne_of_lt (Nat.lt_of_lt_of_le f31.lt szq_b37_1)
  have ne_b11_1_b37_1 : b11_1 ≠ b37_1 := Nat.ne_of_lt (Nat.lt_of_lt_of_le f32.lt szq_b37_1)
  have ne_b18_1_b37_1 : b18_1 ≠ b37_1 := Nat.ne_of_lt (Nat.lt_of_lt_of_le fq26_0.lt szq_b37_1)
  have f39 : Exa Z T37.heap b1 "com/example/herald/herald/bytecode/Bytes" := f28.keep Kc37
  have f40 : Fld Z T37.heap b1 "com/example/herald/herald/bytecode/Bytes" "bytes" "[B" (.ref b18_1) := f29.keep Kc37 nin0
  have f41 : Fld Z T37.heap b1 "com/example/herald/herald/bytecode/Bytes" "length" "I" (.int (8 : Int32)) := f30.keep Kc37 nin0
  have f42 : Exa Z T37.heap b5_1 "[B" := f31.keep Kc37
  have f43 : Exa Z T37.heap b11_1 "[B" := f32.keep Kc37
  have f44 : Exa Z T37.heap b18_1 "[B" := fq26_0.keep Kc37
  have f45 : Arv Z T37.heap b18_1 k18_2 .byte i18_3 (((((((((((((List.replicate 16 (Value.int (0 : Int32))).set (0 : Int32).toNatClampNeg (.int ((((p2.toUInt32 >>> ((24 : Int32) &&& 31).toUInt32).toInt32).toInt8.toInt32).toInt8.toInt32))).set (1 : Int32).toNatClampNeg (.int ((((p2.toUInt32 >>> ((16 : Int32) &&& 31).toUInt32).toInt32).toInt8.toInt32).toInt8.toInt32))).set (2 : Int32).toNatClampNeg (.int ((((p2.toUInt32 >>> ((8 : Int32) &&& 31).toUInt32).toInt32).toInt8.toInt32).toInt8.toInt32))).set (3 : Int32).toNatClampNeg (.int ((p2.toInt8.toInt32).toInt8.toInt32))).set (4 : Int32).toNatClampNeg (.int ((((p3.toUInt32 >>> ((24 : Int32) &&& 31).toUInt32).toInt32).toInt8.toInt32).toInt8.toInt32))).set (5 : Int32).toNatClampNeg (.int ((((p3.toUInt32 >>> ((16 : Int32) &&& 31).toUInt32).toInt32).toInt8.toInt32).toInt8.toInt32))).set (6 : Int32).toNatClampNeg (.int ((((p3.toUInt32 >>> ((8 : Int32) &&& 31).toUInt32).toInt32).toInt8.toInt32).toInt8.toInt32))).set (7 : Int32).toNatClampNeg (.int ((p3.toInt8.toInt32).toInt8.toInt32))).set (3 : Int32).toNatClampNeg (.int ((((p5.toUInt32 >>> ((24 : Int32) &&& 31).toUInt32).toInt32).toInt8.toInt32).toInt8.toInt32))).set (4 : Int32).toNatClampNeg (.int ((((p5.toUInt32 >>> ((16 : Int32) &&& 31).toUInt32).toInt32).toInt8.toInt32).toInt8.toInt32))).set (5 : Int32).toNatClampNeg (.int ((((p5.toUInt32 >>> ((8 : Int32) &&& 31).toUInt32).toInt32).toInt8.toInt32).toInt8.toInt32))).set (6 : Int32).toNatClampNeg (.int ((p5.toInt8.toInt32).toInt8.toInt32))) (.int (0 : Int32)) := f33.keep Kc37 nin0
  have f46 : Arv Z T37.heap b37_1 k37_2 .byte (8 : Int32) (((((((((((((List.replicate 16 (Value.int (0 : Int32))).set (0 : Int32).toNatClampNeg (.int ((((p2.toUInt32 >>> ((24 : Int32) &&& 31).toUInt32).toInt32).toInt8.toInt32).toInt8.toInt32))).set (1 : Int32).toNatClampNeg (.int ((((p2.toUInt32 >>> ((16 : Int32) &&& 31).toUInt32).toInt32).toInt8.toInt32).toInt8.toInt32))).set (2 : Int32).toNatClampNeg (.int ((((p2.toUInt32 >>> ((8 : Int32) &&& 31).toUInt32).toInt32).toInt8.toInt32).toInt8.toInt32))).set (3 : Int32).toNatClampNeg (.int ((p2.toInt8.toInt32).toInt8.toInt32))).set (4 : Int32).toNatClampNeg (.int ((((p3.toUInt32 >>> ((24 : Int32) &&& 31).toUInt32).toInt32).toInt8.toInt32).toInt8.toInt32))).set (5 : Int32).toNatClampNeg (.int ((((p3.toUInt32 >>> ((16 : Int32) &&& 31).toUInt32).toInt32).toInt8.toInt32).toInt8.toInt32))).set (6 : Int32).toNatClampNeg (.int ((((p3.toUInt32 >>> ((8 : Int32) &&& 31).toUInt32).toInt32).toInt8.toInt32).toInt8.toInt32))).set (7 : Int32).toNatClampNeg (.int ((p3.toInt8.toInt32).toInt8.toInt32))).set (3 : Int32).toNatClampNeg (.int ((((p5.toUInt32 >>> ((24 : Int32) &&& 31).toUInt32).toInt32).toInt8.toInt32).toInt8.toInt32))).set (4 : Int32).toNatClampNeg (.int ((((p5.toUInt32 >>> ((16 : Int32) &&& 31).toUInt32).toInt32).toInt8.toInt32).toInt8.toInt32))).set (5 : Int32).toNatClampNeg (.int ((((p5.toUInt32 >>> ((8 : Int32) &&& 31).toUInt32).toInt32).toInt8.toInt32).toInt8.toInt32))).set (6 : Int32).toNatClampNeg (.int ((p5.toInt8.toInt32).toInt8.toInt32))) (.int (0 : Int32)) := fq37_1
  have Zs47 : n0 ≤ T37.heap.size := Nat.le_trans Zs34 Kc37.1
  have N38 := Fr.app N36 Nq37
  obtain ⟨clo48, Aro48, -, So48, No48, -, -⟩ := id f46
  obtain ⟨_, _, ⟨T49, L49, k49, n49⟩, -, X49, ⟨Lc49, hQ49, l49, y49, z49⟩, st49⟩ := Jvm.LawKit.callS X37 hx (y := (⟨"com/example/herald/herald/bytecode/BytesPutU4PinLaw", "ok", "([BIIIII)Z"⟩ : MethodName)) hown (mvT hZ (hw _ (List.mem_of_getElem? (i := 63) rfl))) (mvT hZ (hw _ (List.mem_of_getElem? (i := 64) rfl))) (mvT hZ (hw _ (List.mem_of_getElem? (i := 65) rfl))) (mvT hZ (hw _ (List.mem_of_getElem? (i := 66) rfl))) (by decide) (backOf (W := 0) (rm_okA l Z a0 hw [] b37_1 (0 : Int32) p2 p3 (3 : Int32) p5 k37_2 (8 : Int32) (((((((((((((List.replicate 16 (Value.int (0 : Int32))).set (0 : Int32).toNatClampNeg (.int ((((p2.toUInt32 >>> ((24 : Int32) &&& 31).toUInt32).toInt32).toInt8.toInt32).toInt8.toInt32))).set (1 : Int32).toNatClampNeg (.int ((((p2.toUInt32 >>> ((16 : Int32) &&& 31).toUInt32).toInt32).toInt8.toInt32).toInt8.toInt32))).set (2 : Int32).toNatClampNeg (.int ((((p2.toUInt32 >>> ((8 : Int32) &&& 31).toUInt32).toInt32).toInt8.toInt32).toInt8.toInt32))).set (3 : Int32).toNatClampNeg (.int ((p2.toInt8.toInt32).toInt8.toInt32))).set (4 : Int32).toNatClampNeg (.int ((((p3.toUInt32 >>> ((24 : Int32) &&& 31).toUInt32).toInt32).toInt8.toInt32).toInt8.toInt32))).set (5 : Int32).toNatClampNeg (.int ((((p3.toUInt32 >>> ((16 : Int32) &&& 31).toUInt32).toInt32).toInt8.toInt32).toInt8.toInt32))).set (6 : Int32).toNatClampNeg (.int ((((p3.toUInt32 >>> ((8 : Int32) &&& 31).toUInt32).toInt32).toInt8.toInt32).toInt8.toInt32))).set (7 : Int32).toNatClampNeg (.int ((p3.toInt8.toInt32).toInt8.toInt32))).set (3 : Int32).toNatClampNeg (.int ((((p5.toUInt32 >>> ((24 : Int32) &&& 31).toUInt32).toInt32).toInt8.toInt32).toInt8.toInt32))).set (4 : Int32).toNatClampNeg (.int ((((p5.toUInt32 >>> ((16 : Int32) &&& 31).toUInt32).toInt32).toInt8.toInt32).toInt8.toInt32))).set (5 : Int32).toNatClampNeg (.int ((((p5.toUInt32 >>> ((8 : Int32) &&& 31).toUInt32).toInt32).toInt8.toInt32).toInt8.toInt32))).set (6 : Int32).toNatClampNeg (.int ((p5.toInt8.toInt32).toInt8.toInt32))) T37.heap n0 Zs47 f46 (by decide) (by decide) (by decide) hp7) hZ (hw _ (List.mem_of_getElem? (i := 66) rfl)) (hw _ (List.mem_of_getElem? (i := 65) rfl)) (by decide) (by decide)) (g := (mkF m 80 #[.val (.int p1), .val (.int p2), .val (.int p3), .val (.int p4), .val (.int p5), .val (.ref b1), .val (.int (3 : Int32)), .val (.ref b37_1)] [(.int p5), (.int (3 : Int32)), (.int p3), (.int p2), (.int (0 : Int32)), (.ref b37_1)])) rfl (by rw [hml]; rfl) (argsL := [(.ref b37_1), (.int (0 : Int32)), (.int p2), (.int p3), (.int (3 : Int32)), (.int p5)]) (rest := []) (lenOf pd_7 rfl) rfl (by show 2 * 0 + _ ≤ _; exact Nat.le_of_eq rfl) (hb hby at_80) (fun _ _ => ⟨rfl, rfl, (by decide : 5 + 0 ≤ _), (by decide : 53 + 0 ≤ _)⟩)
  dsimp only [Pt.U, Pt.locs, Pt.cells, Pt.slots] at X49 l49 y49 z49 st49 hQ49
  subst l49 y49 z49
  obtain ⟨rfl, Nq49, e49⟩ := hQ49
  have N50 := Fr.app N38 Nq49
  obtain ⟨_, _, ⟨T51, L51, k51, n51⟩, -, X51, ⟨Lc51, hQ51, l51, y51, z51⟩, st51⟩ := Jvm.LawKit.callS X49 hx (y := (⟨"com/example/herald/herald/bytecode/BytesPutU4PinLaw", "ok", "([BIIIII)Z"⟩ : MethodName)) hown (mvT hZ (hw _ (List.mem_of_getElem? (i := 63) rfl))) (mvT hZ (hw _ (List.mem_of_getElem? (i := 64) rfl))) (mvT hZ (hw _ (List.mem_of_getElem? (i := 65) rfl))) (mvT hZ (hw _ (List.mem_of_getElem? (i := 66) rfl))) (by decide) (backOf (W := 0) (rm_okA l Z a0 hw [] b37_1 (1 : Int32) p2 p3 (3 : Int32) p5 k37_2 (8 : Int32) (((((((((((((List.replicate 16 (Value.int (0 : Int32))).set (0 : Int32).toNatClampNeg (.int ((((p2.toUInt32 >>> ((24 : Int32) &&& 31).toUInt32).toInt32).toInt8.toInt32).toInt8.toInt32))).set (1 : Int32).toNatClampNeg (.int ((((p2.toUInt32 >>> ((16 : Int32) &&& 31).toUInt32).toInt32).toInt8.toInt32).toInt8.toInt32))).set (2 : Int32).toNatClampNeg (.int ((((p2.toUInt32 >>> ((8 : Int32) &&& 31).toUInt32).toInt32).toInt8.toInt32).toInt8.toInt32))).set (3 : Int32).toNatClampNeg (.int ((p2.toInt8.toInt32).toInt8.toInt32))).set (4 : Int32).toNatClampNeg (.int ((((p3.toUInt32 >>> ((24 : Int32) &&& 31).toUInt32).toInt32).toInt8.toInt32).toInt8.toInt32))).set (5 : Int32).toNatClampNeg (.int ((((p3.toUInt32 >>> ((16 : Int32) &&& 31).toUInt32).toInt32).toInt8.toInt32).toInt8.toInt32))).set (6 : Int32).toNatClampNeg (.int ((((p3.toUInt32 >>> ((8 : Int32) &&& 31).toUInt32).toInt32).toInt8.toInt32).toInt8.toInt32))).set (7 : Int32).toNatClampNeg (.int ((p3.toInt8.toInt32).toInt8.toInt32))).set (3 : Int32).toNatClampNeg (.int ((((p5.toUInt32 >>> ((24 : Int32) &&& 31).toUInt32).toInt32).toInt8.toInt32).toInt8.toInt32))).set (4 : Int32).toNatClampNeg (.int ((((p5.toUInt32 >>> ((16 : Int32) &&& 31).toUInt32).toInt32).toInt8.toInt32).toInt8.toInt32))).set (5 : Int32).toNatClampNeg (.int ((((p5.toUInt32 >>> ((8 : Int32) &&& 31).toUInt32).toInt32).toInt8.toInt32).toInt8.toInt32))).set (6 : Int32).toNatClampNeg (.int ((p5.toInt8.toInt32).toInt8.toInt32))) T37.heap n0 Zs47 f46 (by decide) (by decide) (by decide) hp8) hZ (hw _ (List.mem_of_getElem? (i := 66) rfl)) (hw _ (List.mem_of_getElem? (i := 65) rfl)) (by decide) (by decide)) (g := (mkF m 95 #[.val (.int p1), .val (.int p2), .val (.int p3), .val (.int p4), .val (.int p5), .val (.ref b1), .val (.int (3 : Int32)), .val (.ref b37_1)] [(.int p5), (.int (3 : Int32)), (.int p3), (.int p2), (.int (1 : Int32)), (.ref b37_1)])) rfl (by rw [hml]; rfl) (argsL := [(.ref b37_1), (.int (1 : Int32)), (.int p2), (.int p3), (.int (3 : Int32)), (.int p5)]) (rest := []) (lenOf pd_7 rfl) rfl (by show 2 * 0 + _ ≤ _; exact Nat.le_of_eq rfl) (hb hby at_95) (fun _ _ => ⟨rfl, e49, (by decide : 5 + 0 ≤ _), (by decide : 53 + 0 ≤ _)⟩)
  dsimp only [Pt.U, Pt.locs, Pt.cells, Pt.slots] at X51 l51 y51 z51 st51 hQ51
  subst l51 y51 z51
  obtain ⟨rfl, Nq51, e51⟩ := hQ51
  have N52 := Fr.app N50 Nq51
  obtain ⟨_, _, ⟨T53, L53, k53, n53⟩, -, X53, ⟨Lc53, hQ53, l53, y53, z53⟩, st53⟩ := Jvm.LawKit.callS X51 hx (y := (⟨"com/example/herald/herald/bytecode/BytesPutU4PinLaw", "ok", "([BIIIII)Z"⟩ : MethodName)) hown (mvT hZ (hw _ (List.mem_of_getElem? (i := 63) rfl))) (mvT hZ (hw _ (List.mem_of_getElem? (i := 64) rfl))) (mvT hZ (hw _ (List.mem_of_getElem? (i := 65) rfl))) (mvT hZ (hw _ (List.mem_of_getElem? (i := 66) rfl))) (by decide) (backOf (W := 0) (rm_okA l Z a0 hw [] b37_1 (2 : Int32) p2 p3 (3 : Int32) p5 k37_2 (8 : Int32) (((((((((((((List.replicate 16 (Value.int (0 : Int32))).set (0 : Int32).toNatClampNeg (.int ((((p2.toUInt32 >>> ((24 : Int32) &&& 31).toUInt32).toInt32).toInt8.toInt32).toInt8.toInt32))).set (1 : Int32).toNatClampNeg (.int ((((p2.toUInt32 >>> ((16 : Int32) &&& 31).toUInt32).toInt32).toInt8.toInt32).toInt8.toInt32))).set (2 : Int32).toNatClampNeg (.int ((((p2.toUInt32 >>> ((8 : Int32) &&& 31).toUInt32).toInt32).toInt8.toInt32).toInt8.toInt32))).set (3 : Int32).toNatClampNeg (.int ((p2.toInt8.toInt32).toInt8.toInt32))).set (4 : Int32).toNatClampNeg (.int ((((p3.toUInt32 >>> ((24 : Int32) &&& 31).toUInt32).toInt32).toInt8.toInt32).toInt8.toInt32))).set (5 : Int32).toNatClampNeg (.int ((((p3.toUInt32 >>> ((16 : Int32) &&& 31).toUInt32).toInt32).toInt8.toInt32).toInt8.toInt32))).set (6 : Int32).toNatClampNeg (.int ((((p3.toUInt32 >>> ((8 : Int32) &&& 31).toUInt32).toInt32).toInt8.toInt32).toInt8.toInt32))).set (7 : Int32).toNatClampNeg (.int ((p3.toInt8.toInt32).toInt8.toInt32))).set (3 : Int32).toNatClampNeg (.int ((((p5.toUInt32 >>> ((24 : Int32) &&& 31).toUInt32).toInt32).toInt8.toInt32).toInt8.toInt32))).set (4 : Int32).toNatClampNeg (.int ((((p5.toUInt32 >>> ((16 : Int32) &&& 31).toUInt32).toInt32).toInt8.toInt32).toInt8.toInt32))).set (5 : Int32).toNatClampNeg (.int ((((p5.toUInt32 >>> ((8 : Int32) &&& 31).toUInt32).toInt32).toInt8.toInt32).toInt8.toInt32))).set (6 : Int32).toNatClampNeg (.int ((p5.toInt8.toInt32).toInt8.toInt32))) T37.heap n0 Zs47 f46 (by decide) (by decide) (by decide) hp9) hZ (hw _ (List.mem_of_getElem? (i := 66) rfl)) (hw _ (List.mem_of_getElem? (i := 65) rfl)) (by decide) (by decide)) (g := (mkF m 110 #[.val (.int p1), .val (.int p2), .val (.int p3), .val (.int p4), .val (.int p5), .val (.ref b1), .val (.int (3 : Int32)), .val (.ref b37_1)] [(.int p5), (.int (3 : Int32)), (.int p3), (.int p2), (.int (2 : Int32)), (.ref b37_1)])) rfl (by rw [hml]; rfl) (argsL := [(.ref b37_1), (.int (2 : Int32)), (.int p2), (.int p3), (.int (3 : Int32)), (.int p5)]) (rest := []) (lenOf pd_7 rfl) rfl (by show 2 * 0 + _ ≤ _; exact Nat.le_of_eq rfl) (hb hby at_110) (fun _ _ => ⟨rfl, e51, (by decide : 5 + 0 ≤ _), (by decide : 53 + 0 ≤ _)⟩)
  dsimp only [Pt.U, Pt.locs, Pt.cells, Pt.slots] at X53 l53 y53 z53 st53 hQ53
  subst l53 y53 z53
  obtain ⟨rfl, Nq53, e53⟩ := hQ53
  have N54 := Fr.app N52 Nq53
  obtain ⟨_, _, ⟨T55, L55, k55, n55⟩, -, X55, ⟨Lc55, hQ55, l55, y55, z55⟩, st55⟩ := Jvm.LawKit.callS X53 hx (y := (⟨"com/example/herald/herald/bytecode/BytesPutU4PinLaw", "ok", "([BIIIII)Z"⟩ : MethodName)) hown (mvT hZ (hw _ (List.mem_of_getElem? (i := 63) rfl))) (mvT hZ (hw _ (List.mem_of_getElem? (i := 64) rfl))) (mvT hZ (hw _ (List.mem_of_getElem? (i := 65) rfl))) (mvT hZ (hw _ (List.mem_of_getElem? (i := 66) rfl))) (by decide) (backOf (W := 0) (rm_okV l Z a0 hw [] b37_1 (3 : Int32) p2 p3 (3 : Int32) p5 k37_2 (8 : Int32) (((((((((((((List.replicate 16 (Value.int (0 : Int32))).set (0 : Int32).toNatClampNeg (.int ((((p2.toUInt32 >>> ((24 : Int32) &&& 31).toUInt32).toInt32).toInt8.toInt32).toInt8.toInt32))).set (1 : Int32).toNatClampNeg (.int ((((p2.toUInt32 >>> ((16 : Int32) &&& 31).toUInt32).toInt32).toInt8.toInt32).toInt8.toInt32))).set (2 : Int32).toNatClampNeg (.int ((((p2.toUInt32 >>> ((8 : Int32) &&& 31).toUInt32).toInt32).toInt8.toInt32).toInt8.toInt32))).set (3 : Int32).toNatClampNeg (.int ((p2.toInt8.toInt32).toInt8.toInt32))).set (4 : Int32).toNatClampNeg (.int ((((p3.toUInt32 >>> ((24 : Int32) &&& 31).toUInt32).toInt32).toInt8.toInt32).toInt8.toInt32))).set (5 : Int32).toNatClampNeg (.int ((((p3.toUInt32 >>> ((16 : Int32) &&& 31).toUInt32).toInt32).toInt8.toInt32).toInt8.toInt32))).set (6 : Int32).toNatClampNeg (.int ((((p3.toUInt32 >>> ((8 : Int32) &&& 31).toUInt32).toInt32).toInt8.toInt32).toInt8.toInt32))).set (7 : Int32).toNatClampNeg (.int ((p3.toInt8.toInt32).toInt8.toInt32))).set (3 : Int32).toNatClampNeg (.int ((((p5.toUInt32 >>> ((24 : Int32) &&& 31).toUInt32).toInt32).toInt8.toInt32).toInt8.toInt32))).set (4 : Int32).toNatClampNeg (.int ((((p5.toUInt32 >>> ((16 : Int32) &&& 31).toUInt32).toInt32).toInt8.toInt32).toInt8.toInt32))).set (5 : Int32).toNatClampNeg (.int ((((p5.toUInt32 >>> ((8 : Int32) &&& 31).toUInt32).toInt32).toInt8.toInt32).toInt8.toInt32))).set (6 : Int32).toNatClampNeg (.int ((p5.toInt8.toInt32).toInt8.toInt32))) T37.heap n0 Zs47 f46 (by decide) (by decide) (by decide) (by decide) hp10) hZ (hw _ (List.mem_of_getElem? (i := 66) rfl)) (hw _ (List.mem_of_getElem? (i := 65) rfl)) (by decide) (by decide)) (g := (mkF m 125 #[.val (.int p1), .val (.int p2), .val (.int p3), .val (.int p4), .val (.int p5), .val (.ref b1), .val (.int (3 : Int32)), .val (.ref b37_1)] [(.int p5), (.int (3 : Int32)), (.int p3), (.int p2), (.int (3 : Int32)), (.ref b37_1)])) rfl (by rw [hml]; rfl) (argsL := [(.ref b37_1), (.int (3 : Int32)), (.int p2), (.int p3), (.int (3 : Int32)), (.int p5)]) (rest := []) (lenOf pd_7 rfl) rfl (by show 2 * 0 + _ ≤ _; exact Nat.le_of_eq rfl) (hb hby at_125) (fun _ _ => ⟨rfl, e53, (by decide : 5 + 0 ≤ _), (by decide : 53 + 0 ≤ _)⟩)
  dsimp only [Pt.U, Pt.locs, Pt.cells, Pt.slots] at X55 l55 y55 z55 st55 hQ55
  subst l55 y55 z55
  obtain ⟨rfl, Nq55, e55⟩ := hQ55
  have N56 := Fr.app N54 Nq55
  obtain ⟨_, _, ⟨T57, L57, k57, n57⟩, -, X57, ⟨Lc57, hQ57, l57, y57, z57⟩, st57⟩ := Jvm.LawKit.callS X55 hx (y := (⟨"com/example/herald/herald/bytecode/BytesPutU4PinLaw", "ok", "([BIIIII)Z"⟩ : MethodName)) hown (mvT hZ (hw _ (List.mem_of_getElem? (i := 63) rfl))) (mvT hZ (hw _ (List.mem_of_getElem? (i := 64) rfl))) (mvT hZ (hw _ (List.mem_of_getElem? (i := 65) rfl))) (mvT hZ (hw _ (List.mem_of_getElem? (i := 66) rfl))) (by decide) (backOf (W := 0) (rm_okV l Z a0 hw [] b37_1 (4 : Int32) p2 p3 (3 : Int32) p5 k37_2 (8 : Int32) (((((((((((((List.replicate 16 (Value.int (0 : Int32))).set (0 : Int32).toNatClampNeg (.int ((((p2.toUInt32 >>> ((24 : Int32) &&& 31).toUInt32).toInt32).toInt8.toInt32).toInt8.toInt32))).set (1 : Int32).toNatClampNeg (.int ((((p2.toUInt32 >>> ((16 : Int32) &&& 31).toUInt32).toInt32).toInt8.toInt32).toInt8.toInt32))).set (2 : Int32).toNatClampNeg (.int ((((p2.toUInt32 >>> ((8 : Int32) &&& 31).toUInt32).toInt32).toInt8.toInt32).toInt8.toInt32))).set (3 : Int32).toNatClampNeg (.int ((p2.toInt8.toInt32).toInt8.toInt32))).set (4 : Int32).toNatClampNeg (.int ((((p3.toUInt32 >>> ((24 : Int32) &&& 31).toUInt32).toInt32).toInt8.toInt32).toInt8.toInt32))).set (5 : Int32).toNatClampNeg (.int ((((p3.toUInt32 >>> ((16 : Int32) &&& 31).toUInt32).toInt32).toInt8.toInt32).toInt8.toInt32))).set (6 : Int32).toNatClampNeg (.int ((((p3.toUInt32 >>> ((8 : Int32) &&& 31).toUInt32).toInt32).toInt8.toInt32).toInt8.toInt32))).set (7 : Int32).toNatClampNeg (.int ((p3.toInt8.toInt32).toInt8.toInt32))).set (3 : Int32).toNatClampNeg (.int ((((p5.toUInt32 >>> ((24 : Int32) &&& 31).toUInt32).toInt32).toInt8.toInt32).toInt8.toInt32))).set (4 : Int32).toNatClampNeg (.int ((((p5.toUInt32 >>> ((16 : Int32) &&& 31).toUInt32).toInt32).toInt8.toInt32).toInt8.toInt32))).set (5 : Int32).toNatClampNeg (.int ((((p5.toUInt32 >>> ((8 : Int32) &&& 31).toUInt32).toInt32).toInt8.toInt32).toInt8.toInt32))).set (6 : Int32).toNatClampNeg (.int ((p5.toInt8.toInt32).toInt8.toInt32))) T37.heap n0 Zs47 f46 (by decide) (by decide) (by decide) (by decide) hp11) hZ (hw _ (List.mem_of_getElem? (i := 66) rfl)) (hw _ (List.mem_of_getElem? (i := 65) rfl)) (by decide) (by decide)) (g := (mkF m 140 #[.val (.int p1), .val (.int p2), .val (.int p3), .val (.int p4), .val (.int p5), .val (.ref b1), .val (.int (3 : Int32)), .val (.ref b37_1)] [(.int p5), (.int (3 : Int32)), (.int p3), (.int p2), (.int (4 : Int32)), (.ref b37_1)])) rfl (by rw [hml]; rfl) (argsL := [(.ref b37_1), (.int (4 : Int32)), (.int p2), (.int p3), (.int (3 : Int32)), (.int p5)]) (rest := []) (lenOf pd_7 rfl) rfl (by show 2 * 0 + _ ≤ _; exact Nat.le_of_eq rfl) (hb hby at_140) (fun _ _ => ⟨rfl, e55, (by decide : 5 + 0 ≤ _), (by decide : 53 + 0 ≤ _)⟩)
  dsimp only [Pt.U, Pt.locs, Pt.cells, Pt.slots] at X57 l57 y57 z57 st57 hQ57
  subst l57 y57 z57
  obtain ⟨rfl, Nq57, e57⟩ := hQ57
  have N58 := Fr.app N56 Nq57
  obtain ⟨_, _, ⟨T59, L59, k59, n59⟩, -, X59, ⟨Lc59, hQ59, l59, y59, z59⟩, st59⟩ := Jvm.LawKit.callS X57 hx (y := (⟨"com/example/herald/herald/bytecode/BytesPutU4PinLaw", "ok", "([BIIIII)Z"⟩ : MethodName)) hown (mvT hZ (hw _ (List.mem_of_getElem? (i := 63) rfl))) (mvT hZ (hw _ (List.mem_of_getElem? (i := 64) rfl))) (mvT hZ (hw _ (List.mem_of_getElem? (i := 65) rfl))) (mvT hZ (hw _ (List.mem_of_getElem? (i := 66) rfl))) (by decide) (backOf (W := 0) (rm_okV l Z a0 hw [] b37_1 (5 : Int32) p2 p3 (3 : Int32) p5 k37_2 (8 : Int32) (((((((((((((List.replicate 16 (Value.int (0 : Int32))).set (0 : Int32).toNatClampNeg (.int ((((p2.toUInt32 >>> ((24 : Int32) &&& 31).toUInt32).toInt32).toInt8.toInt32).toInt8.toInt32))).set (1 : Int32).toNatClampNeg (.int ((((p2.toUInt32 >>> ((16 : Int32) &&& 31).toUInt32).toInt32).toInt8.toInt32).toInt8.toInt32))).set (2 : Int32).toNatClampNeg (.int ((((p2.toUInt32 >>> ((8 : Int32) &&& 31).toUInt32).toInt32).toInt8.toInt32).toInt8.toInt32))).set (3 : Int32).toNatClampNeg (.int ((p2.toInt8.toInt32).toInt8.toInt32))).set (4 : Int32).toNatClampNeg (.int ((((p3.toUInt32 >>> ((24 : Int32) &&& 31).toUInt32).toInt32).toInt8.toInt32).toInt8.toInt32))).set (5 : Int32).toNatClampNeg (.int ((((p3.toUInt32 >>> ((16 : Int32) &&& 31).toUInt32).toInt32).toInt8.toInt32).toInt8.toInt32))).set (6 : Int32).toNatClampNeg (.int ((((p3.toUInt32 >>> ((8 : Int32) &&& 31).toUInt32).toInt32).toInt8.toInt32).toInt8.toInt32))).set (7 : Int32).toNatClampNeg (.int ((p3.toInt8.toInt32).toInt8.toInt32))).set (3 : Int32).toNatClampNeg (.int ((((p5.toUInt32 >>> ((24 : Int32) &&& 31).toUInt32).toInt32).toInt8.toInt32).toInt8.toInt32))).set (4 : Int32).toNatClampNeg (.int ((((p5.toUInt32 >>> ((16 : Int32) &&& 31).toUInt32).toInt32).toInt8.toInt32).toInt8.toInt32))).set (5 : Int32).toNatClampNeg (.int ((((p5.toUInt32 >>> ((8 : Int32) &&& 31).toUInt32).toInt32).toInt8.toInt32).toInt8.toInt32))).set (6 : Int32).toNatClampNeg (.int ((p5.toInt8.toInt32).toInt8.toInt32))) T37.heap n0 Zs47 f46 (by decide) (by decide) (by decide) (by decide) hp12) hZ (hw _ (List.mem_of_getElem? (i := 66) rfl)) (hw _ (List.mem_of_getElem? (i := 65) rfl)) (by decide) (by decide)) (g := (mkF m 155 #[.val (.int p1), .val (.int p2), .val (.int p3), .val (.int p4), .val (.int p5), .val (.ref b1), .val (.int (3 : Int32)), .val (.ref b37_1)] [(.int p5), (.int (3 : Int32)), (.int p3), (.int p2), (.int (5 : Int32)), (.ref b37_1)])) rfl (by rw [hml]; rfl) (argsL := [(.ref b37_1), (.int (5 : Int32)), (.int p2), (.int p3), (.int (3 : Int32)), (.int p5)]) (rest := []) (lenOf pd_7 rfl) rfl (by show 2 * 0 + _ ≤ _; exact Nat.le_of_eq rfl) (hb hby at_155) (fun _ _ => ⟨rfl, e57, (by decide : 5 + 0 ≤ _), (by decide : 53 + 0 ≤ _)⟩)
  dsimp only [Pt.U, Pt.locs, Pt.cells, Pt.slots] at X59 l59 y59 z59 st59 hQ59
  subst l59 y59 z59
  obtain ⟨rfl, Nq59, e59⟩ := hQ59
  have N60 := Fr.app N58 Nq59
  obtain ⟨_, _, ⟨T61, L61, k61, n61⟩, -, X61, ⟨Lc61, hQ61, l61, y61, z61⟩, st61⟩ := Jvm.LawKit.callS X59 hx (y := (⟨"com/example/herald/herald/bytecode/BytesPutU4PinLaw", "ok", "([BIIIII)Z"⟩ : MethodName)) hown (mvT hZ (hw _ (List.mem_of_getElem? (i := 63) rfl))) (mvT hZ (hw _ (List.mem_of_getElem? (i := 64) rfl))) (mvT hZ (hw _ (List.mem_of_getElem? (i := 65) rfl))) (mvT hZ (hw _ (List.mem_of_getElem? (i := 66) rfl))) (by decide) (backOf (W := 0) (rm_okV l Z a0 hw [] b37_1 (6 : Int32) p2 p3 (3 : Int32) p5 k37_2 (8 : Int32) (((((((((((((List.replicate 16 (Value.int (0 : Int32))).set (0 : Int32).toNatClampNeg (.int ((((p2.toUInt32 >>> ((24 : Int32) &&& 31).toUInt32).toInt32).toInt8.toInt32).toInt8.toInt32))).set (1 : Int32).toNatClampNeg (.int ((((p2.toUInt32 >>> ((16 : Int32) &&& 31).toUInt32).toInt32).toInt8.toInt32).toInt8.toInt32))).set (2 : Int32).toNatClampNeg (.int ((((p2.toUInt32 >>> ((8 : Int32) &&& 31).toUInt32).toInt32).toInt8.toInt32).toInt8.toInt32))).set (3 : Int32).toNatClampNeg (.int ((p2.toInt8.toInt32).toInt8.toInt32))).set (4 : Int32).toNatClampNeg (.int ((((p3.toUInt32 >>> ((24 : Int32) &&& 31).toUInt32).toInt32).toInt8.toInt32).toInt8.toInt32))).set (5 : Int32).toNatClampNeg (.int ((((p3.toUInt32 >>> ((16 : Int32) &&& 31).toUInt32).toInt32).toInt8.toInt32).toInt8.toInt32))).set (6 : Int32).toNatClampNeg (.int ((((p3.toUInt32 >>> ((8 : Int32) &&& 31).toUInt32).toInt32).toInt8.toInt32).toInt8.toInt32))).set (7 : Int32).toNatClampNeg (.int ((p3.toInt8.toInt32).toInt8.toInt32))).set (3 : Int32).toNatClampNeg (.int ((((p5.toUInt32 >>> ((24 : Int32) &&& 31).toUInt32).toInt32).toInt8.toInt32).toInt8.toInt32))).set (4 : Int32).toNatClampNeg (.int ((((p5.toUInt32 >>> ((16 : Int32) &&& 31).toUInt32).toInt32).toInt8.toInt32).toInt8.toInt32))).set (5 : Int32).toNatClampNeg (.int ((((p5.toUInt32 >>> ((8 : Int32) &&& 31).toUInt32).toInt32).toInt8.toInt32).toInt8.toInt32))).set (6 : Int32).toNatClampNeg (.int ((p5.toInt8.toInt32).toInt8.toInt32))) T37.heap n0 Zs47 f46 (by decide) (by decide) (by decide) (by decide) hp13) hZ (hw _ (List.mem_of_getElem? (i := 66) rfl)) (hw _ (List.mem_of_getElem? (i := 65) rfl)) (by decide) (by decide)) (g := (mkF m 171 #[.val (.int p1), .val (.int p2), .val (.int p3), .val (.int p4), .val (.int p5), .val (.ref b1), .val (.int (3 : Int32)), .val (.ref b37_1)] [(.int p5), (.int (3 : Int32)), (.int p3), (.int p2), (.int (6 : Int32)), (.ref b37_1)])) rfl (by rw [hml]; rfl) (argsL := [(.ref b37_1), (.int (6 : Int32)), (.int p2), (.int p3), (.int (3 : Int32)), (.int p5)]) (rest := []) (lenOf pd_7 rfl) rfl (by show 2 * 0 + _ ≤ _; exact Nat.le_of_eq rfl) (hb hby at_171) (fun _ _ => ⟨rfl, e59, (by decide : 5 + 0 ≤ _), (by decide : 53 + 0 ≤ _)⟩)
  dsimp only [Pt.U, Pt.locs, Pt.cells, Pt.slots] at X61 l61 y61 z61 st61 hQ61
  subst l61 y61 z61
  obtain ⟨rfl, Nq61, e61⟩ := hQ61
  have N62 := Fr.app N60 Nq61
  obtain ⟨_, _, ⟨T63, L63, k63, n63⟩, -, X63, ⟨Lc63, hQ63, l63, y63, z63⟩, st63⟩ := Jvm.LawKit.callS X61 hx (y := (⟨"com/example/herald/herald/bytecode/BytesPutU4PinLaw", "ok", "([BIIIII)Z"⟩ : MethodName)) hown (mvT hZ (hw _ (List.mem_of_getElem? (i := 63) rfl))) (mvT hZ (hw _ (List.mem_of_getElem? (i := 64) rfl))) (mvT hZ (hw _ (List.mem_of_getElem? (i := 65) rfl))) (mvT hZ (hw _ (List.mem_of_getElem? (i := 66) rfl))) (by decide) (backOf (W := 0) (rm_okB l Z a0 hw [] b37_1 (7 : Int32) p2 p3 (3 : Int32) p5 k37_2 (8 : Int32) (((((((((((((List.replicate 16 (Value.int (0 : Int32))).set (0 : Int32).toNatClampNeg (.int ((((p2.toUInt32 >>> ((24 : Int32) &&& 31).toUInt32).toInt32).toInt8.toInt32).toInt8.toInt32))).set (1 : Int32).toNatClampNeg (.int ((((p2.toUInt32 >>> ((16 : Int32) &&& 31).toUInt32).toInt32).toInt8.toInt32).toInt8.toInt32))).set (2 : Int32).toNatClampNeg (.int ((((p2.toUInt32 >>> ((8 : Int32) &&& 31).toUInt32).toInt32).toInt8.toInt32).toInt8.toInt32))).set (3 : Int32).toNatClampNeg (.int ((p2.toInt8.toInt32).toInt8.toInt32))).set (4 : Int32).toNatClampNeg (.int ((((p3.toUInt32 >>> ((24 : Int32) &&& 31).toUInt32).toInt32).toInt8.toInt32).toInt8.toInt32))).set (5 : Int32).toNatClampNeg (.int ((((p3.toUInt32 >>> ((16 : Int32) &&& 31).toUInt32).toInt32).toInt8.toInt32).toInt8.toInt32))).set (6 : Int32).toNatClampNeg (.int ((((p3.toUInt32 >>> ((8 : Int32) &&& 31).toUInt32).toInt32).toInt8.toInt32).toInt8.toInt32))).set (7 : Int32).toNatClampNeg (.int ((p3.toInt8.toInt32).toInt8.toInt32))).set (3 : Int32).toNatClampNeg (.int ((((p5.toUInt32 >>> ((24 : Int32) &&& 31).toUInt32).toInt32).toInt8.toInt32).toInt8.toInt32))).set (4 : Int32).toNatClampNeg (.int ((((p5.toUInt32 >>> ((16 : Int32) &&& 31).toUInt32).toInt32).toInt8.toInt32).toInt8.toInt32))).set (5 : Int32).toNatClampNeg (.int ((((p5.toUInt32 >>> ((8 : Int32) &&& 31).toUInt32).toInt32).toInt8.toInt32).toInt8.toInt32))).set (6 : Int32).toNatClampNeg (.int ((p5.toInt8.toInt32).toInt8.toInt32))) T37.heap n0 Zs47 f46 (by decide) (by decide) (by decide) (by decide) hp14) hZ (hw _ (List.mem_of_getElem? (i := 66) rfl)) (hw _ (List.mem_of_getElem? (i := 65) rfl)) (by decide) (by decide)) (g := (mkF m 187 #[.val (.int p1), .val (.int p2), .val (.int p3), .val (.int p4), .val (.int p5), .val (.ref b1), .val (.int (3 : Int32)), .val (.ref b37_1)] [(.int p5), (.int (3 : Int32)), (.int p3), (.int p2), (.int (7 : Int32)), (.ref b37_1)])) rfl (by rw [hml]; rfl) (argsL := [(.ref b37_1), (.int (7 : Int32)), (.int p2), (.int p3), (.int (3 : Int32)), (.int p5)]) (rest := []) (lenOf pd_7 rfl) rfl (by show 2 * 0 + _ ≤ _; exact Nat.le_of_eq rfl) (hb hby at_187) (fun _ _ => ⟨rfl, e61, (by decide : 5 + 0 ≤ _), (by decide : 53 + 0 ≤ _)⟩)
  dsimp only [Pt.U, Pt.locs, Pt.cells, Pt.slots] at X63 l63 y63 z63 st63 hQ63
  subst l63 y63 z63
  obtain ⟨rfl, Nq63, e63⟩ := hQ63
  have N64 := Fr.app N62 Nq63
  obtain ⟨fs, hr, hrun, hended, hW, hsame⟩ := X63.leave (v := some (.int (1 : Int32))) (fun h => by rw [Bd.returns] at h; cases h) Bd.notSynchronized
  refine ⟨_, _, pre0 _ ?_, hrun, hended, _, _, rfl, ?_, ⟨_, rfl⟩, hW, hsame.mono (by decide) (by decide)⟩
  · show Steps p.tables e below (s₁.setTop (mkF m 0 #[.val (.int p1), .val (.int p2), .val (.int p3), .val (.int p4), .val (.int p5), .unset, .unset, .unset] [])) _
    refine st1 _ ?_
    show Steps p.tables e below (T1.setTop (mkF m 3 #[.val (.int p1), .val (.int p2), .val (.int p3), .val (.int p4), .val (.int p5), .unset, .unset, .unset] [(.ref b1)])) _
    refine XS.dup X1.here hx rfl (hb hby at_3) rfl rfl ?_
    show Steps p.tables e below (T1.setTop (mkF m 4 #[.val (.int p1), .val (.int p2), .val (.int p3), .val (.int p4), .val (.int p5), .unset, .unset, .unset] [(.ref b1), (.ref b1)])) _
    refine XS.iloadN X1.here hx rfl (hb hby at_4) rfl ?_
    show Steps p.tables e below (T1.setTop (mkF m 5 #[.val (.int p1), .val (.int p2), .val (.int p3), .val (.int p4), .val (.int p5), .unset, .unset, .unset] [(.int p1), (.ref b1), (.ref b1)])) _
    refine XS.bipush X1.here hx rfl (hb hby at_5) ?_
    show Steps p.tables e below (T1.setTop (mkF m 7 #[.val (.int p1), .val (.int p2), .val (.int p3), .val (.int p4), .val (.int p5), .unset, .unset, .unset] [(.int (15 : Int32)), (.int p1), (.ref b1), (.ref b1)])) _
    refine XS.iand X1.here hx rfl (hb hby at_7) rfl ?_
    show Steps p.tables e below (T1.setTop (mkF m 8 #[.val (.int p1), .val (.int p2), .val (.int p3), .val (.int p4), .val (.int p5), .unset, .unset, .unset] [(.int (p1 &&& (15 : Int32))), (.ref b1), (.ref b1)])) _
    refine st5.trans ?_
    show Steps p.tables e below (T5.setTop (mkF m 11 #[.val (.int p1), .val (.int p2), .val (.int p3), .val (.int p4), .val (.int p5), .unset, .unset, .unset] [(.ref b1)])) _
    refine XS.astore X5.here hx rfl (hb hby at_11) rfl rfl (l' := #[.val (.int p1), .val (.int p2), .val (.int p3), .val (.int p4), .val (.int p5), .val (.ref b1), .unset, .unset]) rfl ?_
    show Steps p.tables e below (T5.setTop (mkF m 13 #[.val (.int p1), .val (.int p2), .val (.int p3), .val (.int p4), .val (.int p5), .val (.ref b1), .unset, .unset] [])) _
    refine XS.aload X5.here hx rfl (hb hby at_13) rfl rfl ?_
    show Steps p.tables e below (T5.setTop (mkF m 15 #[.val (.int p1), .val (.int p2), .val (.int p3), .val (.int p4), .val (.int p5), .val (.ref b1), .unset, .unset] [(.ref b1)])) _
    refine XS.iloadN X5.here hx rfl (hb hby at_15) rfl ?_
    show Steps p.tables e below (T5.setTop (mkF m 16 #[.val (.int p1), .val (.int p2), .val (.int p3), .val (.int p4), .val (.int p5), .val (.ref b1), .unset, .unset] [(.int p2), (.ref b1)])) _
    refine st11.trans ?_
    show Steps p.tables e below (T11.setTop (mkF m 19 #[.val (.int p1), .val (.int p2), .val (.int p3), .val (.int p4), .val (.int p5), .val (.ref b1), .unset, .unset] [])) _
    refine XS.aload X11.here hx rfl (hb hby at_19) rfl rfl ?_
    show Steps p.tables e below (T11.setTop (mkF m 21 #[.val (.int p1), .val (.int p2), .val (.int p3), .val (.int p4), .val (.int p5), .val (.ref b1), .unset, .unset] [(.ref b1)])) _
    refine XS.iloadN X11.here hx rfl (hb hby at_21) rfl ?_
    show Steps p.tables e below (T11.setTop (mkF m 22 #[.val (.int p1), .val (.int p2), .val (.int p3), .val (.int p4), .val (.int p5), .val (.ref b1), .unset, .unset] [(.int p3), (.ref b1)])) _
    refine st18.trans ?_
    show Steps p.tables e below (T18.setTop (mkF m 25 #[.val (.int p1), .val (.int p2), .val (.int p3), .val (.int p4), .val (.int p5), .val (.ref b1), .unset, .unset] [])) _
    refine XS.iloadN X18.here hx rfl (hb hby at_25) rfl ?_
    show Steps p.tables e below (T18.setTop (mkF m 26 #[.val (.int p1), .val (.int p2), .val (.int p3), .val (.int p4), .val (.int p5), .val (.ref b1), .unset, .unset] [(.int p4)])) _
    refine X18.ldcInt hx hown (mvT hZ (hw _ (List.mem_of_getElem? (i := 38) rfl))) (g := (mkF m 26 #[.val (.int p1), .val (.int p2), .val (.int p3), .val (.int p4), .val (.int p5), .val (.ref b1), .unset, .unset] [(.int p4)])) rfl (hb hby at_26) _ ?_
    show Steps p.tables e below (T18.setTop (mkF m 28 #[.val (.int p1), .val (.int p2), .val (.int p3), .val (.int p4), .val (.int p5), .val (.ref b1), .unset, .unset] [(.int (2147483647 : Int32)), (.int p4)])) _
    refine XS.iand X18.here hx rfl (hb hby at_28) rfl ?_
    show Steps p.tables e below (T18.setTop (mkF m 29 #[.val (.int p1), .val (.int p2), .val (.int p3), .val (.int p4), .val (.int p5), .val (.ref b1), .unset, .unset] [(.int (p4 &&& (2147483647 : Int32)))])) _
    refine XS.iconst X18.here hx rfl (hb hby at_29) ?_
    show Steps p.tables e below (T18.setTop (mkF m 30 #[.val (.int p1), .val (.int p2), .val (.int p3), .val (.int p4), .val (.int p5), .val (.ref b1), .unset, .unset] [(.int (5 : Int32)), (.int (p4 &&& (2147483647 : Int32)))])) _
    refine iremM X18 hx rfl (hb hby at_30) rfl (by decide) ?_
    show Steps p.tables e below (T18.setTop (mkF m 31 #[.val (.int p1), .val (.int p2), .val (.int p3), .val (.int p4), .val (.int p5), .val (.ref b1), .unset, .unset] [(.int ((p4 &&& (2147483647 : Int32)) % (5 : Int32)))])) _
    refine XS.istore X18.here hx rfl (hb hby at_31) rfl (l' := #[.val (.int p1), .val (.int p2), .val (.int p3), .val (.int p4), .val (.int p5), .val (.ref b1), .val (.int ((p4 &&& (2147483647 : Int32)) % (5 : Int32))), .unset]) rfl ?_
    show Steps p.tables e below (T18.setTop (mkF m 33 #[.val (.int p1), .val (.int p2), .val (.int p3), .val (.int p4), .val (.int p5), .val (.ref b1), .val (.int ((p4 &&& (2147483647 : Int32)) % (5 : Int32))), .unset] [])) _
    rw [hw_5]
    show Steps p.tables e below (T18.setTop (mkF m 33 #[.val (.int p1), .val (.int p2), .val (.int p3), .val (.int p4), .val (.int p5), .val (.ref b1), .val (.int (3 : Int32)), .unset] [])) _
    refine XS.aload X18.here hx rfl (hb hby at_33) rfl rfl ?_
    show Steps p.tables e below (T18.setTop (mkF m 35 #[.val (.int p1), .val (.int p2), .val (.int p3), .val (.int p4), .val (.int p5), .val (.ref b1), .val (.int (3 : Int32)), .unset] [(.ref b1)])) _
    refine XS.iload X18.here hx rfl (hb hby at_35) rfl ?_
    show Steps p.tables e below (T18.setTop (mkF m 37 #[.val (.int p1), .val (.int p2), .val (.int p3), .val (.int p4), .val (.int p5), .val (.ref b1), .val (.int (3 : Int32)), .unset] [(.int (3 : Int32)), (.ref b1)])) _
    refine XS.iload X18.here hx rfl (hb hby at_37) rfl ?_
    show Steps p.tables e below (T18.setTop (mkF m 39 #[.val (.int p1), .val (.int p2), .val (.int p3), .val (.int p4), .val (.int p5), .val (.ref b1), .val (.int (3 : Int32)), .unset] [(.int p5), (.int (3 : Int32)), (.ref b1)])) _
    refine st26.trans ?_
    show Steps p.tables e below (T26.setTop (mkF m 42 #[.val (.int p1), .val (.int p2), .val (.int p3), .val (.int p4), .val (.int p5), .val (.ref b1), .val (.int (3 : Int32)), .unset] [])) _
    refine XS.aload X26.here hx rfl (hb hby at_42) rfl rfl ?_
    show Steps p.tables e below (T26.setTop (mkF m 44 #[.val (.int p1), .val (.int p2), .val (.int p3), .val (.int p4), .val (.int p5), .val (.ref b1), .val (.int (3 : Int32)), .unset] [(.ref b1)])) _
    refine st35.trans ?_
    show Steps p.tables e below (T35.setTop (mkF m 47 #[.val (.int p1), .val (.int p2), .val (.int p3), .val (.int p4), .val (.int p5), .val (.ref b1), .val (.int (3 : Int32)), .unset] [(.int (8 : Int32))])) _
    refine XS.bipush X35.here hx rfl (hb hby at_47) ?_
    show Steps p.tables e below (T35.setTop (mkF m 49 #[.val (.int p1), .val (.int p2), .val (.int p3), .val (.int p4), .val (.int p5), .val (.ref b1), .val (.int (3 : Int32)), .unset] [(.int (8 : Int32)), (.int (8 : Int32))])) _
    refine XS.icmpYes X35.here hx rfl (pc0 := 49) (pc' := 54) rfl (hb hby at_49) rfl (teq (by decide : (8 : Int32) = (8 : Int32))).1 (by decide) (by decide) ?_
    show Steps p.tables e below (T35.setTop (mkF m 54 #[.val (.int p1), .val (.int p2), .val (.int p3), .val (.int p4), .val (.int p5), .val (.ref b1), .val (.int (3 : Int32)), .unset] [])) _
    refine XS.aload X35.here hx rfl (hb hby at_54) rfl rfl ?_
    show Steps p.tables e below (T35.setTop (mkF m 56 #[.val (.int p1), .val (.int p2), .val (.int p3), .val (.int p4), .val (.int p5), .val (.ref b1), .val (.int (3 : Int32)), .unset] [(.ref b1)])) _
    refine st37.trans ?_
    show Steps p.tables e below (T37.setTop (mkF m 59 #[.val (.int p1), .val (.int p2), .val (.int p3), .val (.int p4), .val (.int p5), .val (.ref b1), .val (.int (3 : Int32)), .unset] [(.ref b37_1)])) _
    refine XS.astore X37.here hx rfl (hb hby at_59) rfl rfl (l' := #[.val (.int p1), .val (.int p2), .val (.int p3), .val (.int p4), .val (.int p5), .val (.ref b1), .val (.int (3 : Int32)), .val (.ref b37_1)]) rfl ?_
    show Steps p.tables e below (T37.setTop (mkF m 61 #[.val (.int p1), .val (.int p2), .val (.int p3), .val (.int p4), .val (.int p5), .val (.ref b1), .val (.int (3 : Int32)), .val (.ref b37_1)] [])) _
    refine XS.aload X37.here hx rfl (hb hby at_61) rfl rfl ?_
    show Steps p.tables e below (T37.setTop (mkF m 63 #[.val (.int p1), .val (.int p2), .val (.int p3), .val (.int p4), .val (.int p5), .val (.ref b1), .val (.int (3 : Int32)), .val (.ref b37_1)] [(.ref b37_1)])) _
    refine X37.arraylength hx Aro48.1 (State.isArrayOf_alike hZ.alike Aro48.2.1) (g := (mkF m 63 #[.val (.int p1), .val (.int p2), .val (.int p3), .val (.int p4), .val (.int p5), .val (.ref b1), .val (.int (3 : Int32)), .val (.ref b37_1)] [(.ref b37_1)])) rfl rfl (hb hby at_63) _ ?_
    rw [len_of So48 No48]
    show Steps p.tables e below (T37.setTop (mkF m 64 #[.val (.int p1), .val (.int p2), .val (.int p3), .val (.int p4), .val (.int p5), .val (.ref b1), .val (.int (3 : Int32)), .val (.ref b37_1)] [(.int (8 : Int32))])) _
    refine XS.bipush X37.here hx rfl (hb hby at_64) ?_
    show Steps p.tables e below (T37.setTop (mkF m 66 #[.val (.int p1), .val (.int p2), .val (.int p3), .val (.int p4), .val (.int p5), .val (.ref b1), .val (.int (3 : Int32)), .val (.ref b37_1)] [(.int (8 : Int32)), (.int (8 : Int32))])) _
    refine XS.icmpYes X37.here hx rfl (pc0 := 66) (pc' := 71) rfl (hb hby at_66) rfl (teq (by decide : (8 : Int32) = (8 : Int32))).1 (by decide) (by decide) ?_
    show Steps p.tables e below (T37.setTop (mkF m 71 #[.val (.int p1), .val (.int p2), .val (.int p3), .val (.int p4), .val (.int p5), .val (.ref b1), .val (.int (3 : Int32)), .val (.ref b37_1)] [])) _
    refine XS.aload X37.here hx rfl (hb hby at_71) rfl rfl ?_
    show Steps p.tables e below (T37.setTop (mkF m 73 #[.val (.int p1), .val (.int p2), .val (.int p3), .val (.int p4), .val (.int p5), .val (.ref b1), .val (.int (3 : Int32)), .val (.ref b37_1)] [(.ref b37_1)])) _
    refine XS.iconst X37.here hx rfl (hb hby at_73) ?_
    show Steps p.tables e below (T37.setTop (mkF m 74 #[.val (.int p1), .val (.int p2), .val (.int p3), .val (.int p4), .val (.int p5), .val (.ref b1), .val (.int (3 : Int32)), .val (.ref b37_1)] [(.int (0 : Int32)), (.ref b37_1)])) _
    refine XS.iloadN X37.here hx rfl (hb hby at_74) rfl ?_
    show Steps p.tables e below (T37.setTop (mkF m 75 #[.val (.int p1), .val (.int p2), .val (.int p3), .val (.int p4), .val (.int p5), .val (.ref b1), .val (.int (3 : Int32)), .val (.ref b37_1)] [(.int p2), (.int (0 : Int32)), (.ref b37_1)])) _
    refine XS.iloadN X37.here hx rfl (hb hby at_75) rfl ?_
    show Steps p.tables e below (T37.setTop (mkF m 76 #[.val (.int p1), .val (.int p2), .val (.int p3), .val (.int p4), .val (.int p5), .val (.ref b1), .val (.int (3 : Int32)), .val (.ref b37_1)] [(.int p3), (.int p2), (.int (0 : Int32)), (.ref b37_1)])) _
    refine XS.iload X37.here hx rfl (hb hby at_76) rfl ?_
    show Steps p.tables e below (T37.setTop (mkF m 78 #[.val (.int p1), .val (.int p2), .val (.int p3), .val (.int p4), .val (.int p5), .val (.ref b1), .val (.int (3 : Int32)), .val (.ref b37_1)] [(.int (3 : Int32)), (.int p3), (.int p2), (.int (0 : Int32)), (.ref b37_1)])) _
    refine XS.iload X37.here hx rfl (hb hby at_78) rfl ?_
    show Steps p.tables e below (T37.setTop (mkF m 80 #[.val (.int p1), .val (.int p2), .val (.int p3), .val (.int p4), .val (.int p5), .val (.ref b1), .val (.int (3 : Int32)), .val (.ref b37_1)] [(.int p5), (.int (3 : Int32)), (.int p3), (.int p2), (.int (0 : Int32)), (.ref b37_1)])) _
    refine st49 _ ?_
    show Steps p.tables e below (T49.setTop (mkF m 83 #[.val (.int p1), .val (.int p2), .val (.int p3), .val (.int p4), .val (.int p5), .val (.ref b1), .val (.int (3 : Int32)), .val (.ref b37_1)] [(.int (1 : Int32))])) _
    refine XS.ifNo X49.here hx rfl (hb hby at_83) rfl ((if0 _ _).trans (feq (by decide : ¬ ((1 : Int32) = (0 : Int32)))).1) ?_
    show Steps p.tables e below (T49.setTop (mkF m 86 #[.val (.int p1), .val (.int p2), .val (.int p3), .val (.int p4), .val (.int p5), .val (.ref b1), .val (.int (3 : Int32)), .val (.ref b37_1)] [])) _
    refine XS.aload X49.here hx rfl (hb hby at_86) rfl rfl ?_
    show Steps p.tables e below (T49.setTop (mkF m 88 #[.val (.int p1), .val (.int p2), .val (.int p3), .val (.int p4), .val (.int p5), .val (.ref b1), .val (.int (3 : Int32)), .val (.ref b37_1)] [(.ref b37_1)])) _
    refine XS.iconst X49.here hx rfl (hb hby at_88) ?_
    show Steps p.tables e below (T49.setTop (mkF m 89 #[.val (.int p1), .val (.int p2), .val (.int p3), .val (.int p4), .val (.int p5), .val (.ref b1), .val (.int (3 : Int32)), .val (.ref b37_1)] [(.int (1 : Int32)), (.ref b37_1)])) _
    refine XS.iloadN X49.here hx rfl (hb hby at_89) rfl ?_
    show Steps p.tables e below (T49.setTop (mkF m 90 #[.val (.int p1), .val (.int p2), .val (.int p3), .val (.int p4), .val (.int p5), .val (.ref b1), .val (.int (3 : Int32)), .val (.ref b37_1)] [(.int p2), (.int (1 : Int32)), (.ref b37_1)])) _
    refine XS.iloadN X49.here hx rfl (hb hby at_90) rfl ?_
    show Steps p.tables e below (T49.setTop (mkF m 91 #[.val (.int p1), .val (.int p2), .val (.int p3), .val (.int p4), .val (.int p5), .val (.ref b1), .val (.int (3 : Int32)), .val (.ref b37_1)] [(.int p3), (.int p2), (.int (1 : Int32)), (.ref b37_1)])) _
    refine XS.iload X49.here hx rfl (hb hby at_91) rfl ?_
    show Steps p.tables e below (T49.setTop (mkF m 93 #[.val (.int p1), .val (.int p2), .val (.int p3), .val (.int p4), .val (.int p5), .val (.ref b1), .val (.int (3 : Int32)), .val (.ref b37_1)] [(.int (3 : Int32)), (.int p3), (.int p2), (.int (1 : Int32)), (.ref b37_1)])) _
    refine XS.iload X49.here hx rfl (hb hby at_93) rfl ?_
    show Steps p.tables e below (T49.setTop (mkF m 95 #[.val (.int p1), .val (.int p2), .val (.int p3), .val (.int p4), .val (.int p5), .val (.ref b1), .val (.int (3 : Int32)), .val (.ref b37_1)] [(.int p5), (.int (3 : Int32)), (.int p3), (.int p2), (.int (1 : Int32)), (.ref b37_1)])) _
    refine st51 _ ?_
    show Steps p.tables e below (T51.setTop (mkF m 98 #[.val (.int p1), .val (.int p2), .val (.int p3), .val (.int p4), .val (.int p5), .val (.ref b1), .val (.int (3 : Int32)), .val (.ref b37_1)] [(.int (1 : Int32))])) _
    refine XS.ifNo X51.here hx rfl (hb hby at_98) rfl ((if0 _ _).trans (feq (by decide : ¬ ((1 : Int32) = (0 : Int32)))).1) ?_
    show Steps p.tables e below (T51.setTop (mkF m 101 #[.val (.int p1), .val (.int p2), .val (.int p3), .val (.int p4), .val (.int p5), .val (.ref b1), .val (.int (3 : Int32)), .val (.ref b37_1)] [])) _
    refine XS.aload X51.here hx rfl (hb hby at_101) rfl rfl ?_
    show Steps p.tables e below (T51.setTop (mkF m 103 #[.val (.int p1), .val (.int p2), .val (.int p3), .val (.int p4), .val (.int p5), .val (.ref b1), .val (.int (3 : Int32)), .val (.ref b37_1)] [(.ref b37_1)])) _
    refine XS.iconst X51.here hx rfl (hb hby at_103) ?_
    show Steps p.tables e below (T51.setTop (mkF m 104 #[.val (.int p1), .val (.int p2), .val (.int p3), .val (.int p4), .val (.int p5), .val (.ref b1), .val (.int (3 : Int32)), .val (.ref b37_1)] [(.int (2 : Int32)), (.ref b37_1)])) _
    refine XS.iloadN X51.here hx rfl (hb hby at_104) rfl ?_
    show Steps p.tables e below (T51.setTop (mkF m 105 #[.val (.int p1), .val (.int p2), .val (.int p3), .val (.int p4), .val (.int p5), .val (.ref b1), .val (.int (3 : Int32)), .val (.ref b37_1)] [(.int p2), (.int (2 : Int32)), (.ref b37_1)])) _
    refine XS.iloadN X51.here hx rfl (hb hby at_105) rfl ?_
    show Steps p.tables e below (T51.setTop (mkF m 106 #[.val (.int p1), .val (.int p2), .val (.int p3), .val (.int p4), .val (.int p5), .val (.ref b1), .val (.int (3 : Int32)), .val (.ref b37_1)] [(.int p3), (.int p2), (.int (2 : Int32)), (.ref b37_1)])) _
    refine XS.iload X51.here hx rfl (hb hby at_106) rfl ?_
    show Steps p.tables e below (T51.setTop (mkF m 108 #[.val (.int p1), .val (.int p2), .val (.int p3), .val (.int p4), .val (.int p5), .val (.ref b1), .val (.int (3 : Int32)), .val (.ref b37_1)] [(.int (3 : Int32)), (.int p3), (.int p2), (.int (2 : Int32)), (.ref b37_1)])) _
    refine XS.iload X51.here hx rfl (hb hby at_108) rfl ?_
    show Steps p.tables e below (T51.setTop (mkF m 110 #[.val (.int p1), .val (.int p2), .val (.int p3), .val (.int p4), .val (.int p5), .val (.ref b1), .val (.int (3 : Int32)), .val (.ref b37_1)] [(.int p5), (.int (3 : Int32)), (.int p3), (.int p2), (.int (2 : Int32)), (.ref b37_1)])) _
    refine st53 _ ?_
    show Steps p.tables e below (T53.setTop (mkF m 113 #[.val (.int p1), .val (.int p2), .val (.int p3), .val (.int p4), .val (.int p5), .val (.ref b1), .val (.int (3 : Int32)), .val (.ref b37_1)] [(.int (1 : Int32))])) _
    refine XS.ifNo X53.here hx rfl (hb hby at_113) rfl ((if0 _ _).trans (feq (by decide : ¬ ((1 : Int32) = (0 : Int32)))).1) ?_
    show Steps p.tables e below (T53.setTop (mkF m 116 #[.val (.int p1), .val (.int p2), .val (.int p3), .val (.int p4), .val (.int p5), .val (.ref b1), .val (.int (3 : Int32)), .val (.ref b37_1)] [])) _
    refine XS.aload X53.here hx rfl (hb hby at_116) rfl rfl ?_
    show Steps p.tables e below (T53.setTop (mkF m 118 #[.val (.int p1), .val (.int p2), .val (.int p3), .val (.int p4), .val (.int p5), .val (.ref b1), .val (.int (3 : Int32)), .val (.ref b37_1)] [(.ref b37_1)])) _
    refine XS.iconst X53.here hx rfl (hb hby at_118) ?_
    show Steps p.tables e below (T53.setTop (mkF m 119 #[.val (.int p1), .val (.int p2), .val (.int p3), .val (.int p4), .val (.int p5), .val (.ref b1), .val (.int (3 : Int32)), .val (.ref b37_1)] [(.int (3 : Int32)), (.ref b37_1)])) _
    refine XS.iloadN X53.here hx rfl (hb hby at_119) rfl ?_
    show Steps p.tables e below (T53.setTop (mkF m 120 #[.val (.int p1), .val (.int p2), .val (.int p3), .val (.int p4), .val (.int p5), .val (.ref b1), .val (.int (3 : Int32)), .val (.ref b37_1)] [(.int p2), (.int (3 : Int32)), (.ref b37_1)])) _
    refine XS.iloadN X53.here hx rfl (hb hby at_120) rfl ?_
    show Steps p.tables e below (T53.setTop (mkF m 121 #[.val (.int p1), .val (.int p2), .val (.int p3), .val (.int p4), .val (.int p5), .val (.ref b1), .val (.int (3 : Int32)), .val (.ref b37_1)] [(.int p3), (.int p2), (.int (3 : Int32)), (.ref b37_1)])) _
    refine XS.iload X53.here hx rfl (hb hby at_121) rfl ?_
    show Steps p.tables e below (T53.setTop (mkF m 123 #[.val (.int p1), .val (.int p2), .val (.int p3), .val (.int p4), .val (.int p5), .val (.ref b1), .val (.int (3 : Int32)), .val (.ref b37_1)] [(.int (3 : Int32)), (.int p3), (.int p2), (.int (3 : Int32)), (.ref b37_1)])) _
    refine XS.iload X53.here hx rfl (hb hby at_123) rfl ?_
    show Steps p.tables e below (T53.setTop (mkF m 125 #[.val (.int p1), .val (.int p2), .val (.int p3), .val (.int p4), .val (.int p5), .val (.ref b1), .val (.int (3 : Int32)), .val (.ref b37_1)] [(.int p5), (.int (3 : Int32)), (.int p3), (.int p2), (.int (3 : Int32)), (.ref b37_1)])) _
    refine st55 _ ?_
    show Steps p.tables e below (T55.setTop (mkF m 128 #[.val (.int p1), .val (.int p2), .val (.int p3), .val (.int p4), .val (.int p5), .val (.ref b1), .val (.int (3 : Int32)), .val (.ref b37_1)] [(.int (1 : Int32))])) _
    refine XS.ifNo X55.here hx rfl (hb hby at_128) rfl ((if0 _ _).trans (feq (by decide : ¬ ((1 : Int32) = (0 : Int32)))).1) ?_
    show Steps p.tables e below (T55.setTop (mkF m 131 #[.val (.int p1), .val (.int p2), .val (.int p3), .val (.int p4), .val (.int p5), .val (.ref b1), .val (.int (3 : Int32)), .val (.ref b37_1)] [])) _
    refine XS.aload X55.here hx rfl (hb hby at_131) rfl rfl ?_
    show Steps p.tables e below (T55.setTop (mkF m 133 #[.val (.int p1), .val (.int p2), .val (.int p3), .val (.int p4), .val (.int p5), .val (.ref b1), .val (.int (3 : Int32)), .val (.ref b37_1)] [(.ref b37_1)])) _
    refine XS.iconst X55.here hx rfl (hb hby at_133) ?_
    show Steps p.tables e below (T55.setTop (mkF m 134 #[.val (.int p1), .val (.int p2), .val (.int p3), .val (.int p4), .val (.int p5), .val (.ref b1), .val (.int (3 : Int32)), .val (.ref b37_1)] [(.int (4 : Int32)), (.ref b37_1)])) _
    refine XS.iloadN X55.here hx rfl (hb hby at_134) rfl ?_
    show Steps p.tables e below (T55.setTop (mkF m 135 #[.val (.int p1), .val (.int p2), .val (.int p3), .val (.int p4), .val (.int p5), .val (.ref b1), .val (.int (3 : Int32)), .val (.ref b37_1)] [(.int p2), (.int (4 : Int32)), (.ref b37_1)])) _
    refine XS.iloadN X55.here hx rfl (hb hby at_135) rfl ?_
    show Steps p.tables e below (T55.setTop (mkF m 136 #[.val (.int p1), .val (.int p2), .val (.int p3), .val (.int p4), .val (.int p5), .val (.ref b1), .val (.int (3 : Int32)), .val (.ref b37_1)] [(.int p3), (.int p2), (.int (4 : Int32)), (.ref b37_1)])) _
    refine XS.iload X55.here hx rfl (hb hby at_136) rfl ?_
    show Steps p.tables e below (T55.setTop (mkF m 138 #[.val (.int p1), .val (.int p2), .val (.int p3), .val (.int p4), .val (.int p5), .val (.ref b1), .val (.int (3 : Int32)), .val (.ref b37_1)] [(.int (3 : Int32)), (.int p3), (.int p2), (.int (4 : Int32)), (.ref b37_1)])) _
    refine XS.iload X55.here hx rfl (hb hby at_138) rfl ?_
    show Steps p.tables e below (T55.setTop (mkF m 140 #[.val (.int p1), .val (.int p2), .val (.int p3), .val (.int p4), .val (.int p5), .val (.ref b1), .val (.int (3 : Int32)), .val (.ref b37_1)] [(.int p5), (.int (3 : Int32)), (.int p3), (.int p2), (.int (4 : Int32)), (.ref b37_1)])) _
    refine st57 _ ?_
    show Steps p.tables e below (T57.setTop (mkF m 143 #[.val (.int p1), .val (.int p2), .val (.int p3), .val (.int p4), .val (.int p5), .val (.ref b1), .val (.int (3 : Int32)), .val (.ref b37_1)] [(.int (1 : Int32))])) _
    refine XS.ifNo X57.here hx rfl (hb hby at_143) rfl ((if0 _ _).trans (feq (by decide : ¬ ((1 : Int32) = (0 : Int32)))).1) ?_
    show Steps p.tables e below (T57.setTop (mkF m 146 #[.val (.int p1), .val (.int p2), .val (.int p3), .val (.int p4), .val (.int p5), .val (.ref b1), .val (.int (3 : Int32)), .val (.ref b37_1)] [])) _
    refine XS.aload X57.here hx rfl (hb hby at_146) rfl rfl ?_
    show Steps p.tables e below (T57.setTop (mkF m 148 #[.val (.int p1), .val (.int p2), .val (.int p3), .val (.int p4), .val (.int p5), .val (.ref b1), .val (.int (3 : Int32)), .val (.ref b37_1)] [(.ref b37_1)])) _
    refine XS.iconst X57.here hx rfl (hb hby at_148) ?_
    show Steps p.tables e below (T57.setTop (mkF m 149 #[.val (.int p1), .val (.int p2), .val (.int p3), .val (.int p4), .val (.int p5), .val (.ref b1), .val (.int (3 : Int32)), .val (.ref b37_1)] [(.int (5 : Int32)), (.ref b37_1)])) _
    refine XS.iloadN X57.here hx rfl (hb hby at_149) rfl ?_
    show Steps p.tables e below (T57.setTop (mkF m 150 #[.val (.int p1), .val (.int p2), .val (.int p3), .val (.int p4), .val (.int p5), .val (.ref b1), .val (.int (3 : Int32)), .val (.ref b37_1)] [(.int p2), (.int (5 : Int32)), (.ref b37_1)])) _
    refine XS.iloadN X57.here hx rfl (hb hby at_150) rfl ?_
    show Steps p.tables e below (T57.setTop (mkF m 151 #[.val (.int p1), .val (.int p2), .val (.int p3), .val (.int p4), .val (.int p5), .val (.ref b1), .val (.int (3 : Int32)), .val (.ref b37_1)] [(.int p3), (.int p2), (.int (5 : Int32)), (.ref b37_1)])) _
    refine XS.iload X57.here hx rfl (hb hby at_151) rfl ?_
    show Steps p.tables e below (T57.setTop (mkF m 153 #[.val (.int p1), .val (.int p2), .val (.int p3), .val (.int p4), .val (.int p5), .val (.ref b1), .val (.int (3 : Int32)), .val (.ref b37_1)] [(.int (3 : Int32)), (.int p3), (.int p2), (.int (5 : Int32)), (.ref b37_1)])) _
    refine XS.iload X57.here hx rfl (hb hby at_153) rfl ?_
    show Steps p.tables e below (T57.setTop (mkF m 155 #[.val (.int p1), .val (.int p2), .val (.int p3), .val (.int p4), .val (.int p5), .val (.ref b1), .val (.int (3 : Int32)), .val (.ref b37_1)] [(.int p5), (.int (3 : Int32)), (.int p3), (.int p2), (.int (5 : Int32)), (.ref b37_1)])) _
    refine st59 _ ?_
    show Steps p.tables e below (T59.setTop (mkF m 158 #[.val (.int p1), .val (.int p2), .val (.int p3), .val (.int p4), .val (.int p5), .val (.ref b1), .val (.int (3 : Int32)), .val (.ref b37_1)] [(.int (1 : Int32))])) _
    refine XS.ifNo X59.here hx rfl (hb hby at_158) rfl ((if0 _ _).trans (feq (by decide : ¬ ((1 : Int32) = (0 : Int32)))).1) ?_
    show Steps p.tables e below (T59.setTop (mkF m 161 #[.val (.int p1), .val (.int p2), .val (.int p3), .val (.int p4), .val (.int p5), .val (.ref b1), .val (.int (3 : Int32)), .val (.ref b37_1)] [])) _
    refine XS.aload X59.here hx rfl (hb hby at_161) rfl rfl ?_
    show Steps p.tables e below (T59.setTop (mkF m 163 #[.val (.int p1), .val (.int p2), .val (.int p3), .val (.int p4), .val (.int p5), .val (.ref b1), .val (.int (3 : Int32)), .val (.ref b37_1)] [(.ref b37_1)])) _
    refine XS.bipush X59.here hx rfl (hb hby at_163) ?_
    show Steps p.tables e below (T59.setTop (mkF m 165 #[.val (.int p1), .val (.int p2), .val (.int p3), .val (.int p4), .val (.int p5), .val (.ref b1), .val (.int (3 : Int32)), .val (.ref b37_1)] [(.int (6 : Int32)), (.ref b37_1)])) _
    refine XS.iloadN X59.here hx rfl (hb hby at_165) rfl ?_
    show Steps p.tables e below (T59.setTop (mkF m 166 #[.val (.int p1), .val (.int p2), .val (.int p3), .val (.int p4), .val (.int p5), .val (.ref b1), .val (.int (3 : Int32)), .val (.ref b37_1)] [(.int p2), (.int (6 : Int32)), (.ref b37_1)])) _
    refine XS.iloadN X59.here hx rfl (hb hby at_166) rfl ?_
    show Steps p.tables e below (T59.setTop (mkF m 167 #[.val (.int p1), .val (.int p2), .val (.int p3), .val (.int p4), .val (.int p5), .val (.ref b1), .val (.int (3 : Int32)), .val (.ref b37_1)] [(.int p3), (.int p2), (.int (6 : Int32)), (.ref b37_1)])) _
    refine XS.iload X59.here hx rfl (hb hby at_167) rfl ?_
    show Steps p.tables e below (T59.setTop (mkF m 169 #[.val (.int p1), .val (.int p2), .val (.int p3), .val (.int p4), .val (.int p5), .val (.ref b1), .val (.int (3 : Int32)), .val (.ref b37_1)] [(.int (3 : Int32)), (.int p3), (.int p2), (.int (6 : Int32)), (.ref b37_1)])) _
    refine XS.iload X59.here hx rfl (hb hby at_169) rfl ?_
    show Steps p.tables e below (T59.setTop (mkF m 171 #[.val (.int p1), .val (.int p2), .val (.int p3), .val (.int p4), .val (.int p5), .val (.ref b1), .val (.int (3 : Int32)), .val (.ref b37_1)] [(.int p5), (.int (3 : Int32)), (.int p3), (.int p2), (.int (6 : Int32)), (.ref b37_1)])) _
    refine st61 _ ?_
    show Steps p.tables e below (T61.setTop (mkF m 174 #[.val (.int p1), .val (.int p2), .val (.int p3), .val (.int p4), .val (.int p5), .val (.ref b1), .val (.int (3 : Int32)), .val (.ref b37_1)] [(.int (1 : Int32))])) _
    refine XS.ifNo X61.here hx rfl (hb hby at_174) rfl ((if0 _ _).trans (feq (by decide : ¬ ((1 : Int32) = (0 : Int32)))).1) ?_
    show Steps p.tables e below (T61.setTop (mkF m 177 #[.val (.int p1), .val (.int p2), .val (.int p3), .val (.int p4), .val (.int p5), .val (.ref b1), .val (.int (3 : Int32)), .val (.ref b37_1)] [])) _
    refine XS.aload X61.here hx rfl (hb hby at_177) rfl rfl ?_
    show Steps p.tables e below (T61.setTop (mkF m 179 #[.val (.int p1), .val (.int p2), .val (.int p3), .val (.int p4), .val (.int p5), .val (.ref b1), .val (.int (3 : Int32)), .val (.ref b37_1)] [(.ref b37_1)])) _
    refine XS.bipush X61.here hx rfl (hb hby at_179) ?_
    show Steps p.tables e below (T61.setTop (mkF m 181 #[.val (.int p1), .val (.int p2), .val (.int p3), .val (.int p4), .val (.int p5), .val (.ref b1), .val (.int (3 : Int32)), .val (.ref b37_1)] [(.int (7 : Int32)), (.ref b37_1)])) _
    refine XS.iloadN X61.here hx rfl (hb hby at_181) rfl ?_
    show Steps p.tables e below (T61.setTop (mkF m 182 #[.val (.int p1), .val (.int p2), .val (.int p3), .val (.int p4), .val (.int p5), .val (.ref b1), .val (.int (3 : Int32)), .val (.ref b37_1)] [(.int p2), (.int (7 : Int32)), (.ref b37_1)])) _
    refine XS.iloadN X61.here hx rfl (hb hby at_182) rfl ?_
    show Steps p.tables e below (T61.setTop (mkF m 183 #[.val (.int p1), .val (.int p2), .val (.int p3), .val (.int p4), .val (.int p5), .val (.ref b1), .val (.int (3 : Int32)), .val (.ref b37_1)] [(.int p3), (.int p2), (.int (7 : Int32)), (.ref b37_1)])) _
    refine XS.iload X61.here hx rfl (hb hby at_183) rfl ?_
    show Steps p.tables e below (T61.setTop (mkF m 185 #[.val (.int p1), .val (.int p2), .val (.int p3), .val (.int p4), .val (.int p5), .val (.ref b1), .val (.int (3 : Int32)), .val (.ref b37_1)] [(.int (3 : Int32)), (.int p3), (.int p2), (.int (7 : Int32)), (.ref b37_1)])) _
    refine XS.iload X61.here hx rfl (hb hby at_185) rfl ?_
    show Steps p.tables e below (T61.setTop (mkF m 187 #[.val (.int p1), .val (.int p2), .val (.int p3), .val (.int p4), .val (.int p5), .val (.ref b1), .val (.int (3 : Int32)), .val (.ref b37_1)] [(.int p5), (.int (3 : Int32)), (.int p3), (.int p2), (.int (7 : Int32)), (.ref b37_1)])) _
    refine st63 _ ?_
    show Steps p.tables e below (T63.setTop (mkF m 190 #[.val (.int p1), .val (.int p2), .val (.int p3), .val (.int p4), .val (.int p5), .val (.ref b1), .val (.int (3 : Int32)), .val (.ref b37_1)] [(.int (1 : Int32))])) _
    refine XS.ifNo X63.here hx rfl (hb hby at_190) rfl ((if0 _ _).trans (feq (by decide : ¬ ((1 : Int32) = (0 : Int32)))).1) ?_
    show Steps p.tables e below (T63.setTop (mkF m 193 #[.val (.int p1), .val (.int p2), .val (.int p3), .val (.int p4), .val (.int p5), .val (.ref b1), .val (.int (3 : Int32)), .val (.ref b37_1)] [])) _
    refine XS.iconst X63.here hx rfl (hb hby at_193) ?_
    show Steps p.tables e below (T63.setTop (mkF m 194 #[.val (.int p1), .val (.int p2), .val (.int p3), .val (.int p4), .val (.int p5), .val (.ref b1), .val (.int (3 : Int32)), .val (.ref b37_1)] [(.int (1 : Int32))])) _
    refine XS.goto X63.here hx rfl (pc0 := 194) (pc' := 198) rfl (hb hby at_194) (by decide) (by decide) ?_
    show Steps p.tables e below (T63.setTop (mkF m 198 #[.val (.int p1), .val (.int p2), .val (.int p3), .val (.int p4), .val (.int p5), .val (.ref b1), .val (.int (3 : Int32)), .val (.ref b37_1)] [(.int (1 : Int32))])) _
    exact retN X63 hx (t := .boolean) Bd.returns (by simp) (hb hby at_198) hr
  · show Q_law Z p1 p2 p3 p4 p5 h0 n0 _ T63.heap _
    rw [e63]
    exact ⟨rfl, N64⟩
def Road_at4 (p1 : Int32) (p2 : Int32) (p3 : Int32) (p4 : Int32) (p5 : Int32) : Prop := (¬ ((p1 &&& (15 : Int32)) < (0 : Int32))) ∧ ((p1 &&& (15 : Int32)).toNatClampNeg ≤ 15) ∧ (own_B (0 : Int32) (p1 &&& (15 : Int32)) (List.replicate 16 (Value.int (0 : Int32)))) ∧ (((p4 &&& (2147483647 : Int32)) % (5 : Int32)) = (4 : Int32)) ∧ (((own_at (((((((((((((List.replicate 16 (Value.int (0 : Int32))).set (0 : Int32).toNatClampNeg (.int ((((p2.toUInt32 >>> ((24 : Int32) &&& 31).toUInt32).toInt32).toInt8.toInt32).toInt8.toInt32))).set (1 : Int32).toNatClampNeg (.int ((((p2.toUInt32 >>> ((16 : Int32) &&& 31).toUInt32).toInt32).toInt8.toInt32).toInt8.toInt32))).set (2 : Int32).toNatClampNeg (.int ((((p2.toUInt32 >>> ((8 : Int32) &&& 31).toUInt32).toInt32).toInt8.toInt32).toInt8.toInt32))).set (3 : Int32).toNatClampNeg (.int ((p2.toInt8.toInt32).toInt8.toInt32))).set (4 : Int32).toNatClampNeg (.int ((((p3.toUInt32 >>> ((24 : Int32) &&& 31).toUInt32).toInt32).toInt8.toInt32).toInt8.toInt32))).set (5 : Int32).toNatClampNeg (.int ((((p3.toUInt32 >>> ((16 : Int32) &&& 31).toUInt32).toInt32).toInt8.toInt32).toInt8.toInt32))).set (6 : Int32).toNatClampNeg (.int ((((p3.toUInt32 >>> ((8 : Int32) &&& 31).toUInt32).toInt32).toInt8.toInt32).toInt8.toInt32))).set (7 : Int32).toNatClampNeg (.int ((p3.toInt8.toInt32).toInt8.toInt32))).set (4 : Int32).toNatClampNeg (.int ((((p5.toUInt32 >>> ((24 : Int32) &&& 31).toUInt32).toInt32).toInt8.toInt32).toInt8.toInt32))).set (5 : Int32).toNatClampNeg (.int ((((p5.toUInt32 >>> ((16 : Int32) &&& 31).toUInt32).toInt32).toInt8.toInt32).toInt8.toInt32))).set (6 : Int32).toNatClampNeg (.int ((((p5.toUInt32 >>> ((8 : Int32) &&& 31).toUInt32).toInt32).toInt8.toInt32).toInt8.toInt32))).set (7 : Int32).toNatClampNeg (.int ((p5.toInt8.toInt32).toInt8.toInt32))) ((0 : Int32)).toNatClampNeg (.int (0 : Int32))) &&& (255 : Int32)) = (f_orig (0 : Int32) p2 p3)) ∧ (((own_at (((((((((((((List.replicate 16 (Value.int (0 : Int32))).set (0 : Int32).toNatClampNeg (.int ((((p2.toUInt32 >>> ((24 : Int32) &&& 31).toUInt32).toInt32).toInt8.toInt32).toInt8.toInt32))).set (1 : Int32).toNatClampNeg (.int ((((p2.toUInt32 >>> ((16 : Int32) &&& 31).toUInt32).toInt32).toInt8.toInt32).toInt8.toInt32))).set (2 : Int32).toNatClampNeg (.int ((((p2.toUInt32 >>> ((8 : Int32) &&& 31).toUInt32).toInt32).toInt8.toInt32).toInt8.toInt32))).set (3 : Int32).toNatClampNeg (.int ((p2.toInt8.toInt32).toInt8.toInt32))).set (4 : Int32).toNatClampNeg (.int ((((p3.toUInt32 >>> ((24 : Int32) &&& 31).toUInt32).toInt32).toInt8.toInt32).toInt8.toInt32))).set (5 : Int32).toNatClampNeg (.int ((((p3.toUInt32 >>> ((16 : Int32) &&& 31).toUInt32).toInt32).toInt8.toInt32).toInt8.toInt32))).set (6 : Int32).toNatClampNeg (.int ((((p3.toUInt32 >>> ((8 : Int32) &&& 31).toUInt32).toInt32).toInt8.toInt32).toInt8.toInt32))).set (7 : Int32).toNatClampNeg (.int ((p3.toInt8.toInt32).toInt8.toInt32))).set (4 : Int32).toNatClampNeg (.int ((((p5.toUInt32 >>> ((24 : Int32) &&& 31).toUInt32).toInt32).toInt8.toInt32).toInt8.toInt32))).set (5 : Int32).toNatClampNeg (.int ((((p5.toUInt32 >>> ((16 : Int32) &&& 31).toUInt32).toInt32).toInt8.toInt32).toInt8.toInt32))).set (6 : Int32).toNatClampNeg (.int ((((p5.toUInt32 >>> ((8 : Int32) &&& 31).toUInt32).toInt32).toInt8.toInt32).toInt8.toInt32))).set (7 : Int32).toNatClampNeg (.int ((p5.toInt8.toInt32).toInt8.toInt32))) ((1 : Int32)).toNatClampNeg (.int (0 : Int32))) &&& (255 : Int32)) = (f_orig (1 : Int32) p2 p3)) ∧ (((own_at (((((((((((((List.replicate 16 (Value.int (0 : Int32))).set (0 : Int32).toNatClampNeg (.int ((((p2.toUInt32 >>> ((24 : Int32) &&& 31).toUInt32).toInt32).toInt8.toInt32).toInt8.toInt32))).set (1 : Int32).toNatClampNeg (.int ((((p2.toUInt32 >>> ((16 : Int32) &&& 31).toUInt32).toInt32).toInt8.toInt32).toInt8.toInt32))).set (2 : Int32).toNatClampNeg (.int ((((p2.toUInt32 >>> ((8 : Int32) &&& 31).toUInt32).toInt32).toInt8.toInt32).toInt8.toInt32))).set (3 : Int32).toNatClampNeg (.int ((p2.toInt8.toInt32).toInt8.toInt32))).set (4 : Int32).toNatClampNeg (.int ((((p3.toUInt32 >>> ((24 : Int32) &&& 31).toUInt32).toInt32).toInt8.toInt32).toInt8.toInt32))).set (5 : Int32).toNatClampNeg (.int ((((p3.toUInt32 >>> ((16 : Int32) &&& 31).toUInt32).toInt32).toInt8.toInt32).toInt8.toInt32))).set (6 : Int32).toNatClampNeg (.int ((((p3.toUInt32 >>> ((8 : Int32) &&& 31).toUInt32).toInt32).toInt8.toInt32).toInt8.toInt32))).set (7 : Int32).toNatClampNeg (.int ((p3.toInt8.toInt32).toInt8.toInt32))).set (4 : Int32).toNatClampNeg (.int ((((p5.toUInt32 >>> ((24 : Int32) &&& 31).toUInt32).toInt32).toInt8.toInt32).toInt8.toInt32))).set (5 : Int32).toNatClampNeg (.int ((((p5.toUInt32 >>> ((16 : Int32) &&& 31).toUInt32).toInt32).toInt8.toInt32).toInt8.toInt32))).set (6 : Int32).toNatClampNeg (.int ((((p5.toUInt32 >>> ((8 : Int32) &&& 31).toUInt32).toInt32).toInt8.toInt32).toInt8.toInt32))).set (7 : Int32).toNatClampNeg (.int ((p5.toInt8.toInt32).toInt8.toInt32))) ((2 : Int32)).toNatClampNeg (.int (0 : Int32))) &&& (255 : Int32)) = (f_orig (2 : Int32) p2 p3)) ∧ (((own_at (((((((((((((List.replicate 16 (Value.int (0 : Int32))).set (0 : Int32).toNatClampNeg (.int ((((p2.toUInt32 >>> ((24 : Int32) &&& 31).toUInt32).toInt32).toInt8.toInt32).toInt8.toInt32))).set (1 : Int32).toNatClampNeg (.int ((((p2.toUInt32 >>> ((16 : Int32) &&& 31).toUInt32).toInt32).toInt8.toInt32).toInt8.toInt32))).set (2 : Int32).toNatClampNeg (.int ((((p2.toUInt32 >>> ((8 : Int32) &&& 31).toUInt32).toInt32).toInt8.toInt32).toInt8.toInt32))).set (3 : Int32).toNatClampNeg (.int ((p2.toInt8.toInt32).toInt8.toInt32))).set (4 : Int32).toNatClampNeg (.int ((((p3.toUInt32 >>> ((24 : Int32) &&& 31).toUInt32).toInt32).toInt8.toInt32).toInt8.toInt32))).set (5 : Int32).toNatClampNeg (.int ((((p3.toUInt32 >>> ((16 : Int32) &&& 31).toUInt32).toInt32).toInt8.toInt32).toInt8.toInt32))).set (6 : Int32).toNatClampNeg (.int ((((p3.toUInt32 >>> ((8 : Int32) &&& 31).toUInt32).toInt32).toInt8.toInt32).toInt8.toInt32))).set (7 : Int32).toNatClampNeg (.int ((p3.toInt8.toInt32).toInt8.toInt32))).set (4 : Int32).toNatClampNeg (.int ((((p5.toUInt32 >>> ((24 : Int32) &&& 31).toUInt32).toInt32).toInt8.toInt32).toInt8.toInt32))).set (5 : Int32).toNatClampNeg (.int ((((p5.toUInt32 >>> ((16 : Int32) &&& 31).toUInt32).toInt32).toInt8.toInt32).toInt8.toInt32))).set (6 : Int32).toNatClampNeg (.int ((((p5.toUInt32 >>> ((8 : Int32) &&& 31).toUInt32).toInt32).toInt8.toInt32).toInt8.toInt32))).set (7 : Int32).toNatClampNeg (.int ((p5.toInt8.toInt32).toInt8.toInt32))) ((3 : Int32)).toNatClampNeg (.int (0 : Int32))) &&& (255 : Int32)) = (f_orig (3 : Int32) p2 p3)) ∧ (((own_at (((((((((((((List.replicate 16 (Value.int (0 : Int32))).set (0 : Int32).toNatClampNeg (.int ((((p2.toUInt32 >>> ((24 : Int32) &&& 31).toUInt32).toInt32).toInt8.toInt32).toInt8.toInt32))).set (1 : Int32).toNatClampNeg (.int ((((p2.toUInt32 >>> ((16 : Int32) &&& 31).toUInt32).toInt32).toInt8.toInt32).toInt8.toInt32))).set (2 : Int32).toNatClampNeg (.int ((((p2.toUInt32 >>> ((8 : Int32) &&& 31).toUInt32).toInt32).toInt8.toInt32).toInt8.toInt32))).set (3 : Int32).toNatClampNeg (.int ((p2.toInt8.toInt32).toInt8.toInt32))).set (4 : Int32).toNatClampNeg (.int ((((p3.toUInt32 >>> ((24 : Int32) &&& 31).toUInt32).toInt32).toInt8.toInt32).toInt8.toInt32))).set (5 : Int32).toNatClampNeg (.int ((((p3.toUInt32 >>> ((16 : Int32) &&& 31).toUInt32).toInt32).toInt8.toInt32).toInt8.toInt32))).set (6 : Int32).toNatClampNeg (.int ((((p3.toUInt32 >>> ((8 : Int32) &&& 31).toUInt32).toInt32).toInt8.toInt32).toInt8.toInt32))).set (7 : Int32).toNatClampNeg (.int ((p3.toInt8.toInt32).toInt8.toInt32))).set (4 : Int32).toNatClampNeg (.int ((((p5.toUInt32 >>> ((24 : Int32) &&& 31).toUInt32).toInt32).toInt8.toInt32).toInt8.toInt32))).set (5 : Int32).toNatClampNeg (.int ((((p5.toUInt32 >>> ((16 : Int32) &&& 31).toUInt32).toInt32).toInt8.toInt32).toInt8.toInt32))).set (6 : Int32).toNatClampNeg (.int ((((p5.toUInt32 >>> ((8 : Int32) &&& 31).toUInt32).toInt32).toInt8.toInt32).toInt8.toInt32))).set (7 : Int32).toNatClampNeg (.int ((p5.toInt8.toInt32).toInt8.toInt32))) ((4 : Int32)).toNatClampNeg (.int (0 : Int32))) &&& (255 : Int32)) = ((p5 >>> ((24 : Int32) &&& 31)) &&& (255 : Int32))) ∧ (((own_at (((((((((((((List.replicate 16 (Value.int (0 : Int32))).set (0 : Int32).toNatClampNeg (.int ((((p2.toUInt32 >>> ((24 : Int32) &&& 31).toUInt32).toInt32).toInt8.toInt32).toInt8.toInt32))).set (1 : Int32).toNatClampNeg (.int ((((p2.toUInt32 >>> ((16 : Int32) &&& 31).toUInt32).toInt32).toInt8.toInt32).toInt8.toInt32))).set (2 : Int32).toNatClampNeg (.int ((((p2.toUInt32 >>> ((8 : Int32) &&& 31).toUInt32).toInt32).toInt8.toInt32).toInt8.toInt32))).set (3 : Int32).toNatClampNeg (.int ((p2.toInt8.toInt32).toInt8.toInt32))).set (4 : Int32).toNatClampNeg (.int ((((p3.toUInt32 >>> ((24 : Int32) &&& 31).toUInt32).toInt32).toInt8.toInt32).toInt8.toInt32))).set (5 : Int32).toNatClampNeg (.int ((((p3.toUInt32 >>> ((16 : Int32) &&& 31).toUInt32).toInt32).toInt8.toInt32).toInt8.toInt32))).set (6 : Int32).toNatClampNeg (.int ((((p3.toUInt32 >>> ((8 : Int32) &&& 31).toUInt32).toInt32).toInt8.toInt32).toInt8.toInt32))).set (7 : Int32).toNatClampNeg (.int ((p3.toInt8.toInt32).toInt8.toInt32))).set (4 : Int32).toNatClampNeg (.int ((((p5.toUInt32 >>> ((24 : Int32) &&& 31).toUInt32).toInt32).toInt8.toInt32).toInt8.toInt32))).set (5 : Int32).toNatClampNeg (.int ((((p5.toUInt32 >>> ((16 : Int32) &&& 31).toUInt32).toInt32).toInt8.toInt32).toInt8.toInt32))).set (6 : Int32).toNatClampNeg (.int ((((p5.toUInt32 >>> ((8 : Int32) &&& 31).toUInt32).toInt32).toInt8.toInt32).toInt8.toInt32))).set (7 : Int32).toNatClampNeg (.int ((p5.toInt8.toInt32).toInt8.toInt32))) ((5 : Int32)).toNatClampNeg (.int (0 : Int32))) &&& (255 : Int32)) = ((p5 >>> ((16 : Int32) &&& 31)) &&& (255 : Int32))) ∧ (((own_at (((((((((((((List.replicate 16 (Value.int (0 : Int32))).set (0 : Int32).toNatClampNeg (.int ((((p2.toUInt32 >>> ((24 : Int32) &&& 31).toUInt32).toInt32).toInt8.toInt32).toInt8.toInt32))).set (1 : Int32).toNatClampNeg (.int ((((p2.toUInt32 >>> ((16 : Int32) &&& 31).toUInt32).toInt32).toInt8.toInt32).toInt8.toInt32))).set (2 : Int32).toNatClampNeg (.int ((((p2.toUInt32 >>> ((8 : Int32) &&& 31).toUInt32).toInt32).toInt8.toInt32).toInt8.toInt32))).set (3 : Int32).toNatClampNeg (.int ((p2.toInt8.toInt32).toInt8.toInt32))).set (4 : Int32).toNatClampNeg (.int ((((p3.toUInt32 >>> ((24 : Int32) &&& 31).toUInt32).toInt32).toInt8.toInt32).toInt8.toInt32))).set (5 : Int32).toNatClampNeg (.int ((((p3.toUInt32 >>> ((16 : Int32) &&& 31).toUInt32).toInt32).toInt8.toInt32).toInt8.toInt32))).set (6 : Int32).toNatClampNeg (.int ((((p3.toUInt32 >>> ((8 : Int32) &&& 31).toUInt32).toInt32).toInt8.toInt32).toInt8.toInt32))).set (7 : Int32).toNatClampNeg (.int ((p3.toInt8.toInt32).toInt8.toInt32))).set (4 : Int32).toNatClampNeg (.int ((((p5.toUInt32 >>> ((24 : Int32) &&& 31).toUInt32).toInt32).toInt8.toInt32).toInt8.toInt32))).set (5 : Int32).toNatClampNeg (.int ((((p5.toUInt32 >>> ((16 : Int32) &&& 31).toUInt32).toInt32).toInt8.toInt32).toInt8.toInt32))).set (6 : Int32).toNatClampNeg (.int ((((p5.toUInt32 >>> ((8 : Int32) &&& 31).toUInt32).toInt32).toInt8.toInt32).toInt8.toInt32))).set (7 : Int32).toNatClampNeg (.int ((p5.toInt8.toInt32).toInt8.toInt32))) ((6 : Int32)).toNatClampNeg (.int (0 : Int32))) &&& (255 : Int32)) = ((p5 >>> ((8 : Int32) &&& 31)) &&& (255 : Int32))) ∧ (((own_at (((((((((((((List.replicate 16 (Value.int (0 : Int32))).set (0 : Int32).toNatClampNeg (.int ((((p2.toUInt32 >>> ((24 : Int32) &&& 31).toUInt32).toInt32).toInt8.toInt32).toInt8.toInt32))).set (1 : Int32).toNatClampNeg (.int ((((p2.toUInt32 >>> ((16 : Int32) &&& 31).toUInt32).toInt32).toInt8.toInt32).toInt8.toInt32))).set (2 : Int32).toNatClampNeg (.int ((((p2.toUInt32 >>> ((8 : Int32) &&& 31).toUInt32).toInt32).toInt8.toInt32).toInt8.toInt32))).set (3 : Int32).toNatClampNeg (.int ((p2.toInt8.toInt32).toInt8.toInt32))).set (4 : Int32).toNatClampNeg (.int ((((p3.toUInt32 >>> ((24 : Int32) &&& 31).toUInt32).toInt32).toInt8.toInt32).toInt8.toInt32))).set (5 : Int32).toNatClampNeg (.int ((((p3.toUInt32 >>> ((16 : Int32) &&& 31).toUInt32).toInt32).toInt8.toInt32).toInt8.toInt32))).set (6 : Int32).toNatClampNeg (.int ((((p3.toUInt32 >>> ((8 : Int32) &&& 31).toUInt32).toInt32).toInt8.toInt32).toInt8.toInt32))).set (7 : Int32).toNatClampNeg (.int ((p3.toInt8.toInt32).toInt8.toInt32))).set (4 : Int32).toNatClampNeg (.int ((((p5.toUInt32 >>> ((24 : Int32) &&& 31).toUInt32).toInt32).toInt8.toInt32).toInt8.toInt32))).set (5 : Int32).toNatClampNeg (.int ((((p5.toUInt32 >>> ((16 : Int32) &&& 31).toUInt32).toInt32).toInt8.toInt32).toInt8.toInt32))).set (6 : Int32).toNatClampNeg (.int ((((p5.toUInt32 >>> ((8 : Int32) &&& 31).toUInt32).toInt32).toInt8.toInt32).toInt8.toInt32))).set (7 : Int32).toNatClampNeg (.int ((p5.toInt8.toInt32).toInt8.toInt32))) ((7 : Int32)).toNatClampNeg (.int (0 : Int32))) &&& (255 : Int32)) = ((p5 >>> ((0 : Int32) &&& 31)) &&& (255 : Int32)))
set_option maxRecDepth 65536 in
set_option maxHeartbeats 40000000 in
theorem rm_law_at4 (l : Launch) (Z : State) (a0 : Array Value) (hw : ∀ d ∈ tables_1, d.before a0 Z = true) (ws : List Jvm.Cond) (p1 : Int32) (p2 : Int32) (p3 : Int32) (p4 : Int32) (p5 : Int32) (h0 : Heap) (n0 : Nat) (Z0 : n0 ≤ h0.size) (hroad : Road_at4 p1 p2 p3 p4 p5) :
    MetFree l x (head1 (Jvm.Cond.code x code maxLocals ret :: ws) room_1) (fun a U => a = #[(.int p1), (.int p2), (.int p3), (.int p4), (.int p5)] ∧ Z.Warmed39 U.vm ∧ U.heap = h0) (fun _ _ _ _ _ => True) (fun _ U o U' => ∃ v L, o = .returned v ∧ Q_law Z p1 p2 p3 p4 p5 h0 n0 v U'.heap L ∧ FrameEnd U o U' L room_1.cells room_1.slots) := by
  obtain ⟨hp0, hp1, hp2, hw_5, hp7, hp8, hp9, hp10, hp11, hp12, hp13, hp14⟩ := hroad
  refine MetFree.of_bodySF (plainFor_of_name pn_com_example_herald_herald_bytecode_BytesPutU4PinLaw) hisR ?_
  intro p e s m args below meth c s₁ Bd hml0 hP hK
  obtain ⟨rfl, hZ, hh⟩ := hP
  have hx := Bd.exec
  have hby := Bd.bytes
  have hml : c.maxLocals = 8 := hml0
  have hown : s.vm.findClass "com/example/herald/herald/bytecode/BytesPutU4PinLaw" = some m.cls := findClass_of_methodNamed Bd.named
  have hnm := (name_of_methodNamed Bd.named Bd.method).1
  have X0 : Stand p l e room_1 s m #[(.int p1), (.int p2), (.int p3), (.int p4), (.int p5)] below meth c s₁ [] 0 0 := Stand.of_body Bd
  have e0 : s₁.heap = h0 := by rw [← hh, Bd.state]; rfl
  have N0 := Fr.nil n0
  have pre0 : ∀ t, Steps p.tables e below (s₁.setTop (mkF m 0 #[.val (.int p1), .val (.int p2), .val (.int p3), .val (.int p4), .val (.int p5), .unset, .unset, .unset] [])) t → Steps p.tables e below (s₁.setTop (entryFrame m #[(.int p1), (.int p2), (.int p3), (.int p4), (.int p5)] maxLocals)) t := fun t k => castTop (ef_0_IIIII m p1 p2 p3 p4 p5) k
  obtain ⟨T1, h1, X1, e1, E1, A1, D1, -, st1⟩ := newO X0 hx hZ hown (hw _ (List.mem_of_getElem? (i := 0) rfl)) (hw _ (List.mem_of_getElem? (i := 1) rfl)) (hw _ (List.mem_of_getElem? (i := 2) rfl)) e0 (g := (mkF m 0 #[.val (.int p1), .val (.int p2), .val (.int p3), .val (.int p4), .val (.int p5), .unset, .unset, .unset] [])) rfl (hb hby at_0) (by decide) (by decide)
  obtain ⟨b1, g1⟩ : ∃ z, z = h0.size := ⟨_, rfl⟩
  rw [← g1] at A1 D1 st1
  have g_b1 : n0 ≤ b1 := Nat.le_trans Z0 (Nat.le_of_eq g1.symm)
  have Zs2 : n0 ≤ h1.size := Nat.le_trans Z0 E1.1
  have f3 : Fld Z h1 b1 "com/example/herald/herald/bytecode/Bytes" "bytes" "[B" .null := D1 (Or.inl (hw _ (List.mem_of_getElem? (i := 11) rfl))) (ty := (.array .byte)) (by decide)
  have f4 : Fld Z h1 b1 "com/example/herald/herald/bytecode/Bytes" "length" "I" (.int (0 : Int32)) := D1 (Or.inl (hw _ (List.mem_of_getElem? (i := 22) rfl))) (ty := .int) (by decide)
  obtain ⟨_, _, ⟨T5, L5, k5, n5⟩, -, X5, ⟨Lc5, hQ5, l5, y5, z5⟩, st5⟩ := X1.specialBack hx (y := (⟨"com/example/herald/herald/bytecode/Bytes", "<init>", "(I)V"⟩ : MethodName)) rfl hown (mvT hZ (hw _ (List.mem_of_getElem? (i := 3) rfl))) (mvT hZ (hw _ (List.mem_of_getElem? (i := 4) rfl))) (mvT hZ (hw _ (List.mem_of_getElem? (i := 5) rfl))) (by decide) (backOf (W := 1) (rm_init l Z a0 hw [] b1 (p1 &&& (15 : Int32)) h1 n0 Zs2 A1 f3 g_b1 f4 hp0 hp1) hZ (hw _ (List.mem_of_getElem? (i := 5) rfl)) (hw _ (List.mem_of_getElem? (i := 2) rfl)) (by decide) (by decide)) (g := (mkF m 8 #[.val (.int p1), .val (.int p2), .val (.int p3), .val (.int p4), .val (.int p5), .unset, .unset, .unset] [(.int (p1 &&& (15 : Int32))), (.ref b1), (.ref b1)])) rfl (by rw [hml]; rfl) (Steps.refl _) (a := b1) (argsL := [(.int (p1 &&& (15 : Int32)))]) (rest := [(.ref b1)]) (lenOf pd_2 rfl) rfl (by show 2 * 0 + _ ≤ _; exact Nat.le_of_eq rfl) (hb hby at_8) (fun _ _ => ⟨rfl, e1, (by decide : 1 + 1 ≤ _), (by decide : 2 + 15 ≤ _)⟩)
  dsimp only [Pt.U, Pt.locs, Pt.cells, Pt.slots] at X5 l5 y5 z5 st5 hQ5
  subst l5 y5 z5
  obtain ⟨b5_1, k5_2, rfl, Nq5, g_b5_1, szq_b5_1, Kc5, fq5_0, fq5_1, fq5_2, fq5_3, fq5_4⟩ := hQ5
  have ne_b1_b5_1 : b1 ≠ b5_1 := Nat.ne_of_lt (Nat.lt_of_lt_of_le A1.lt szq_b5_1)
  have f7 : Fld Z T5.heap b1 "com/example/herald/herald/bytecode/Bytes" "bytes" "[B" (.ref b5_1) := fq5_1
  have f8 : Fld Z T5.heap b1 "com/example/herald/herald/bytecode/Bytes" "length" "I" (.int (0 : Int32)) := fq5_2
  have f9 : Arv Z T5.heap b5_1 k5_2 .byte (p1 &&& (15 : Int32)) (List.replicate 16 (Value.int (0 : Int32))) (.int (0 : Int32)) := fq5_4
  have Zs10 : n0 ≤ T5.heap.size := Nat.le_trans Zs2 Kc5.1
  have N6 := Fr.app N0 Nq5
  obtain ⟨cq11, kq11, q11a, q11b, q11c⟩ := isOf hZ rfl fq5_0
  obtain ⟨_, _, ⟨T11, L11, k11, n11⟩, -, X11, ⟨Lc11, hQ11, l11, y11, z11⟩, st11⟩ := X5.virtualBack hx (y := (⟨"com/example/herald/herald/bytecode/Bytes", "u4", "(I)V"⟩ : MethodName)) (z := (⟨"com/example/herald/herald/bytecode/Bytes", "u4", "(I)V"⟩ : MethodName)) hown (mvT hZ (hw _ (List.mem_of_getElem? (i := 12) rfl))) (mvT hZ (hw _ (List.mem_of_getElem? (i := 13) rfl))) (notFace_of_selects (args := #[]) (mvT hZ (hw _ (List.mem_of_getElem? (i := 15) rfl)))) (mvT hZ (hw _ (List.mem_of_getElem? (i := 15) rfl))) (mvT hZ (hw _ (List.mem_of_getElem? (i := 14) rfl))) (by decide) (backOf (W := 0) (rm_u4 l Z a0 hw [] b1 p2 b5_1 k5_2 (p1 &&& (15 : Int32)) (List.replicate 16 (Value.int (0 : Int32))) (0 : Int32) T5.heap n0 Zs10 f7 fq5_3 f9 f8 fq5_0 g_b1 g_b5_1 hp2 (by decide)) hZ (hw _ (List.mem_of_getElem? (i := 16) rfl)) (hw _ (List.mem_of_getElem? (i := 2) rfl)) (by decide) (by decide)) q11a q11c (g := (mkF m 16 #[.val (.int p1), .val (.int p2), .val (.int p3), .val (.int p4), .val (.int p5), .val (.ref b1), .unset, .unset] [(.int p2), (.ref b1)])) rfl (by rw [hml]; rfl) (Steps.refl _) (argsL := [(.int p2)]) (rest := []) (lenOf pd_2 rfl) rfl (by show 2 * 0 + _ ≤ _; exact Nat.le_of_eq rfl) (hb hby at_16) (fun _ _ => ⟨rfl, rfl, (by decide : 2 + 1 ≤ _), (by decide : 17 + 14 ≤ _)⟩)
  dsimp only [Pt.U, Pt.locs, Pt.cells, Pt.slots] at X11 l11 y11 z11 st11 hQ11
  subst l11 y11 z11
  obtain ⟨b11_1, k11_2, i11_3, rfl, Nq11, g_b11_1, hq11_0, Kc11, fq11_0, fq11_1, fq11_2, fq11_3, fq11_4⟩ := hQ11
  have f13 : Exa Z T11.heap b5_1 "[B" := fq5_3.keep Kc11
  have f14 : Fld Z T11.heap b1 "com/example/herald/herald/bytecode/Bytes" "bytes" "[B" (.ref b11_1) := fq11_1
  have f15 : Fld Z T11.heap b1 "com/example/herald/herald/bytecode/Bytes" "length" "I" (.int (4 : Int32)) := fq11_2
  have f16 : Arv Z T11.heap b11_1 k11_2 .byte i11_3 (((((List.replicate 16 (Value.int (0 : Int32))).set (0 : Int32).toNatClampNeg (.int ((((p2.toUInt32 >>> ((24 : Int32) &&& 31).toUInt32).toInt32).toInt8.toInt32).toInt8.toInt32))).set (1 : Int32).toNatClampNeg (.int ((((p2.toUInt32 >>> ((16 : Int32) &&& 31).toUInt32).toInt32).toInt8.toInt32).toInt8.toInt32))).set (2 : Int32).toNatClampNeg (.int ((((p2.toUInt32 >>> ((8 : Int32) &&& 31).toUInt32).toInt32).toInt8.toInt32).toInt8.toInt32))).set (3 : Int32).toNatClampNeg (.int ((p2.toInt8.toInt32).toInt8.toInt32))) (.int (0 : Int32)) := fq11_4
  have Zs17 : n0 ≤ T11.heap.size := Nat.le_trans Zs10 Kc11.1
  have N12 := Fr.app N6 Nq11
  obtain ⟨cq18, kq18, q18a, q18b, q18c⟩ := isOf hZ rfl fq11_0
  obtain ⟨_, _, ⟨T18, L18, k18, n18⟩, -, X18, ⟨Lc18, hQ18, l18, y18, z18⟩, st18⟩ := X11.virtualBack hx (y := (⟨"com/example/herald/herald/bytecode/Bytes", "u4", "(I)V"⟩ : MethodName)) (z := (⟨"com/example/herald/herald/bytecode/Bytes", "u4", "(I)V"⟩ : MethodName)) hown (mvT hZ (hw _ (List.mem_of_getElem? (i := 12) rfl))) (mvT hZ (hw _ (List.mem_of_getElem? (i := 13) rfl))) (notFace_of_selects (args := #[]) (mvT hZ (hw _ (List.mem_of_getElem? (i := 15) rfl)))) (mvT hZ (hw _ (List.mem_of_getElem? (i := 15) rfl))) (mvT hZ (hw _ (List.mem_of_getElem? (i := 14) rfl))) (by decide) (backOf (W := 0) (rm_u4 l Z a0 hw [] b1 p3 b11_1 k11_2 i11_3 (((((List.replicate 16 (Value.int (0 : Int32))).set (0 : Int32).toNatClampNeg (.int ((((p2.toUInt32 >>> ((24 : Int32) &&& 31).toUInt32).toInt32).toInt8.toInt32).toInt8.toInt32))).set (1 : Int32).toNatClampNeg (.int ((((p2.toUInt32 >>> ((16 : Int32) &&& 31).toUInt32).toInt32).toInt8.toInt32).toInt8.toInt32))).set (2 : Int32).toNatClampNeg (.int ((((p2.toUInt32 >>> ((8 : Int32) &&& 31).toUInt32).toInt32).toInt8.toInt32).toInt8.toInt32))).set (3 : Int32).toNatClampNeg (.int ((p2.toInt8.toInt32).toInt8.toInt32))) (4 : Int32) T11.heap n0 Zs17 f14 fq11_3 f16 f15 fq11_0 g_b1 g_b11_1 hq11_0 (by decide)) hZ (hw _ (List.mem_of_getElem? (i := 16) rfl)) (hw _ (List.mem_of_getElem? (i := 2) rfl)) (by decide) (by decide)) q18a q18c (g := (mkF m 22 #[.val (.int p1), .val (.int p2), .val (.int p3), .val (.int p4), .val (.int p5), .val (.ref b1), .unset, .unset] [(.int p3), (.ref b1)])) rfl (by rw [hml]; rfl) (Steps.refl _) (argsL := [(.int p3)]) (rest := []) (lenOf pd_2 rfl) rfl (by show 2 * 0 + _ ≤ _; exact Nat.le_of_eq rfl) (hb hby at_22) (fun _ _ => ⟨rfl, rfl, (by decide : 3 + 1 ≤ _), (by decide : 31 + 14 ≤ _)⟩)
  dsimp only [Pt.U, Pt.locs, Pt.cells, Pt.slots] at X18 l18 y18 z18 st18 hQ18
  subst l18 y18 z18
  obtain ⟨b18_1, k18_2, i18_3, rfl, Nq18, g_b18_1, hq18_0, Kc18, fq18_0, fq18_1, fq18_2, fq18_3, fq18_4⟩ := hQ18
  have ne_b1_b11_1 : b1 ≠ b11_1 := ne_exa fq11_0 fq11_3 (by decide)
  have f20 : Exa Z T18.heap b5_1 "[B" := f13.keep Kc18
  have f21 : Exa Z T18.heap b11_1 "[B" := fq11_3.keep Kc18
  have f22 : Fld Z T18.heap b1 "com/example/herald/herald/bytecode/Bytes" "bytes" "[B" (.ref b18_1) := fq18_1
  have f23 : Fld Z T18.heap b1 "com/example/herald/herald/bytecode/Bytes" "length" "I" (.int (8 : Int32)) := fq18_2
  have f24 : Arv Z T18.heap b18_1 k18_2 .byte i18_3 (((((((((List.replicate 16 (Value.int (0 : Int32))).set (0 : Int32).toNatClampNeg (.int ((((p2.toUInt32 >>> ((24 : Int32) &&& 31).toUInt32).toInt32).toInt8.toInt32).toInt8.toInt32))).set (1 : Int32).toNatClampNeg (.int ((((p2.toUInt32 >>> ((16 : Int32) &&& 31).toUInt32).toInt32).toInt8.toInt32).toInt8.toInt32))).set (2 : Int32).toNatClampNeg (.int ((((p2.toUInt32 >>> ((8 : Int32) &&& 31).toUInt32).toInt32).toInt8.toInt32).toInt8.toInt32))).set (3 : Int32).toNatClampNeg (.int ((p2.toInt8.toInt32).toInt8.toInt32))).set (4 : Int32).toNatClampNeg (.int ((((p3.toUInt32 >>> ((24 : Int32) &&& 31).toUInt32).toInt32).toInt8.toInt32).toInt8.toInt32))).set (5 : Int32).toNatClampNeg (.int ((((p3.toUInt32 >>> ((16 : Int32) &&& 31).toUInt32).toInt32).toInt8.toInt32).toInt8.toInt32))).set (6 : Int32).toNatClampNeg (.int ((((p3.toUInt32 >>> ((8 : Int32) &&& 31).toUInt32).toInt32).toInt8.toInt32).toInt8.toInt32))).set (7 : Int32).toNatClampNeg (.int ((p3.toInt8.toInt32).toInt8.toInt32))) (.int (0 : Int32)) := fq18_4
  have Zs25 : n0 ≤ T18.heap.size := Nat.le_trans Zs17 Kc18.1
  have N19 := Fr.app N12 Nq18
  obtain ⟨cq26, kq26, q26a, q26b, q26c⟩ := isOf hZ rfl fq18_0
  obtain ⟨_, _, ⟨T26, L26, k26, n26⟩, -, X26, ⟨Lc26, hQ26, l26, y26, z26⟩, st26⟩ := X18.virtualBack hx (y := (⟨"com/example/herald/herald/bytecode/Bytes", "putU4", "(II)V"⟩ : MethodName)) (z := (⟨"com/example/herald/herald/bytecode/Bytes", "putU4", "(II)V"⟩ : MethodName)) hown (mvT hZ (hw _ (List.mem_of_getElem? (i := 39) rfl))) (mvT hZ (hw _ (List.mem_of_getElem? (i := 40) rfl))) (notFace_of_selects (args := #[]) (mvT hZ (hw _ (List.mem_of_getElem? (i := 42) rfl)))) (mvT hZ (hw _ (List.mem_of_getElem? (i := 42) rfl))) (mvT hZ (hw _ (List.mem_of_getElem? (i := 41) rfl))) (by decide) (backOf (W := 0) (rm_put l Z a0 hw [] b1 (4 : Int32) p5 b18_1 k18_2 i18_3 (((((((((List.replicate 16 (Value.int (0 : Int32))).set (0 : Int32).toNatClampNeg (.int ((((p2.toUInt32 >>> ((24 : Int32) &&& 31).toUInt32).toInt32).toInt8.toInt32).toInt8.toInt32))).set (1 : Int32).toNatClampNeg (.int ((((p2.toUInt32 >>> ((16 : Int32) &&& 31).toUInt32).toInt32).toInt8.toInt32).toInt8.toInt32))).set (2 : Int32).toNatClampNeg (.int ((((p2.toUInt32 >>> ((8 : Int32) &&& 31).toUInt32).toInt32).toInt8.toInt32).toInt8.toInt32))).set (3 : Int32).toNatClampNeg (.int ((p2.toInt8.toInt32).toInt8.toInt32))).set (4 : Int32).toNatClampNeg (.int ((((p3.toUInt32 >>> ((24 : Int32) &&& 31).toUInt32).toInt32).toInt8.toInt32).toInt8.toInt32))).set (5 : Int32).toNatClampNeg (.int ((((p3.toUInt32 >>> ((16 : Int32) &&& 31).toUInt32).toInt32).toInt8.toInt32).toInt8.toInt32))).set (6 : Int32).toNatClampNeg (.int ((((p3.toUInt32 >>> ((8 : Int32) &&& 31).toUInt32).toInt32).toInt8.toInt32).toInt8.toInt32))).set (7 : Int32).toNatClampNeg (.int ((p3.toInt8.toInt32).toInt8.toInt32))) T18.heap n0 Zs25 f22 fq18_3 f24 fq18_0 g_b1 g_b18_1 hq18_0 (by decide) (by decide)) hZ (hw _ (List.mem_of_getElem? (i := 43) rfl)) (hw _ (List.mem_of_getElem? (i := 2) rfl)) (by decide) (by decide)) q26a q26c (g := (mkF m 39 #[.val (.int p1), .val (.int p2), .val (.int p3), .val (.int p4), .val (.int p5), .val (.ref b1), .val (.int (4 : Int32)), .unset] [(.int p5), (.int (4 : Int32)), (.ref b1)])) rfl (by rw [hml]; rfl) (Steps.refl _) (argsL := [(.int (4 : Int32)), (.int p5)]) (rest := []) (lenOf pd_4 rfl) rfl (by show 2 * 0 + _ ≤ _; exact Nat.le_of_eq rfl) (hb hby at_39) (fun _ _ => ⟨rfl, rfl, (by decide : 4 + 0 ≤ _), (by decide : 45 + 0 ≤ _)⟩)
  dsimp only [Pt.U, Pt.locs, Pt.cells, Pt.slots] at X26 l26 y26 z26 st26 hQ26
  subst l26 y26 z26
  obtain ⟨rfl, Nq26, hq26_0, Kc26, fq26_0, fq26_1⟩ := hQ26
  have ne_b1_b18_1 : b1 ≠ b18_1 := ne_exa fq18_0 fq18_3 (by decide)
  have f28 : Exa Z T26.heap b1 "com/example/herald/herald/bytecode/Bytes" := fq18_0.keep Kc26
  have f29 : Fld Z T26.heap b1 "com/example/herald/herald/bytecode/Bytes" "bytes" "[B" (.ref b18_1) := f22.keep Kc26 (ninS ne_b1_b18_1 nin0)
  have f30 : Fld Z T26.heap b1 "com/example/herald/herald/bytecode/Bytes" "length" "I" (.int (8 : Int32)) := f23.keep Kc26 (ninS ne_b1_b18_1 nin0)
  have f31 : Exa Z T26.heap b5_1 "[B" := f20.keep Kc26
  have f32 : Exa Z T26.heap b11_1 "[B" := f21.keep Kc26
  have f33 : Arv Z T26.heap b18_1 k18_2 .byte i18_3 (((((((((((((List.replicate 16 (Value.int (0 : Int32))).set (0 : Int32).toNatClampNeg (.int ((((p2.toUInt32 >>> ((24 : Int32) &&& 31).toUInt32).toInt32).toInt8.toInt32).toInt8.toInt32))).set (1 : Int32).toNatClampNeg (.int ((((p2.toUInt32 >>> ((16 : Int32) &&& 31).toUInt32).toInt32).toInt8.toInt32).toInt8.toInt32))).set (2 : Int32).toNatClampNeg (.int ((((p2.toUInt32 >>> ((8 : Int32) &&& 31).toUInt32).toInt32).toInt8.toInt32).toInt8.toInt32))).set (3 : Int32).toNatClampNeg (.int ((p2.toInt8.toInt32).toInt8.toInt32))).set (4 : Int32).toNatClampNeg (.int ((((p3.toUInt32 >>> ((24 : Int32) &&& 31).toUInt32).toInt32).toInt8.toInt32).toInt8.toInt32))).set (5 : Int32).toNatClampNeg (.int ((((p3.toUInt32 >>> ((16 : Int32) &&& 31).toUInt32).toInt32).toInt8.toInt32).toInt8.toInt32))).set (6 : Int32).toNatClampNeg (.int ((((p3.toUInt32 >>> ((8 : Int32) &&& 31).toUInt32).toInt32).toInt8.toInt32).toInt8.toInt32))).set (7 : Int32).toNatClampNeg (.int ((p3.toInt8.toInt32).toInt8.toInt32))).set (4 : Int32).toNatClampNeg (.int ((((p5.toUInt32 >>> ((24 : Int32) &&& 31).toUInt32).toInt32).toInt8.toInt32).toInt8.toInt32))).set (5 : Int32).toNatClampNeg (.int ((((p5.toUInt32 >>> ((16 : Int32) &&& 31).toUInt32).toInt32).toInt8.toInt32).toInt8.toInt32))).set (6 : Int32).toNatClampNeg (.int ((((p5.toUInt32 >>> ((8 : Int32) &&& 31).toUInt32).toInt32).toInt8.toInt32).toInt8.toInt32))).set (7 : Int32).toNatClampNeg (.int ((p5.toInt8.toInt32).toInt8.toInt32))) (.int (0 : Int32)) := fq26_1
  have Zs34 : n0 ≤ T26.heap.size := Nat.le_trans Zs25 Kc26.1
  have N27 := Fr.app N19 Nq26
  obtain ⟨cq35, kq35, q35a, q35b, q35c⟩ := isOf hZ rfl f28
  obtain ⟨_, _, ⟨T35, L35, k35, n35⟩, -, X35, ⟨Lc35, hQ35, l35, y35, z35⟩, st35⟩ := X26.virtualBack hx (y := (⟨"com/example/herald/herald/bytecode/Bytes", "length", "()I"⟩ : MethodName)) (z := (⟨"com/example/herald/herald/bytecode/Bytes", "length", "()I"⟩ : MethodName)) hown (mvT hZ (hw _ (List.mem_of_getElem? (i := 44) rfl))) (mvT hZ (hw _ (List.mem_of_getElem? (i := 45) rfl))) (notFace_of_selects (args := #[]) (mvT hZ (hw _ (List.mem_of_getElem? (i := 47) rfl)))) (mvT hZ (hw _ (List.mem_of_getElem? (i := 47) rfl))) (mvT hZ (hw _ (List.mem_of_getElem? (i := 46) rfl))) (by decide) (backOf (W := 0) (rm_length l Z a0 hw [] b1 (8 : Int32) T26.heap n0 Zs34 f30) hZ (hw _ (List.mem_of_getElem? (i := 48) rfl)) (hw _ (List.mem_of_getElem? (i := 2) rfl)) (by decide) (by decide)) q35a q35c (g := (mkF m 44 #[.val (.int p1), .val (.int p2), .val (.int p3), .val (.int p4), .val (.int p5), .val (.ref b1), .val (.int (4 : Int32)), .unset] [(.ref b1)])) rfl (by rw [hml]; rfl) (Steps.refl _) (argsL := []) (rest := []) (lenOf pd_5 rfl) rfl (by show 2 * 0 + _ ≤ _; exact Nat.le_of_eq rfl) (hb hby at_44) (fun _ _ => ⟨rfl, rfl, (by decide : 4 + 0 ≤ _), (by decide : 45 + 0 ≤ _)⟩)
  dsimp only [Pt.U, Pt.locs, Pt.cells, Pt.slots] at X35 l35 y35 z35 st35 hQ35
  subst l35 y35 z35
  obtain ⟨rfl, Nq35, e35⟩ := hQ35
  have N36 := Fr.app N27 Nq35
  obtain ⟨cq37, kq37, q37a, q37b, q37c⟩ := isOf hZ e35 f28
  obtain ⟨_, _, ⟨T37, L37, k37, n37⟩, -, X37, ⟨Lc37, hQ37, l37, y37, z37⟩, st37⟩ := X35.virtualBack hx (y := (⟨"com/example/herald/herald/bytecode/Bytes", "toArray", "()[B"⟩ : MethodName)) (z := (⟨"com/example/herald/herald/bytecode/Bytes", "toArray", "()[B"⟩ : MethodName)) hown (mvT hZ (hw _ (List.mem_of_getElem? (i := 49) rfl))) (mvT hZ (hw _ (List.mem_of_getElem? (i := 50) rfl))) (notFace_of_selects (args := #[]) (mvT hZ (hw _ (List.mem_of_getElem? (i := 52) rfl)))) (mvT hZ (hw _ (List.mem_of_getElem? (i := 52) rfl))) (mvT hZ (hw _ (List.mem_of_getElem? (i := 51) rfl))) (by decide) (backOf (W := 0) (rm_arr l Z a0 hw [] b1 b18_1 k18_2 i18_3 (((((((((((((List.replicate 16 (Value.int (0 : Int32))).set (0 : Int32).toNatClampNeg (.int ((((p2.toUInt32 >>> ((24 : Int32) &&& 31).toUInt32).toInt32).toInt8.toInt32).toInt8.toInt32))).set (1 : Int32).toNatClampNeg (.int ((((p2.toUInt32 >>> ((16 : Int32) &&& 31).toUInt32).toInt32).toInt8.toInt32).toInt8.toInt32))).set (2 : Int32).toNatClampNeg (.int ((((p2.toUInt32 >>> ((8 : Int32) &&& 31).toUInt32).toInt32).toInt8.toInt32).toInt8.toInt32))).set (3 : Int32).toNatClampNeg (.int ((p2.toInt8.toInt32).toInt8.toInt32))).set (4 : Int32).toNatClampNeg (.int ((((p3.toUInt32 >>> ((24 : Int32) &&& 31).toUInt32).toInt32).toInt8.toInt32).toInt8.toInt32))).set (5 : Int32).toNatClampNeg (.int ((((p3.toUInt32 >>> ((16 : Int32) &&& 31).toUInt32).toInt32).toInt8.toInt32).toInt8.toInt32))).set (6 : Int32).toNatClampNeg (.int ((((p3.toUInt32 >>> ((8 : Int32) &&& 31).toUInt32).toInt32).toInt8.toInt32).toInt8.toInt32))).set (7 : Int32).toNatClampNeg (.int ((p3.toInt8.toInt32).toInt8.toInt32))).set (4 : Int32).toNatClampNeg (.int ((((p5.toUInt32 >>> ((24 : Int32) &&& 31).toUInt32).toInt32).toInt8.toInt32).toInt8.toInt32))).set (5 : Int32).toNatClampNeg (.int ((((p5.toUInt32 >>> ((16 : Int32) &&& 31).toUInt32).toInt32).toInt8.toInt32).toInt8.toInt32))).set (6 : Int32).toNatClampNeg (.int ((((p5.toUInt32 >>> ((8 : Int32) &&& 31).toUInt32).toInt32).toInt8.toInt32).toInt8.toInt32))).set (7 : Int32).toNatClampNeg (.int ((p5.toInt8.toInt32).toInt8.toInt32))) (8 : Int32) T26.heap n0 Zs34 f29 fq26_0 f33 f30 f28 hq26_0 (by decide)) hZ (hw _ (List.mem_of_getElem? (i := 53) rfl)) (hw _ (List.mem_of_getElem? (i := 2) rfl)) (by decide) (by decide)) q37a q37c (g := (mkF m 56 #[.val (.int p1), .val (.int p2), .val (.int p3), .val (.int p4), .val (.int p5), .val (.ref b1), .val (.int (4 : Int32)), .unset] [(.ref b1)])) rfl (by rw [hml]; rfl) (Steps.refl _) (argsL := []) (rest := []) (lenOf pd_6 rfl) rfl (by show 2 * 0 + _ ≤ _; exact Nat.le_of_eq rfl) (hb hby at_56) (fun _ _ => ⟨rfl, e35, (by decide : 4 + 1 ≤ _), (by decide : 45 + 8 ≤ _)⟩)
  dsimp only [Pt.U, Pt.locs, Pt.cells, Pt.slots] at X37 l37 y37 z37 st37 hQ37
  subst l37 y37 z37
  obtain ⟨b37_1, k37_2, rfl, Nq37, g_b37_1, szq_b37_1, Kc37, fq37_0, fq37_1⟩ := hQ37
  have ne_b1_b37_1 : b1 ≠ b37_1 := Nat.ne_of_lt (Nat.lt_of_lt_of_le f28.lt szq_b37_1)
  have ne_b5_1_b37_1 : b5_1 ≠ b37_1 := Nat.ne_of_lt (Nat.lt_of_lt_of_le f31.lt szq_b37_1)
  have ne_b11_1_b37_1 : b11_1 ≠ b37_1 := Nat.ne_of_lt (Nat.lt_of_lt_of_le f32.lt szq_b37_1)
  have ne_b18_1_b37_1 : b18_1 ≠ b37_1 := Nat.ne_of_lt (Nat.lt_of_lt_of_le fq26_0.lt szq_b37_1)
  have f39 : Exa Z T37.heap b1 "com/example/herald/herald/bytecode/Bytes" := f28.keep Kc37
  have f40 : Fld Z T37.heap b1 "com/example/herald/herald/bytecode/Bytes" "bytes" "[B" (.ref b18_1) := f29.keep Kc37 nin0
  have f41 : Fld Z T37.heap b1 "com/example/herald/herald/bytecode/Bytes" "length" "I" (.int (8 : Int32)) := f30.keep Kc37 nin0
  have f42 : Exa Z T37.heap b5_1 "[B" := f31.keep Kc37
  have f43 : Exa Z T37.heap b11_1 "[B" := f32.keep Kc37
  have f44 : Exa Z T37.heap b18_1 "[B" := fq26_0.keep Kc37
  have f45 : Arv Z T37.heap b18_1 k18_2 .byte i18_3 (((((((((((((List.replicate 16 (Value.int (0 : Int32))).set (0 : Int32).toNatClampNeg (.int ((((p2.toUInt32 >>> ((24 : Int32) &&& 31).toUInt32).toInt32).toInt8.toInt32).toInt8.toInt32))).set (1 : Int32).toNatClampNeg (.int ((((p2.toUInt32 >>> ((16 : Int32) &&& 31).toUInt32).toInt32).toInt8.toInt32).toInt8.toInt32))).set (2 : Int32).toNatClampNeg (.int ((((p2.toUInt32 >>> ((8 : Int32) &&& 31).toUInt32).toInt32).toInt8.toInt32).toInt8.toInt32))).set (3 : Int32).toNatClampNeg (.int ((p2.toInt8.toInt32).toInt8.toInt32))).set (4 : Int32).toNatClampNeg (.int ((((p3.toUInt32 >>> ((24 : Int32) &&& 31).toUInt32).toInt32).toInt8.toInt32).toInt8.toInt32))).set (5 : Int32).toNatClampNeg (.int ((((p3.toUInt32 >>> ((16 : Int32) &&& 31).toUInt32).toInt32).toInt8.toInt32).toInt8.toInt32))).set (6 : Int32).toNatClampNeg (.int ((((p3.toUInt32 >>> ((8 : Int32) &&& 31).toUInt32).toInt32).toInt8.toInt32).toInt8.toInt32))).set (7 : Int32).toNatClampNeg (.int ((p3.toInt8.toInt32).toInt8.toInt32))).set (4 : Int32).toNatClampNeg (.int ((((p5.toUInt32 >>> ((24 : Int32) &&& 31).toUInt32).toInt32).toInt8.toInt32).toInt8.toInt32))).set (5 : Int32).toNatClampNeg (.int ((((p5.toUInt32 >>> ((16 : Int32) &&& 31).toUInt32).toInt32).toInt8.toInt32).toInt8.toInt32))).set (6 : Int32).toNatClampNeg (.int ((((p5.toUInt32 >>> ((8 : Int32) &&& 31).toUInt32).toInt32).toInt8.toInt32).toInt8.toInt32))).set (7 : Int32).toNatClampNeg (.int ((p5.toInt8.toInt32).toInt8.toInt32))) (.int (0 : Int32)) := f33.keep Kc37 nin0
  have f46 : Arv Z T37.heap b37_1 k37_2 .byte (8 : Int32) (((((((((((((List.replicate 16 (Value.int (0 : Int32))).set (0 : Int32).toNatClampNeg (.int ((((p2.toUInt32 >>> ((24 : Int32) &&& 31).toUInt32).toInt32).toInt8.toInt32).toInt8.toInt32))).set (1 : Int32).toNatClampNeg (.int ((((p2.toUInt32 >>> ((16 : Int32) &&& 31).toUInt32).toInt32).toInt8.toInt32).toInt8.toInt32))).set (2 : Int32).toNatClampNeg (.int ((((p2.toUInt32 >>> ((8 : Int32) &&& 31).toUInt32).toInt32).toInt8.toInt32).toInt8.toInt32))).set (3 : Int32).toNatClampNeg (.int ((p2.toInt8.toInt32).toInt8.toInt32))).set (4 : Int32).toNatClampNeg (.int ((((p3.toUInt32 >>> ((24 : Int32) &&& 31).toUInt32).toInt32).toInt8.toInt32).toInt8.toInt32))).set (5 : Int32).toNatClampNeg (.int ((((p3.toUInt32 >>> ((16 : Int32) &&& 31).toUInt32).toInt32).toInt8.toInt32).toInt8.toInt32))).set (6 : Int32).toNatClampNeg (.int ((((p3.toUInt32 >>> ((8 : Int32) &&& 31).toUInt32).toInt32).toInt8.toInt32).toInt8.toInt32))).set (7 : Int32).toNatClampNeg (.int ((p3.toInt8.toInt32).toInt8.toInt32))).set (4 : Int32).toNatClampNeg (.int ((((p5.toUInt32 >>> ((24 : Int32) &&& 31).toUInt32).toInt32).toInt8.toInt32).toInt8.toInt32))).set (5 : Int32).toNatClampNeg (.int ((((p5.toUInt32 >>> ((16 : Int32) &&& 31).toUInt32).toInt32).toInt8.toInt32).toInt8.toInt32))).set (6 : Int32).toNatClampNeg (.int ((((p5.toUInt32 >>> ((8 : Int32) &&& 31).toUInt32).toInt32).toInt8.toInt32).toInt8.toInt32))).set (7 : Int32).toNatClampNeg (.int ((p5.toInt8.toInt32).toInt8.toInt32))) (.int (0 : Int32)) := fq37_1
  have Zs47 : n0 ≤ T37.heap.size := Nat.le_trans Zs34 Kc37.1
  have N38 := Fr.app N36 Nq37
  obtain ⟨clo48, Aro48, -, So48, No48, -, -⟩ := id f46
  obtain ⟨_, _, ⟨T49, L49, k49, n49⟩, -, X49, ⟨Lc49, hQ49, l49, y49, z49⟩, st49⟩ := Jvm.LawKit.callS X37 hx (y := (⟨"com/example/herald/herald/bytecode/BytesPutU4PinLaw", "ok", "([BIIIII)Z"⟩ : MethodName)) hown (mvT hZ (hw _ (List.mem_of_getElem? (i := 63) rfl))) (mvT hZ (hw _ (List.mem_of_getElem? (i := 64) rfl))) (mvT hZ (hw _ (List.mem_of_getElem? (i := 65) rfl))) (mvT hZ (hw _ (List.mem_of_getElem? (i := 66) rfl))) (by decide) (backOf (W := 0) (rm_okA l Z a0 hw [] b37_1 (0 : Int32) p2 p3 (4 : Int32) p5 k37_2 (8 : Int32) (((((((((((((List.replicate 16 (Value.int (0 : Int32))).set (0 : Int32).toNatClampNeg (.int ((((p2.toUInt32 >>> ((24 : Int32) &&& 31).toUInt32).toInt32).toInt8.toInt32).toInt8.toInt32))).set (1 : Int32).toNatClampNeg (.int ((((p2.toUInt32 >>> ((16 : Int32) &&& 31).toUInt32).toInt32).toInt8.toInt32).toInt8.toInt32))).set (2 : Int32).toNatClampNeg (.int ((((p2.toUInt32 >>> ((8 : Int32) &&& 31).toUInt32).toInt32).toInt8.toInt32).toInt8.toInt32))).set (3 : Int32).toNatClampNeg (.int ((p2.toInt8.toInt32).toInt8.toInt32))).set (4 : Int32).toNatClampNeg (.int ((((p3.toUInt32 >>> ((24 : Int32) &&& 31).toUInt32).toInt32).toInt8.toInt32).toInt8.toInt32))).set (5 : Int32).toNatClampNeg (.int ((((p3.toUInt32 >>> ((16 : Int32) &&& 31).toUInt32).toInt32).toInt8.toInt32).toInt8.toInt32))).set (6 : Int32).toNatClampNeg (.int ((((p3.toUInt32 >>> ((8 : Int32) &&& 31).toUInt32).toInt32).toInt8.toInt32).toInt8.toInt32))).set (7 : Int32).toNatClampNeg (.int ((p3.toInt8.toInt32).toInt8.toInt32))).set (4 : Int32).toNatClampNeg (.int ((((p5.toUInt32 >>> ((24 : Int32) &&& 31).toUInt32).toInt32).toInt8.toInt32).toInt8.toInt32))).set (5 : Int32).toNatClampNeg (.int ((((p5.toUInt32 >>> ((16 : Int32) &&& 31).toUInt32).toInt32).toInt8.toInt32).toInt8.toInt32))).set (6 : Int32).toNatClampNeg (.int ((((p5.toUInt32 >>> ((8 : Int32) &&& 31).toUInt32).toInt32).toInt8.toInt32).toInt8.toInt32))).set (7 : Int32).toNatClampNeg (.int ((p5.toInt8.toInt32).toInt8.toInt32))) T37.heap n0 Zs47 f46 (by decide) (by decide) (by decide) hp7) hZ (hw _ (List.mem_of_getElem? (i := 66) rfl)) (hw _ (List.mem_of_getElem? (i := 65) rfl)) (by decide) (by decide)) (g := (mkF m 80 #[.val (.int p1), .val (.int p2), .val (.int p3), .val (.int p4), .val (.int p5), .val (.ref b1), .val (.int (4 : Int32)), .val (.ref b37_1)] [(.int p5), (.int (4 : Int32)), (.int p3), (.int p2), (.int (0 : Int32)), (.ref b37_1)])) rfl (by rw [hml]; rfl) (argsL := [(.ref b37_1), (.int (0 : Int32)), (.int p2), (.int p3), (.int (4 : Int32)), (.int p5)]) (rest := []) (lenOf pd_7 rfl) rfl (by show 2 * 0 + _ ≤ _; exact Nat.le_of_eq rfl) (hb hby at_80) (fun _ _ => ⟨rfl, rfl, (by decide : 5 + 0 ≤ _), (by decide : 53 + 0 ≤ _)⟩)
  dsimp only [Pt.U, Pt.locs, Pt.cells, Pt.slots] at X49 l49 y49 z49 st49 hQ49
  subst l49 y49 z49
  obtain ⟨rfl, Nq49, e49⟩ := hQ49
  have N50 := Fr.app N38 Nq49
  obtain ⟨_, _, ⟨T51, L51, k51, n51⟩, -, X51, ⟨Lc51, hQ51, l51, y51, z51⟩, st51⟩ := Jvm.LawKit.callS X49 hx (y := (⟨"com/example/herald/herald/bytecode/BytesPutU4PinLaw", "ok", "([BIIIII)Z"⟩ : MethodName)) hown (mvT hZ (hw _ (List.mem_of_getElem? (i := 63) rfl))) (mvT hZ (hw _ (List.mem_of_getElem? (i := 64) rfl))) (mvT hZ (hw _ (List.mem_of_getElem? (i := 65) rfl))) (mvT hZ (hw _ (List.mem_of_getElem? (i := 66) rfl))) (by decide) (backOf (W := 0) (rm_okA l Z a0 hw [] b37_1 (1 : Int32) p2 p3 (4 : Int32) p5 k37_2 (8 : Int32) (((((((((((((List.replicate 16 (Value.int (0 : Int32))).set (0 : Int32).toNatClampNeg (.int ((((p2.toUInt32 >>> ((24 : Int32) &&& 31).toUInt32).toInt32).toInt8.toInt32).toInt8.toInt32))).set (1 : Int32).toNatClampNeg (.int ((((p2.toUInt32 >>> ((16 : Int32) &&& 31).toUInt32).toInt32).toInt8.toInt32).toInt8.toInt32))).set (2 : Int32).toNatClampNeg (.int ((((p2.toUInt32 >>> ((8 : Int32) &&& 31).toUInt32).toInt32).toInt8.toInt32).toInt8.toInt32))).set (3 : Int32).toNatClampNeg (.int ((p2.toInt8.toInt32).toInt8.toInt32))).set (4 : Int32).toNatClampNeg (.int ((((p3.toUInt32 >>> ((24 : Int32) &&& 31).toUInt32).toInt32).toInt8.toInt32).toInt8.toInt32))).set (5 : Int32).toNatClampNeg (.int ((((p3.toUInt32 >>> ((16 : Int32) &&& 31).toUInt32).toInt32).toInt8.toInt32).toInt8.toInt32))).set (6 : Int32).toNatClampNeg (.int ((((p3.toUInt32 >>> ((8 : Int32) &&& 31).toUInt32).toInt32).toInt8.toInt32).toInt8.toInt32))).set (7 : Int32).toNatClampNeg (.int ((p3.toInt8.toInt32).toInt8.toInt32))).set (4 : Int32).toNatClampNeg (.int ((((p5.toUInt32 >>> ((24 : Int32) &&& 31).toUInt32).toInt32).toInt8.toInt32).toInt8.toInt32))).set (5 : Int32).toNatClampNeg (.int ((((p5.toUInt32 >>> ((16 : Int32) &&& 31).toUInt32).toInt32).toInt8.toInt32).toInt8.toInt32))).set (6 : Int32).toNatClampNeg (.int ((((p5.toUInt32 >>> ((8 : Int32) &&& 31).toUInt32).toInt32).toInt8.toInt32).toInt8.toInt32))).set (7 : Int32).toNatClampNeg (.int ((p5.toInt8.toInt32).toInt8.toInt32))) T37.heap n0 Zs47 f46 (by decide) (by decide) (by decide) hp8) hZ (hw _ (List.mem_of_getElem? (i := 66) rfl)) (hw _ (List.mem_of_getElem? (i := 65) rfl)) (by decide) (by decide)) (g := (mkF m 95 #[.val (.int p1), .val (.int p2), .val (.int p3), .val (.int p4), .val (.int p5), .val (.ref b1), .val (.int (4 : Int32)), .val (.ref b37_1)] [(.int p5), (.int (4 : Int32)), (.int p3), (.int p2), (.int (1 : Int32)), (.ref b37_1)])) rfl (by rw [hml]; rfl) (argsL := [(.ref b37_1), (.int (1 : Int32)), (.int p2), (.int p3), (.int (4 : Int32)), (.int p5)]) (rest := []) (lenOf pd_7 rfl) rfl (by show 2 * 0 + _ ≤ _; exact Nat.le_of_eq rfl) (hb hby at_95) (fun _ _ => ⟨rfl, e49, (by decide : 5 + 0 ≤ _), (by decide : 53 + 0 ≤ _)⟩)
  dsimp only [Pt.U, Pt.locs, Pt.cells, Pt.slots] at X51 l51 y51 z51 st51 hQ51
  subst l51 y51 z51
  obtain ⟨rfl, Nq51, e51⟩ := hQ51
  have N52 := Fr.app N50 Nq51
  obtain ⟨_, _, ⟨T53, L53, k53, n53⟩, -, X53, ⟨Lc53, hQ53, l53, y53, z53⟩, st53⟩ := Jvm.LawKit.callS X51 hx (y := (⟨"com/example/herald/herald/bytecode/BytesPutU4PinLaw", "ok", "([BIIIII)Z"⟩ : MethodName)) hown (mvT hZ (hw _ (List.mem_of_getElem? (i := 63) rfl))) (mvT hZ (hw _ (List.mem_of_getElem? (i := 64) rfl))) (mvT hZ (hw _ (List.mem_of_getElem? (i := 65) rfl))) (mvT hZ (hw _ (List.mem_of_getElem? (i := 66) rfl))) (by decide) (backOf (W := 0) (rm_okA l Z a0 hw [] b37_1 (2 : Int32) p2 p3 (4 : Int32) p5 k37_2 (8 : Int32) (((((((((((((List.replicate 16 (Value.int (0 : Int32))).set (0 : Int32).toNatClampNeg (.int ((((p2.toUInt32 >>> ((24 : Int32) &&& 31).toUInt32).toInt32).toInt8.toInt32).toInt8.toInt32))).set (1 : Int32).toNatClampNeg (.int ((((p2.toUInt32 >>> ((16 : Int32) &&& 31).toUInt32).toInt32).toInt8.toInt32).toInt8.toInt32))).set (2 : Int32).toNatClampNeg (.int ((((p2.toUInt32 >>> ((8 : Int32) &&& 31).toUInt32).toInt32).toInt8.toInt32).toInt8.toInt32))).set (3 : Int32).toNatClampNeg (.int ((p2.toInt8.toInt32).toInt8.toInt32))).set (4 : Int32).toNatClampNeg (.int ((((p3.toUInt32 >>> ((24 : Int32) &&& 31).toUInt32).toInt32).toInt8.toInt32).toInt8.toInt32))).set (5 : Int32).toNatClampNeg (.int ((((p3.toUInt32 >>> ((16 : Int32) &&& 31).toUInt32).toInt32).toInt8.toInt32).toInt8.toInt32))).set (6 : Int32).toNatClampNeg (.int ((((p3.toUInt32 >>> ((8 : Int32) &&& 31).toUInt32).toInt32).toInt8.toInt32).toInt8.toInt32))).set (7 : Int32).toNatClampNeg (.int ((p3.toInt8.toInt32).toInt8.toInt32))).set (4 : Int32).toNatClampNeg (.int ((((p5.toUInt32 >>> ((24 : Int32) &&& 31).toUInt32).toInt32).toInt8.toInt32).toInt8.toInt32))).set (5 : Int32).toNatClampNeg (.int ((((p5.toUInt32 >>> ((16 : Int32) &&& 31).toUInt32).toInt32).toInt8.toInt32).toInt8.toInt32))).set (6 : Int32).toNatClampNeg (.int ((((p5.toUInt32 >>> ((8 : Int32) &&& 31).toUInt32).toInt32).toInt8.toInt32).toInt8.toInt32))).set (7 : Int32).toNatClampNeg (.int ((p5.toInt8.toInt32).toInt8.toInt32))) T37.heap n0 Zs47 f46 (by decide) (by decide) (by decide) hp9) hZ (hw _ (List.mem_of_getElem? (i := 66) rfl)) (hw _ (List.mem_of_getElem? (i := 65) rfl)) (by decide) (by decide)) (g := (mkF m 110 #[.val (.int p1), .val (.int p2), .val (.int p3), .val (.int p4), .val (.int p5), .val (.ref b1), .val (.int (4 : Int32)), .val (.ref b37_1)] [(.int p5), (.int (4 : Int32)), (.int p3), (.int p2), (.int (2 : Int32)), (.ref b37_1)])) rfl (by rw [hml]; rfl) (argsL := [(.ref b37_1), (.int (2 : Int32)), (.int p2), (.int p3), (.int (4 : Int32)), (.int p5)]) (rest := []) (lenOf pd_7 rfl) rfl (by show 2 * 0 + _ ≤ _; exact Nat.le_of_eq rfl) (hb hby at_110) (fun _ _ => ⟨rfl, e51, (by decide : 5 + 0 ≤ _), (by decide : 53 + 0 ≤ _)⟩)
  dsimp only [Pt.U, Pt.locs, Pt.cells, Pt.slots] at X53 l53 y53 z53 st53 hQ53
  subst l53 y53 z53
  obtain ⟨rfl, Nq53, e53⟩ := hQ53
  have N54 := Fr.app N52 Nq53
  obtain ⟨_, _, ⟨T55, L55, k55, n55⟩, -, X55, ⟨Lc55, hQ55, l55, y55, z55⟩, st55⟩ := Jvm.LawKit.callS X53 hx (y := (⟨"com/example/herald/herald/bytecode/BytesPutU4PinLaw", "ok", "([BIIIII)Z"⟩ : MethodName)) hown (mvT hZ (hw _ (List.mem_of_getElem? (i := 63) rfl))) (mvT hZ (hw _ (List.mem_of_getElem? (i := 64) rfl))) (mvT hZ (hw _ (List.mem_of_getElem? (i := 65) rfl))) (mvT hZ (hw _ (List.mem_of_getElem? (i := 66) rfl))) (by decide) (backOf (W := 0) (rm_okA l Z a0 hw [] b37_1 (3 : Int32) p2 p3 (4 : Int32) p5 k37_2 (8 : Int32) (((((((((((((List.replicate 16 (Value.int (0 : Int32))).set (0 : Int32).toNatClampNeg (.int ((((p2.toUInt32 >>> ((24 : Int32) &&& 31).toUInt32).toInt32).toInt8.toInt32).toInt8.toInt32))).set (1 : Int32).toNatClampNeg (.int ((((p2.toUInt32 >>> ((16 : Int32) &&& 31).toUInt32).toInt32).toInt8.toInt32).toInt8.toInt32))).set (2 : Int32).toNatClampNeg (.int ((((p2.toUInt32 >>> ((8 : Int32) &&& 31).toUInt32).toInt32).toInt8.toInt32).toInt8.toInt32))).set (3 : Int32).toNatClampNeg (.int ((p2.toInt8.toInt32).toInt8.toInt32))).set (4 : Int32).toNatClampNeg (.int ((((p3.toUInt32 >>> ((24 : Int32) &&& 31).toUInt32).toInt32).toInt8.toInt32).toInt8.toInt32))).set (5 : Int32).toNatClampNeg (.int ((((p3.toUInt32 >>> ((16 : Int32) &&& 31).toUInt32).toInt32).toInt8.toInt32).toInt8.toInt32))).set (6 : Int32).toNatClampNeg (.int ((((p3.toUInt32 >>> ((8 : Int32) &&& 31).toUInt32).toInt32).toInt8.toInt32).toInt8.toInt32))).set (7 : Int32).toNatClampNeg (.int ((p3.toInt8.toInt32).toInt8.toInt32))).set (4 : Int32).toNatClampNeg (.int ((((p5.toUInt32 >>> ((24 : Int32) &&& 31).toUInt32).toInt32).toInt8.toInt32).toInt8.toInt32))).set (5 : Int32).toNatClampNeg (.int ((((p5.toUInt32 >>> ((16 : Int32) &&& 31).toUInt32).toInt32).toInt8.toInt32).toInt8.toInt32))).set (6 : Int32).toNatClampNeg (.int ((((p5.toUInt32 >>> ((8 : Int32) &&& 31).toUInt32).toInt32).toInt8.toInt32).toInt8.toInt32))).set (7 : Int32).toNatClampNeg (.int ((p5.toInt8.toInt32).toInt8.toInt32))) T37.heap n0 Zs47 f46 (by decide) (by decide) (by decide) hp10) hZ (hw _ (List.mem_of_getElem? (i := 66) rfl)) (hw _ (List.mem_of_getElem? (i := 65) rfl)) (by decide) (by decide)) (g := (mkF m 125 #[.val (.int p1), .val (.int p2), .val (.int p3), .val (.int p4), .val (.int p5), .val (.ref b1), .val (.int (4 : Int32)), .val (.ref b37_1)] [(.int p5), (.int (4 : Int32)), (.int p3), (.int p2), (.int (3 : Int32)), (.ref b37_1)])) rfl (by rw [hml]; rfl) (argsL := [(.ref b37_1), (.int (3 : Int32)), (.int p2), (.int p3), (.int (4 : Int32)), (.int p5)]) (rest := []) (lenOf pd_7 rfl) rfl (by show 2 * 0 + _ ≤ _; exact Nat.le_of_eq rfl) (hb hby at_125) (fun _ _ => ⟨rfl, e53, (by decide : 5 + 0 ≤ _), (by decide : 53 + 0 ≤ _)⟩)
  dsimp only [Pt.U, Pt.locs, Pt.cells, Pt.slots] at X55 l55 y55 z55 st55 hQ55
  subst l55 y55 z55
  obtain ⟨rfl, Nq55, e55⟩ := hQ55
  have N56 := Fr.app N54 Nq55
  obtain ⟨_, _, ⟨T57, L57, k57, n57⟩, -, X57, ⟨Lc57, hQ57, l57, y57, z57⟩, st57⟩ := Jvm.LawKit.callS X55 hx (y := (⟨"com/example/herald/herald/bytecode/BytesPutU4PinLaw", "ok", "([BIIIII)Z"⟩ : MethodName)) hown (mvT hZ (hw _ (List.mem_of_getElem? (i := 63) rfl))) (mvT hZ (hw _ (List.mem_of_getElem? (i := 64) rfl))) (mvT hZ (hw _ (List.mem_of_getElem? (i := 65) rfl))) (mvT hZ (hw _ (List.mem_of_getElem? (i := 66) rfl))) (by decide) (backOf (W := 0) (rm_okV l Z a0 hw [] b37_1 (4 : Int32) p2 p3 (4 : Int32) p5 k37_2 (8 : Int32) (((((((((((((List.replicate 16 (Value.int (0 : Int32))).set (0 : Int32).toNatClampNeg (.int ((((p2.toUInt32 >>> ((24 : Int32) &&& 31).toUInt32).toInt32).toInt8.toInt32).toInt8.toInt32))).set (1 : Int32).toNatClampNeg (.int ((((p2.toUInt32 >>> ((16 : Int32) &&& 31).toUInt32).toInt32).toInt8.toInt32).toInt8.toInt32))).set (2 : Int32).toNatClampNeg (.int ((((p2.toUInt32 >>> ((8 : Int32) &&& 31).toUInt32).toInt32).toInt8.toInt32).toInt8.toInt32))).set (3 : Int32).toNatClampNeg (.int ((p2.toInt8.toInt32).toInt8.toInt32))).set (4 : Int32).toNatClampNeg (.int ((((p3.toUInt32 >>> ((24 : Int32) &&& 31).toUInt32).toInt32).toInt8.toInt32).toInt8.toInt32))).set (5 : Int32).toNatClampNeg (.int ((((p3.toUInt32 >>> ((16 : Int32) &&& 31).toUInt32).toInt32).toInt8.toInt32).toInt8.toInt32))).set (6 : Int32).toNatClampNeg (.int ((((p3.toUInt32 >>> ((8 : Int32) &&& 31).toUInt32).toInt32).toInt8.toInt32).toInt8.toInt32))).set (7 : Int32).toNatClampNeg (.int ((p3.toInt8.toInt32).toInt8.toInt32))).set (4 : Int32).toNatClampNeg (.int ((((p5.toUInt32 >>> ((24 : Int32) &&& 31).toUInt32).toInt32).toInt8.toInt32).toInt8.toInt32))).set (5 : Int32).toNatClampNeg (.int ((((p5.toUInt32 >>> ((16 : Int32) &&& 31).toUInt32).toInt32).toInt8.toInt32).toInt8.toInt32))).set (6 : Int32).toNatClampNeg (.int ((((p5.toUInt32 >>> ((8 : Int32) &&& 31).toUInt32).toInt32).toInt8.toInt32).toInt8.toInt32))).set (7 : Int32).toNatClampNeg (.int ((p5.toInt8.toInt32).toInt8.toInt32))) T37.heap n0 Zs47 f46 (by decide) (by decide) (by decide) (by decide) hp11) hZ (hw _ (List.mem_of_getElem? (i := 66) rfl)) (hw _ (List.mem_of_getElem? (i := 65) rfl)) (by decide) (by decide)) (g := (mkF m 140 #[.val (.int p1), .val (.int p2), .val (.int p3), .val (.int p4), .val (.int p5), .val (.ref b1), .val (.int (4 : Int32)), .val (.ref b37_1)] [(.int p5), (.int (4 : Int32)), (.int p3), (.int p2), (.int (4 : Int32)), (.ref b37_1)])) rfl (by rw [hml]; rfl) (argsL := [(.ref b37_1), (.int (4 : Int32)), (.int p2), (.int p3), (.int (4 : Int32)), (.int p5)]) (rest := []) (lenOf pd_7 rfl) rfl (by show 2 * 0 + _ ≤ _; exact Nat.le_of_eq rfl) (hb hby at_140) (fun _ _ => ⟨rfl, e55, (by decide : 5 + 0 ≤ _), (by decide : 53 + 0 ≤ _)⟩)
  dsimp only [Pt.U, Pt.locs, Pt.cells, Pt.slots] at X57 l57 y57 z57 st57 hQ57
  subst l57 y57 z57
  obtain ⟨rfl, Nq57, e57⟩ := hQ57
  have N58 := Fr.app N56 Nq57
  obtain ⟨_, _, ⟨T59, L59, k59, n59⟩, -, X59, ⟨Lc59, hQ59, l59, y59, z59⟩, st59⟩ := Jvm.LawKit.callS X57 hx (y := (⟨"com/example/herald/herald/bytecode/BytesPutU4PinLaw", "ok", "([BIIIII)Z"⟩ : MethodName)) hown (mvT hZ (hw _ (List.mem_of_getElem? (i := 63) rfl))) (mvT hZ (hw _ (List.mem_of_getElem? (i := 64) rfl))) (mvT hZ (hw _ (List.mem_of_getElem? (i := 65) rfl))) (mvT hZ (hw _ (List.mem_of_getElem? (i := 66) rfl))) (by decide) (backOf (W := 0) (rm_okV l Z a0 hw [] b37_1 (5 : Int32) p2 p3 (4 : Int32) p5 k37_2 (8 : Int32) (((((((((((((List.replicate 16 (Value.int (0 : Int32))).set (0 : Int32).toNatClampNeg (.int ((((p2.toUInt32 >>> ((24 : Int32) &&& 31).toUInt32).toInt32).toInt8.toInt32).toInt8.toInt32))).set (1 : Int32).toNatClampNeg (.int ((((p2.toUInt32 >>> ((16 : Int32) &&& 31).toUInt32).toInt32).toInt8.toInt32).toInt8.toInt32))).set (2 : Int32).toNatClampNeg (.int ((((p2.toUInt32 >>> ((8 : Int32) &&& 31).toUInt32).toInt32).toInt8.toInt32).toInt8.toInt32))).set (3 : Int32).toNatClampNeg (.int ((p2.toInt8.toInt32).toInt8.toInt32))).set (4 : Int32).toNatClampNeg (.int ((((p3.toUInt32 >>> ((24 : Int32) &&& 31).toUInt32).toInt32).toInt8.toInt32).toInt8.toInt32))).set (5 : Int32).toNatClampNeg (.int ((((p3.toUInt32 >>> ((16 : Int32) &&& 31).toUInt32).toInt32).toInt8.toInt32).toInt8.toInt32))).set (6 : Int32).toNatClampNeg (.int ((((p3.toUInt32 >>> ((8 : Int32) &&& 31).toUInt32).toInt32).toInt8.toInt32).toInt8.toInt32))).set (7 : Int32).toNatClampNeg (.int ((p3.toInt8.toInt32).toInt8.toInt32))).set (4 : Int32).toNatClampNeg (.int ((((p5.toUInt32 >>> ((24 : Int32) &&& 31).toUInt32).toInt32).toInt8.toInt32).toInt8.toInt32))).set (5 : Int32).toNatClampNeg (.int ((((p5.toUInt32 >>> ((16 : Int32) &&& 31).toUInt32).toInt32).toInt8.toInt32).toInt8.toInt32))).set (6 : Int32).toNatClampNeg (.int ((((p5.toUInt32 >>> ((8 : Int32) &&& 31).toUInt32).toInt32).toInt8.toInt32).toInt8.toInt32))).set (7 : Int32).toNatClampNeg (.int ((p5.toInt8.toInt32).toInt8.toInt32))) T37.heap n0 Zs47 f46 (by decide) (by decide) (by decide) (by decide) hp12) hZ (hw _ (List.mem_of_getElem? (i := 66) rfl)) (hw _ (List.mem_of_getElem? (i := 65) rfl)) (by decide) (by decide)) (g := (mkF m 155 #[.val (.int p1), .val (.int p2), .val (.int p3), .val (.int p4), .val (.int p5), .val (.ref b1), .val (.int (4 : Int32)), .val (.ref b37_1)] [(.int p5), (.int (4 : Int32)), (.int p3), (.int p2), (.int (5 : Int32)), (.ref b37_1)])) rfl (by rw [hml]; rfl) (argsL := [(.ref b37_1), (.int (5 : Int32)), (.int p2), (.int p3), (.int (4 : Int32)), (.int p5)]) (rest := []) (lenOf pd_7 rfl) rfl (by show 2 * 0 + _ ≤ _; exact Nat.le_of_eq rfl) (hb hby at_155) (fun _ _ => ⟨rfl, e57, (by decide : 5 + 0 ≤ _), (by decide : 53 + 0 ≤ _)⟩)
  dsimp only [Pt.U, Pt.locs, Pt.cells, Pt.slots] at X59 l59 y59 z59 st59 hQ59
  subst l59 y59 z59
  obtain ⟨rfl, Nq59, e59⟩ := hQ59
  have N60 := Fr.app N58 Nq59
  obtain ⟨_, _, ⟨T61, L61, k61, n61⟩, -, X61, ⟨Lc61, hQ61, l61, y61, z61⟩, st61⟩ := Jvm.LawKit.callS X59 hx (y := (⟨"com/example/herald/herald/bytecode/BytesPutU4PinLaw", "ok", "([BIIIII)Z"⟩ : MethodName)) hown (mvT hZ (hw _ (List.mem_of_getElem? (i := 63) rfl))) (mvT hZ (hw _ (List.mem_of_getElem? (i := 64) rfl))) (mvT hZ (hw _ (List.mem_of_getElem? (i := 65) rfl))) (mvT hZ (hw _ (List.mem_of_getElem? (i := 66) rfl))) (by decide) (backOf (W := 0) (rm_okV l Z a0 hw [] b37_1 (6 : Int32) p2 p3 (4 : Int32) p5 k37_2 (8 : Int32) (((((((((((((List.replicate 16 (Value.int (0 : Int32))).set (0 : Int32).toNatClampNeg (.int ((((p2.toUInt32 >>> ((24 : Int32) &&& 31).toUInt32).toInt32).toInt8.toInt32).toInt8.toInt32))).set (1 : Int32).toNatClampNeg (.int ((((p2.toUInt32 >>> ((16 : Int32) &&& 31).toUInt32).toInt32).toInt8.toInt32).toInt8.toInt32))).set (2 : Int32).toNatClampNeg (.int ((((p2.toUInt32 >>> ((8 : Int32) &&& 31).toUInt32).toInt32).toInt8.toInt32).toInt8.toInt32))).set (3 : Int32).toNatClampNeg (.int ((p2.toInt8.toInt32).toInt8.toInt32))).set (4 : Int32).toNatClampNeg (.int ((((p3.toUInt32 >>> ((24 : Int32) &&& 31).toUInt32).toInt32).toInt8.toInt32).toInt8.toInt32))).set (5 : Int32).toNatClampNeg (.int ((((p3.toUInt32 >>> ((16 : Int32) &&& 31).toUInt32).toInt32).toInt8.toInt32).toInt8.toInt32))).set (6 : Int32).toNatClampNeg (.int ((((p3.toUInt32 >>> ((8 : Int32) &&& 31).toUInt32).toInt32).toInt8.toInt32).toInt8.toInt32))).set (7 : Int32).toNatClampNeg (.int ((p3.toInt8.toInt32).toInt8.toInt32))).set (4 : Int32).toNatClampNeg (.int ((((p5.toUInt32 >>> ((24 : Int32) &&& 31).toUInt32).toInt32).toInt8.toInt32).toInt8.toInt32))).set (5 : Int32).toNatClampNeg (.int ((((p5.toUInt32 >>> ((16 : Int32) &&& 31).toUInt32).toInt32).toInt8.toInt32).toInt8.toInt32))).set (6 : Int32).toNatClampNeg (.int ((((p5.toUInt32 >>> ((8 : Int32) &&& 31).toUInt32).toInt32).toInt8.toInt32).toInt8.toInt32))).set (7 : Int32).toNatClampNeg (.int ((p5.toInt8.toInt32).toInt8.toInt32))) T37.heap n0 Zs47 f46 (by decide) (by decide) (by decide) (by decide) hp13) hZ (hw _ (List.mem_of_getElem? (i := 66) rfl)) (hw _ (List.mem_of_getElem? (i := 65) rfl)) (by decide) (by decide)) (g := (mkF m 171 #[.val (.int p1), .val (.int p2), .val (.int p3), .val (.int p4), .val (.int p5), .val (.ref b1), .val (.int (4 : Int32)), .val (.ref b37_1)] [(.int p5), (.int (4 : Int32)), (.int p3), (.int p2), (.int (6 : Int32)), (.ref b37_1)])) rfl (by rw [hml]; rfl) (argsL := [(.ref b37_1), (.int (6 : Int32)), (.int p2), (.int p3), (.int (4 : Int32)), (.int p5)]) (rest := []) (lenOf pd_7 rfl) rfl (by show 2 * 0 + _ ≤ _; exact Nat.le_of_eq rfl) (hb hby at_171) (fun _ _ => ⟨rfl, e59, (by decide : 5 + 0 ≤ _), (by decide : 53 + 0 ≤ _)⟩)
  dsimp only [Pt.U, Pt.locs, Pt.cells, Pt.slots] at X61 l61 y61 z61 st61 hQ61
  subst l61 y61 z61
  obtain ⟨rfl, Nq61, e61⟩ := hQ61
  have N62 := Fr.app N60 Nq61
  obtain ⟨_, _, ⟨T63, L63, k63, n63⟩, -, X63, ⟨Lc63, hQ63, l63, y63, z63⟩, st63⟩ := Jvm.LawKit.callS X61 hx (y := (⟨"com/example/herald/herald/bytecode/BytesPutU4PinLaw", "ok", "([BIIIII)Z"⟩ : MethodName)) hown (mvT hZ (hw _ (List.mem_of_getElem? (i := 63) rfl))) (mvT hZ (hw _ (List.mem_of_getElem? (i := 64) rfl))) (mvT hZ (hw _ (List.mem_of_getElem? (i := 65) rfl))) (mvT hZ (hw _ (List.mem_of_getElem? (i := 66) rfl))) (by decide) (backOf (W := 0) (rm_okV l Z a0 hw [] b37_1 (7 : Int32) p2 p3 (4 : Int32) p5 k37_2 (8 : Int32) (((((((((((((List.replicate 16 (Value.int (0 : Int32))).set (0 : Int32).toNatClampNeg (.int ((((p2.toUInt32 >>> ((24 : Int32) &&& 31).toUInt32).toInt32).toInt8.toInt32).toInt8.toInt32))).set (1 : Int32).toNatClampNeg (.int ((((p2.toUInt32 >>> ((16 : Int32) &&& 31).toUInt32).toInt32).toInt8.toInt32).toInt8.toInt32))).set (2 : Int32).toNatClampNeg (.int ((((p2.toUInt32 >>> ((8 : Int32) &&& 31).toUInt32).toInt32).toInt8.toInt32).toInt8.toInt32))).set (3 : Int32).toNatClampNeg (.int ((p2.toInt8.toInt32).toInt8.toInt32))).set (4 : Int32).toNatClampNeg (.int ((((p3.toUInt32 >>> ((24 : Int32) &&& 31).toUInt32).toInt32).toInt8.toInt32).toInt8.toInt32))).set (5 : Int32).toNatClampNeg (.int ((((p3.toUInt32 >>> ((16 : Int32) &&& 31).toUInt32).toInt32).toInt8.toInt32).toInt8.toInt32))).set (6 : Int32).toNatClampNeg (.int ((((p3.toUInt32 >>> ((8 : Int32) &&& 31).toUInt32).toInt32).toInt8.toInt32).toInt8.toInt32))).set (7 : Int32).toNatClampNeg (.int ((p3.toInt8.toInt32).toInt8.toInt32))).set (4 : Int32).toNatClampNeg (.int ((((p5.toUInt32 >>> ((24 : Int32) &&& 31).toUInt32).toInt32).toInt8.toInt32).toInt8.toInt32))).set (5 : Int32).toNatClampNeg (.int ((((p5.toUInt32 >>> ((16 : Int32) &&& 31).toUInt32).toInt32).toInt8.toInt32).toInt8.toInt32))).set (6 : Int32).toNatClampNeg (.int ((((p5.toUInt32 >>> ((8 : Int32) &&& 31).toUInt32).toInt32).toInt8.toInt32).toInt8.toInt32))).set (7 : Int32).toNatClampNeg (.int ((p5.toInt8.toInt32).toInt8.toInt32))) T37.heap n0 Zs47 f46 (by decide) (by decide) (by decide) (by decide) hp14) hZ (hw _ (List.mem_of_getElem? (i := 66) rfl)) (hw _ (List.mem_of_getElem? (i := 65) rfl)) (by decide) (by decide)) (g := (mkF m 187 #[.val (.int p1), .val (.int p2), .val (.int p3), .val (.int p4), .val (.int p5), .val (.ref b1), .val (.int (4 : Int32)), .val (.ref b37_1)] [(.int p5), (.int (4 : Int32)), (.int p3), (.int p2), (.int (7 : Int32)), (.ref b37_1)])) rfl (by rw [hml]; rfl) (argsL := [(.ref b37_1), (.int (7 : Int32)), (.int p2), (.int p3), (.int (4 : Int32)), (.int p5)]) (rest := []) (lenOf pd_7 rfl) rfl (by show 2 * 0 + _ ≤ _; exact Nat.le_of_eq rfl) (hb hby at_187) (fun _ _ => ⟨rfl, e61, (by decide : 5 + 0 ≤ _), (by decide : 53 + 0 ≤ _)⟩)
  dsimp only [Pt.U, Pt.locs, Pt.cells, Pt.slots] at X63 l63 y63 z63 st63 hQ63
  subst l63 y63 z63
  obtain ⟨rfl, Nq63, e63⟩ := hQ63
  have N64 := Fr.app N62 Nq63
  obtain ⟨fs, hr, hrun, hended, hW, hsame⟩ := X63.leave (v := some (.int (1 : Int32))) (fun h => by rw [Bd.returns] at h; cases h) Bd.notSynchronized
  refine ⟨_, _, pre0 _ ?_, hrun, hended, _, _, rfl, ?_, ⟨_, rfl⟩, hW, hsame.mono (by decide) (by decide)⟩
  · show Steps p.tables e below (s₁.setTop (mkF m 0 #[.val (.int p1), .val (.int p2), .val (.int p3), .val (.int p4), .val (.int p5), .unset, .unset, .unset] [])) _
    refine st1 _ ?_
    show Steps p.tables e below (T1.setTop (mkF m 3 #[.val (.int p1), .val (.int p2), .val (.int p3), .val (.int p4), .val (.int p5), .unset, .unset, .unset] [(.ref b1)])) _
    refine XS.dup X1.here hx rfl (hb hby at_3) rfl rfl ?_
    show Steps p.tables e below (T1.setTop (mkF m 4 #[.val (.int p1), .val (.int p2), .val (.int p3), .val (.int p4), .val (.int p5), .unset, .unset, .unset] [(.ref b1), (.ref b1)])) _
    refine XS.iloadN X1.here hx rfl (hb hby at_4) rfl ?_
    show Steps p.tables e below (T1.setTop (mkF m 5 #[.val (.int p1), .val (.int p2), .val (.int p3), .val (.int p4), .val (.int p5), .unset, .unset, .unset] [(.int p1), (.ref b1), (.ref b1)])) _
    refine XS.bipush X1.here hx rfl (hb hby at_5) ?_
    show Steps p.tables e below (T1.setTop (mkF m 7 #[.val (.int p1), .val (.int p2), .val (.int p3), .val (.int p4), .val (.int p5), .unset, .unset, .unset] [(.int (15 : Int32)), (.int p1), (.ref b1), (.ref b1)])) _
    refine XS.iand X1.here hx rfl (hb hby at_7) rfl ?_
    show Steps p.tables e below (T1.setTop (mkF m 8 #[.val (.int p1), .val (.int p2), .val (.int p3), .val (.int p4), .val (.int p5), .unset, .unset, .unset] [(.int (p1 &&& (15 : Int32))), (.ref b1), (.ref b1)])) _
    refine st5.trans ?_
    show Steps p.tables e below (T5.setTop (mkF m 11 #[.val (.int p1), .val (.int p2), .val (.int p3), .val (.int p4), .val (.int p5), .unset, .unset, .unset] [(.ref b1)])) _
    refine XS.astore X5.here hx rfl (hb hby at_11) rfl rfl (l' := #[.val (.int p1), .val (.int p2), .val (.int p3), .val (.int p4), .val (.int p5), .val (.ref b1), .unset, .unset]) rfl ?_
    show Steps p.tables e below (T5.setTop (mkF m 13 #[.val (.int p1), .val (.int p2), .val (.int p3), .val (.int p4), .val (.int p5), .val (.ref b1), .unset, .unset] [])) _
    refine XS.aload X5.here hx rfl (hb hby at_13) rfl rfl ?_
    show Steps p.tables e below (T5.setTop (mkF m 15 #[.val (.int p1), .val (.int p2), .val (.int p3), .val (.int p4), .val (.int p5), .val (.ref b1), .unset, .unset] [(.ref b1)])) _
    refine XS.iloadN X5.here hx rfl (hb hby at_15) rfl ?_
    show Steps p.tables e below (T5.setTop (mkF m 16 #[.val (.int p1), .val (.int p2), .val (.int p3), .val (.int p4), .val (.int p5), .val (.ref b1), .unset, .unset] [(.int p2), (.ref b1)])) _
    refine st11.trans ?_
    show Steps p.tables e below (T11.setTop (mkF m 19 #[.val (.int p1), .val (.int p2), .val (.int p3), .val (.int p4), .val (.int p5), .val (.ref b1), .unset, .unset] [])) _
    refine XS.aload X11.here hx rfl (hb hby at_19) rfl rfl ?_
    show Steps p.tables e below (T11.setTop (mkF m 21 #[.val (.int p1), .val (.int p2), .val (.int p3), .val (.int p4), .val (.int p5), .val (.ref b1), .unset, .unset] [(.ref b1)])) _
    refine XS.iloadN X11.here hx rfl (hb hby at_21) rfl ?_
    show Steps p.tables e below (T11.setTop (mkF m 22 #[.val (.int p1), .val (.int p2), .val (.int p3), .val (.int p4), .val (.int p5), .val (.ref b1), .unset, .unset] [(.int p3), (.ref b1)])) _
    refine st18.trans ?_
    show Steps p.tables e below (T18.setTop (mkF m 25 #[.val (.int p1), .val (.int p2), .val (.int p3), .val (.int p4), .val (.int p5), .val (.ref b1), .unset, .unset] [])) _
    refine XS.iloadN X18.here hx rfl (hb hby at_25) rfl ?_
    show Steps p.tables e below (T18.setTop (mkF m 26 #[.val (.int p1), .val (.int p2), .val (.int p3), .val (.int p4), .val (.int p5), .val (.ref b1), .unset, .unset] [(.int p4)])) _
    refine X18.ldcInt hx hown (mvT hZ (hw _ (List.mem_of_getElem? (i := 38) rfl))) (g := (mkF m 26 #[.val (.int p1), .val (.int p2), .val (.int p3), .val (.int p4), .val (.int p5), .val (.ref b1), .unset, .unset] [(.int p4)])) rfl (hb hby at_26) _ ?_
    show Steps p.tables e below (T18.setTop (mkF m 28 #[.val (.int p1), .val (.int p2), .val (.int p3), .val (.int p4), .val (.int p5), .val (.ref b1), .unset, .unset] [(.int (2147483647 : Int32)), (.int p4)])) _
    refine XS.iand X18.here hx rfl (hb hby at_28) rfl ?_
    show Steps p.tables e below (T18.setTop (mkF m 29 #[.val (.int p1), .val (.int p2), .val (.int p3), .val (.int p4), .val (.int p5), .val (.ref b1), .unset, .unset] [(.int (p4 &&& (2147483647 : Int32)))])) _
    refine XS.iconst X18.here hx rfl (hb hby at_29) ?_
    show Steps p.tables e below (T18.setTop (mkF m 30 #[.val (.int p1), .val (.int p2), .val (.int p3), .val (.int p4), .val (.int p5), .val (.ref b1), .unset, .unset] [(.int (5 : Int32)), (.int (p4 &&& (2147483647 : Int32)))])) _
    refine iremM X18 hx rfl (hb hby at_30) rfl (by decide) ?_
    show Steps p.tables e below (T18.setTop (mkF m 31 #[.val (.int p1), .val (.int p2), .val (.int p3), .val (.int p4), .val (.int p5), .val (.ref b1), .unset, .unset] [(.int ((p4 &&& (2147483647 : Int32)) % (5 : Int32)))])) _
    refine XS.istore X18.here hx rfl (hb hby at_31) rfl (l' := #[.val (.int p1), .val (.int p2), .val (.int p3), .val (.int p4), .val (.int p5), .val (.ref b1), .val (.int ((p4 &&& (2147483647 : Int32)) % (5 : Int32))), .unset]) rfl ?_
    show Steps p.tables e below (T18.setTop (mkF m 33 #[.val (.int p1), .val (.int p2), .val (.int p3), .val (.int p4), .val (.int p5), .val (.ref b1), .val (.int ((p4 &&& (2147483647 : Int32)) % (5 : Int32))), .unset] [])) _
    rw [hw_5]
    show Steps p.tables e below (T18.setTop (mkF m 33 #[.val (.int p1), .val (.int p2), .val (.int p3), .val (.int p4), .val (.int p5), .val (.ref b1), .val (.int (4 : Int32)), .unset] [])) _
    refine XS.aload X18.here hx rfl (hb hby at_33) rfl rfl ?_
    show Steps p.tables e below (T18.setTop (mkF m 35 #[.val (.int p1), .val (.int p2), .val (.int p3), .val (.int p4), .val (.int p5), .val (.ref b1), .val (.int (4 : Int32)), .unset] [(.ref b1)])) _
    refine XS.iload X18.here hx rfl (hb hby at_35) rfl ?_
    show Steps p.tables e below (T18.setTop (mkF m 37 #[.val (.int p1), .val (.int p2), .val (.int p3), .val (.int p4), .val (.int p5), .val (.ref b1), .val (.int (4 : Int32)), .unset] [(.int (4 : Int32)), (.ref b1)])) _
    refine XS.iload X18.here hx rfl (hb hby at_37) rfl ?_
    show Steps p.tables e below (T18.setTop (mkF m 39 #[.val (.int p1), .val (.int p2), .val (.int p3), .val (.int p4), .val (.int p5), .val (.ref b1), .val (.int (4 : Int32)), .unset] [(.int p5), (.int (4 : Int32)), (.ref b1)])) _
    refine st26.trans ?_
    show Steps p.tables e below (T26.setTop (mkF m 42 #[.val (.int p1), .val (.int p2), .val (.int p3), .val (.int p4), .val (.int p5), .val (.ref b1), .val (.int (4 : Int32)), .unset] [])) _
    refine XS.aload X26.here hx rfl (hb hby at_42) rfl rfl ?_
    show Steps p.tables e below (T26.setTop (mkF m 44 #[.val (.int p1), .val (.int p2), .val (.int p3), .val (.int p4), .val (.int p5), .val (.ref b1), .val (.int (4 : Int32)), .unset] [(.ref b1)])) _
    refine st35.trans ?_
    show Steps p.tables e below (T35.setTop (mkF m 47 #[.val (.int p1), .val (.int p2), .val (.int p3), .val (.int p4), .val (.int p5), .val (.ref b1), .val (.int (4 : Int32)), .unset] [(.int (8 : Int32))])) _
    refine XS.bipush X35.here hx rfl (hb hby at_47) ?_
    show Steps p.tables e below (T35.setTop (mkF m 49 #[.val (.int p1), .val (.int p2), .val (.int p3), .val (.int p4), .val (.int p5), .val (.ref b1), .val (.int (4 : Int32)), .unset] [(.int (8 : Int32)), (.int (8 : Int32))])) _
    refine XS.icmpYes X35.here hx rfl (pc0 := 49) (pc' := 54) rfl (hb hby at_49) rfl (teq (by decide : (8 : Int32) = (8 : Int32))).1 (by decide) (by decide) ?_
    show Steps p.tables e below (T35.setTop (mkF m 54 #[.val (.int p1), .val (.int p2), .val (.int p3), .val (.int p4), .val (.int p5), .val (.ref b1), .val (.int (4 : Int32)), .unset] [])) _
    refine XS.aload X35.here hx rfl (hb hby at_54) rfl rfl ?_
    show Steps p.tables e below (T35.setTop (mkF m 56 #[.val (.int p1), .val (.int p2), .val (.int p3), .val (.int p4), .val (.int p5), .val (.ref b1), .val (.int (4 : Int32)), .unset] [(.ref b1)])) _
    refine st37.trans ?_
    show Steps p.tables e below (T37.setTop (mkF m 59 #[.val (.int p1), .val (.int p2), .val (.int p3), .val (.int p4), .val (.int p5), .val (.ref b1), .val (.int (4 : Int32)), .unset] [(.ref b37_1)])) _
    refine XS.astore X37.here hx rfl (hb hby at_59) rfl rfl (l' := #[.val (.int p1), .val (.int p2), .val (.int p3), .val (.int p4), .val (.int p5), .val (.ref b1), .val (.int (4 : Int32)), .val (.ref b37_1)]) rfl ?_
    show Steps p.tables e below (T37.setTop (mkF m 61 #[.val (.int p1), .val (.int p2), .val (.int p3), .val (.int p4), .val (.int p5), .val (.ref b1), .val (.int (4 : Int32)), .val (.ref b37_1)] [])) _
    refine XS.aload X37.here hx rfl (hb hby at_61) rfl rfl ?_
    show Steps p.tables e below (T37.setTop (mkF m 63 #[.val (.int p1), .val (.int p2), .val (.int p3), .val (.int p4), .val (.int p5), .val (.ref b1), .val (.int (4 : Int32)), .val (.ref b37_1)] [(.ref b37_1)])) _
    refine X37.arraylength hx Aro48.1 (State.isArrayOf_alike hZ.alike Aro48.2.1) (g := (mkF m 63 #[.val (.int p1), .val (.int p2), .val (.int p3), .val (.int p4), .val (.int p5), .val (.ref b1), .val (.int (4 : Int32)), .val (.ref b37_1)] [(.ref b37_1)])) rfl rfl (hb hby at_63) _ ?_
    rw [len_of So48 No48]
    show Steps p.tables e below (T37.setTop (mkF m 64 #[.val (.int p1), .val (.int p2), .val (.int p3), .val (.int p4), .val (.int p5), .val (.ref b1), .val (.int (4 : Int32)), .val (.ref b37_1)] [(.int (8 : Int32))])) _
    refine XS.bipush X37.here hx rfl (hb hby at_64) ?_
    show Steps p.tables e below (T37.setTop (mkF m 66 #[.val (.int p1), .val (.int p2), .val (.int p3), .val (.int p4), .val (.int p5), .val (.ref b1), .val (.int (4 : Int32)), .val (.ref b37_1)] [(.int (8 : Int32)), (.int (8 : Int32))])) _
    refine XS.icmpYes X37.here hx rfl (pc0 := 66) (pc' := 71) rfl (hb hby at_66) rfl (teq (by decide : (8 : Int32) = (8 : Int32))).1 (by decide) (by decide) ?_
    show Steps p.tables e below (T37.setTop (mkF m 71 #[.val (.int p1), .val (.int p2), .val (.int p3), .val (.int p4), .val (.int p5), .val (.ref b1), .val (.int (4 : Int32)), .val (.ref b37_1)] [])) _
    refine XS.aload X37.here hx rfl (hb hby at_71) rfl rfl ?_
    show Steps p.tables e below (T37.setTop (mkF m 73 #[.val (.int p1), .val (.int p2), .val (.int p3), .val (.int p4), .val (.int p5), .val (.ref b1), .val (.int (4 : Int32)), .val (.ref b37_1)] [(.ref b37_1)])) _
    refine XS.iconst X37.here hx rfl (hb hby at_73) ?_
    show Steps p.tables e below (T37.setTop (mkF m 74 #[.val (.int p1), .val (.int p2), .val (.int p3), .val (.int p4), .val (.int p5), .val (.ref b1), .val (.int (4 : Int32)), .val (.ref b37_1)] [(.int (0 : Int32)), (.ref b37_1)])) _
    refine XS.iloadN X37.here hx rfl (hb hby at_74) rfl ?_
    show Steps p.tables e below (T37.setTop (mkF m 75 #[.val (.int p1), .val (.int p2), .val (.int p3), .val (.int p4), .val (.int p5), .val (.ref b1), .val (.int (4 : Int32)), .val (.ref b37_1)] [(.int p2), (.int (0 : Int32)), (.ref b37_1)])) _
    refine XS.iloadN X37.here hx rfl (hb hby at_75) rfl ?_
    show Steps p.tables e below (T37.setTop (mkF m 76 #[.val (.int p1), .val (.int p2), .val (.int p3), .val (.int p4), .val (.int p5), .val (.ref b1), .val (.int (4 : Int32)), .val (.ref b37_1)] [(.int p3), (.int p2), (.int (0 : Int32)), (.ref b37_1)])) _
    refine XS.iload X37.here hx rfl (hb hby at_76) rfl ?_
    show Steps p.tables e below (T37.setTop (mkF m 78 #[.val (.int p1), .val (.int p2), .val (.int p3), .val (.int p4), .val (.int p5), .val (.ref b1), .val (.int (4 : Int32)), .val (.ref b37_1)] [(.int (4 : Int32)), (.int p3), (.int p2), (.int (0 : Int32)), (.ref b37_1)])) _
    refine XS.iload X37.here hx rfl (hb hby at_78) rfl ?_
    show Steps p.tables e below (T37.setTop (mkF m 80 #[.val (.int p1), .val (.int p2), .val (.int p3), .val (.int p4), .val (.int p5), .val (.ref b1), .val (.int (4 : Int32)), .val (.ref b37_1)] [(.int p5), (.int (4 : Int32)), (.int p3), (.int p2), (.int (0 : Int32)), (.ref b37_1)])) _
    refine st49 _ ?_
    show Steps p.tables e below (T49.setTop (mkF m 83 #[.val (.int p1), .val (.int p2), .val (.int p3), .val (.int p4), .val (.int p5), .val (.ref b1), .val (.int (4 : Int32)), .val (.ref b37_1)] [(.int (1 : Int32))])) _
    refine XS.ifNo X49.here hx rfl (hb hby at_83) rfl ((if0 _ _).trans (feq (by decide : ¬ ((1 : Int32) = (0 : Int32)))).1) ?_
    show Steps p.tables e below (T49.setTop (mkF m 86 #[.val (.int p1), .val (.int p2), .val (.int p3), .val (.int p4), .val (.int p5), .val (.ref b1), .val (.int (4 : Int32)), .val (.ref b37_1)] [])) _
    refine XS.aload X49.here hx rfl (hb hby at_86) rfl rfl ?_
    show Steps p.tables e below (T49.setTop (mkF m 88 #[.val (.int p1), .val (.int p2), .val (.int p3), .val (.int p4), .val (.int p5), .val (.ref b1), .val (.int (4 : Int32)), .val (.ref b37_1)] [(.ref b37_1)])) _
    refine XS.iconst X49.here hx rfl (hb hby at_88) ?_
    show Steps p.tables e below (T49.setTop (mkF m 89 #[.val (.int p1), .val (.int p2), .val (.int p3), .val (.int p4), .val (.int p5), .val (.ref b1), .val (.int (4 : Int32)), .val (.ref b37_1)] [(.int (1 : Int32)), (.ref b37_1)])) _
    refine XS.iloadN X49.here hx rfl (hb hby at_89) rfl ?_
    show Steps p.tables e below (T49.setTop (mkF m 90 #[.val (.int p1), .val (.int p2), .val (.int p3), .val (.int p4), .val (.int p5), .val (.ref b1), .val (.int (4 : Int32)), .val (.ref b37_1)] [(.int p2), (.int (1 : Int32)), (.ref b37_1)])) _
    refine XS.iloadN X49.here hx rfl (hb hby at_90) rfl ?_
    show Steps p.tables e below (T49.setTop (mkF m 91 #[.val (.int p1), .val (.int p2), .val (.int p3), .val (.int p4), .val (.int p5), .val (.ref b1), .val (.int (4 : Int32)), .val (.ref b37_1)] [(.int p3), (.int p2), (.int (1 : Int32)), (.ref b37_1)])) _
    refine XS.iload X49.here hx rfl (hb hby at_91) rfl ?_
    show Steps p.tables e below (T49.setTop (mkF m 93 #[.val (.int p1), .val (.int p2), .val (.int p3), .val (.int p4), .val (.int p5), .val (.ref b1), .val (.int (4 : Int32)), .val (.ref b37_1)] [(.int (4 : Int32)), (.int p3), (.int p2), (.int (1 : Int32)), (.ref b37_1)])) _
    refine XS.iload X49.here hx rfl (hb hby at_93) rfl ?_
    show Steps p.tables e below (T49.setTop (mkF m 95 #[.val (.int p1), .val (.int p2), .val (.int p3), .val (.int p4), .val (.int p5), .val (.ref b1), .val (.int (4 : Int32)), .val (.ref b37_1)] [(.int p5), (.int (4 : Int32)), (.int p3), (.int p2), (.int (1 : Int32)), (.ref b37_1)])) _
    refine st51 _ ?_
    show Steps p.tables e below (T51.setTop (mkF m 98 #[.val (.int p1), .val (.int p2), .val (.int p3), .val (.int p4), .val (.int p5), .val (.ref b1), .val (.int (4 : Int32)), .val (.ref b37_1)] [(.int (1 : Int32))])) _
    refine XS.ifNo X51.here hx rfl (hb hby at_98) rfl ((if0 _ _).trans (feq (by decide : ¬ ((1 : Int32) = (0 : Int32)))).1) ?_
    show Steps p.tables e below (T51.setTop (mkF m 101 #[.val (.int p1), .val (.int p2), .val (.int p3), .val (.int p4), .val (.int p5), .val (.ref b1), .val (.int (4 : Int32)), .val (.ref b37_1)] [])) _
    refine XS.aload X51.here hx rfl (hb hby at_101) rfl rfl ?_
    show Steps p.tables e below (T51.setTop (mkF m 103 #[.val (.int p1), .val (.int p2), .val (.int p3), .val (.int p4), .val (.int p5), .val (.ref b1), .val (.int (4 : Int32)), .val (.ref b37_1)] [(.ref b37_1)])) _
    refine XS.iconst X51.here hx rfl (hb hby at_103) ?_
    show Steps p.tables e below (T51.setTop (mkF m 104 #[.val (.int p1), .val (.int p2), .val (.int p3), .val (.int p4), .val (.int p5), .val (.ref b1), .val (.int (4 : Int32)), .val (.ref b37_1)] [(.int (2 : Int32)), (.ref b37_1)])) _
    refine XS.iloadN X51.here hx rfl (hb hby at_104) rfl ?_
    show Steps p.tables e below (T51.setTop (mkF m 105 #[.val (.int p1), .val (.int p2), .val (.int p3), .val (.int p4), .val (.int p5), .val (.ref b1), .val (.int (4 : Int32)), .val (.ref b37_1)] [(.int p2), (.int (2 : Int32)), (.ref b37_1)])) _
    refine XS.iloadN X51.here hx rfl (hb hby at_105) rfl ?_
    show Steps p.tables e below (T51.setTop (mkF m 106 #[.val (.int p1), .val (.int p2), .val (.int p3), .val (.int p4), .val (.int p5), .val (.ref b1), .val (.int (4 : Int32)), .val (.ref b37_1)] [(.int p3), (.int p2), (.int (2 : Int32)), (.ref b37_1)])) _
    refine XS.iload X51.here hx rfl (hb hby at_106) rfl ?_
    show Steps p.tables e below (T51.setTop (mkF m 108 #[.val (.int p1), .val (.int p2), .val (.int p3), .val (.int p4), .val (.int p5), .val (.ref b1), .val (.int (4 : Int32)), .val (.ref b37_1)] [(.int (4 : Int32)), (.int p3), (.int p2), (.int (2 : Int32)), (.ref b37_1)])) _
    refine XS.iload X51.here hx rfl (hb hby at_108) rfl ?_
    show Steps p.tables e below (T51.setTop (mkF m 110 #[.val (.int p1), .val (.int p2), .val (.int p3), .val (.int p4), .val (.int p5), .val (.ref b1), .val (.int (4 : Int32)), .val (.ref b37_1)] [(.int p5), (.int (4 : Int32)), (.int p3), (.int p2), (.int (2 : Int32)), (.ref b37_1)])) _
    refine st53 _ ?_
    show Steps p.tables e below (T53.setTop (mkF m 113 #[.val (.int p1), .val (.int p2), .val (.int p3), .val (.int p4), .val (.int p5), .val (.ref b1), .val (.int (4 : Int32)), .val (.ref b37_1)] [(.int (1 : Int32))])) _
    refine XS.ifNo X53.here hx rfl (hb hby at_113) rfl ((if0 _ _).trans (feq (by decide : ¬ ((1 : Int32) = (0 : Int32)))).1) ?_
    show Steps p.tables e below (T53.setTop (mkF m 116 #[.val (.int p1), .val (.int p2), .val (.int p3), .val (.int p4), .val (.int p5), .val (.ref b1), .val (.int (4 : Int32)), .val (.ref b37_1)] [])) _
    refine XS.aload X53.here hx rfl (hb hby at_116) rfl rfl ?_
    show Steps p.tables e below (T53.setTop (mkF m 118 #[.val (.int p1), .val (.int p2), .val (.int p3), .val (.int p4), .val (.int p5), .val (.ref b1), .val (.int (4 : Int32)), .val (.ref b37_1)] [(.ref b37_1)])) _
    refine XS.iconst X53.here hx rfl (hb hby at_118) ?_
    show Steps p.tables e below (T53.setTop (mkF m 119 #[.val (.int p1), .val (.int p2), .val (.int p3), .val (.int p4), .val (.int p5), .val (.ref b1), .val (.int (4 : Int32)), .val (.ref b37_1)] [(.int (3 : Int32)), (.ref b37_1)])) _
    refine XS.iloadN X53.here hx rfl (hb hby at_119) rfl ?_
    show Steps p.tables e below (T53.setTop (mkF m 120 #[.val (.int p1), .val (.int p2), .val (.int p3), .val (.int p4), .val (.int p5), .val (.ref b1), .val (.int (4 : Int32)), .val (.ref b37_1)] [(.int p2), (.int (3 : Int32)), (.ref b37_1)])) _
    refine XS.iloadN X53.here hx rfl (hb hby at_120) rfl ?_
    show Steps p.tables e below (T53.setTop (mkF m 121 #[.val (.int p1), .val (.int p2), .val (.int p3), .val (.int p4), .val (.int p5), .val (.ref b1), .val (.int (4 : Int32)), .val (.ref b37_1)] [(.int p3), (.int p2), (.int (3 : Int32)), (.ref b37_1)])) _
    refine XS.iload X53.here hx rfl (hb hby at_121) rfl ?_
    show Steps p.tables e below (T53.setTop (mkF m 123 #[.val (.int p1), .val (.int p2), .val (.int p3), .val (.int p4), .val (.int p5), .val (.ref b1), .val (.int (4 : Int32)), .val (.ref b37_1)] [(.int (4 : Int32)), (.int p3), (.int p2), (.int (3 : Int32)), (.ref b37_1)])) _
    refine XS.iload X53.here hx rfl (hb hby at_123) rfl ?_
    show Steps p.tables e below (T53.setTop (mkF m 125 #[.val (.int p1), .val (.int p2), .val (.int p3), .val (.int p4), .val (.int p5), .val (.ref b1), .val (.int (4 : Int32)), .val (.ref b37_1)] [(.int p5), (.int (4 : Int32)), (.int p3), (.int p2), (.int (3 : Int32)), (.ref b37_1)])) _
    refine st55 _ ?_
    show Steps p.tables e below (T55.setTop (mkF m 128 #[.val (.int p1), .val (.int p2), .val (.int p3), .val (.int p4), .val (.int p5), .val (.ref b1), .val (.int (4 : Int32)), .val (.ref b37_1)] [(.int (1 : Int32))])) _
    refine XS.ifNo X55.here hx rfl (hb hby at_128) rfl ((if0 _ _).trans (feq (by decide : ¬ ((1 : Int32) = (0 : Int32)))).1) ?_
    show Steps p.tables e below (T55.setTop (mkF m 131 #[.val (.int p1), .val (.int p2), .val (.int p3), .val (.int p4), .val (.int p5), .val (.ref b1), .val (.int (4 : Int32)), .val (.ref b37_1)] [])) _
    refine XS.aload X55.here hx rfl (hb hby at_131) rfl rfl ?_
    show Steps p.tables e below (T55.setTop (mkF m 133 #[.val (.int p1), .val (.int p2), .val (.int p3), .val (.int p4), .val (.int p5), .val (.ref b1), .val (.int (4 : Int32)), .val (.ref b37_1)] [(.ref b37_1)])) _
    refine XS.iconst X55.here hx rfl (hb hby at_133) ?_
    show Steps p.tables e below (T55.setTop (mkF m 134 #[.val (.int p1), .val (.int p2), .val (.int p3), .val (.int p4), .val (.int p5), .val (.ref b1), .val (.int (4 : Int32)), .val (.ref b37_1)] [(.int (4 : Int32)), (.ref b37_1)])) _
    refine XS.iloadN X55.here hx rfl (hb hby at_134) rfl ?_
    show Steps p.tables e below (T55.setTop (mkF m 135 #[.val (.int p1), .val (.int p2), .val (.int p3), .val (.int p4), .val (.int p5), .val (.ref b1), .val (.int (4 : Int32)), .val (.ref b37_1)] [(.int p2), (.int (4 : Int32)), (.ref b37_1)])) _
    refine XS.iloadN X55.here hx rfl (hb hby at_135) rfl ?_
    show Steps p.tables e below (T55.setTop (mkF m 136 #[.val (.int p1), .val (.int p2), .val (.int p3), .val (.int p4), .val (.int p5), .val (.ref b1), .val (.int (4 : Int32)), .val (.ref b37_1)] [(.int p3), (.int p2), (.int (4 : Int32)), (.ref b37_1)])) _
    refine XS.iload X55.here hx rfl (hb hby at_136) rfl ?_
    show Steps p.tables e below (T55.setTop (mkF m 138 #[.val (.int p1), .val (.int p2), .val (.int p3), .val (.int p4), .val (.int p5), .val (.ref b1), .val (.int (4 : Int32)), .val (.ref b37_1)] [(.int (4 : Int32)), (.int p3), (.int p2), (.int (4 : Int32)), (.ref b37_1)])) _
    refine XS.iload X55.here hx rfl (hb hby at_138) rfl ?_
    show Steps p.tables e below (T55.setTop (mkF m 140 #[.val (.int p1), .val (.int p2), .val (.int p3), .val (.int p4), .val (.int p5), .val (.ref b1), .val (.int (4 : Int32)), .val (.ref b37_1)] [(.int p5), (.int (4 : Int32)), (.int p3), (.int p2), (.int (4 : Int32)), (.ref b37_1)])) _
    refine st57 _ ?_
    show Steps p.tables e below (T57.setTop (mkF m 143 #[.val (.int p1), .val (.int p2), .val (.int p3), .val (.int p4), .val (.int p5), .val (.ref b1), .val (.int (4 : Int32)), .val (.ref b37_1)] [(.int (1 : Int32))])) _
    refine XS.ifNo X57.here hx rfl (hb hby at_143) rfl ((if0 _ _).trans (feq (by decide : ¬ ((1 : Int32) = (0 : Int32)))).1) ?_
    show Steps p.tables e below (T57.setTop (mkF m 146 #[.val (.int p1), .val (.int p2), .val (.int p3), .val (.int p4), .val (.int p5), .val (.ref b1), .val (.int (4 : Int32)), .val (.ref b37_1)] [])) _
    refine XS.aload X57.here hx rfl (hb hby at_146) rfl rfl ?_
    show Steps p.tables e below (T57.setTop (mkF m 148 #[.val (.int p1), .val (.int p2), .val (.int p3), .val (.int p4), .val (.int p5), .val (.ref b1), .val (.int (4 : Int32)), .val (.ref b37_1)] [(.ref b37_1)])) _
    refine XS.iconst X57.here hx rfl (hb hby at_148) ?_
    show Steps p.tables e below (T57.setTop (mkF m 149 #[.val (.int p1), .val (.int p2), .val (.int p3), .val (.int p4), .val (.int p5), .val (.ref b1), .val (.int (4 : Int32)), .val (.ref b37_1)] [(.int (5 : Int32)), (.ref b37_1)])) _
    refine XS.iloadN X57.here hx rfl (hb hby at_149) rfl ?_
    show Steps p.tables e below (T57.setTop (mkF m 150 #[.val (.int p1), .val (.int p2), .val (.int p3), .val (.int p4), .val (.int p5), .val (.ref b1), .val (.int (4 : Int32)), .val (.ref b37_1)] [(.int p2), (.int (5 : Int32)), (.ref b37_1)])) _
    refine XS.iloadN X57.here hx rfl (hb hby at_150) rfl ?_
    show Steps p.tables e below (T57.setTop (mkF m 151 #[.val (.int p1), .val (.int p2), .val (.int p3), .val (.int p4), .val (.int p5), .val (.ref b1), .val (.int (4 : Int32)), .val (.ref b37_1)] [(.int p3), (.int p2), (.int (5 : Int32)), (.ref b37_1)])) _
    refine XS.iload X57.here hx rfl (hb hby at_151) rfl ?_
    show Steps p.tables e below (T57.setTop (mkF m 153 #[.val (.int p1), .val (.int p2), .val (.int p3), .val (.int p4), .val (.int p5), .val (.ref b1), .val (.int (4 : Int32)), .val (.ref b37_1)] [(.int (4 : Int32)), (.int p3), (.int p2), (.int (5 : Int32)), (.ref b37_1)])) _
    refine XS.iload X57.here hx rfl (hb hby at_153) rfl ?_
    show Steps p.tables e below (T57.setTop (mkF m 155 #[.val (.int p1), .val (.int p2), .val (.int p3), .val (.int p4), .val (.int p5), .val (.ref b1), .val (.int (4 : Int32)), .val (.ref b37_1)] [(.int p5), (.int (4 : Int32)), (.int p3), (.int p2), (.int (5 : Int32)), (.ref b37_1)])) _
    refine st59 _ ?_
    show Steps p.tables e below (T59.setTop (mkF m 158 #[.val (.int p1), .val (.int p2), .val (.int p3), .val (.int p4), .val (.int p5), .val (.ref b1), .val (.int (4 : Int32)), .val (.ref b37_1)] [(.int (1 : Int32))])) _
    refine XS.ifNo X59.here hx rfl (hb hby at_158) rfl ((if0 _ _).trans (feq (by decide : ¬ ((1 : Int32) = (0 : Int32)))).1) ?_
    show Steps p.tables e below (T59.setTop (mkF m 161 #[.val (.int p1), .val (.int p2), .val (.int p3), .val (.int p4), .val (.int p5), .val (.ref b1), .val (.int (4 : Int32)), .val (.ref b37_1)] [])) _
    refine XS.aload X59.here hx rfl (hb hby at_161) rfl rfl ?_
    show Steps p.tables e below (T59.setTop (mkF m 163 #[.val (.int p1), .val (.int p2), .val (.int p3), .val (.int p4), .val (.int p5), .val (.ref b1), .val (.int (4 : Int32)), .val (.ref b37_1)] [(.ref b37_1)])) _
    refine XS.bipush X59.here hx rfl (hb hby at_163) ?_
    show Steps p.tables e below (T59.setTop (mkF m 165 #[.val (.int p1), .val (.int p2), .val (.int p3), .val (.int p4), .val (.int p5), .val (.ref b1), .val (.int (4 : Int32)), .val (.ref b37_1)] [(.int (6 : Int32)), (.ref b37_1)])) _
    refine XS.iloadN X59.here hx rfl (hb hby at_165) rfl ?_
    show Steps p.tables e below (T59.setTop (mkF m 166 #[.val (.int p1), .val (.int p2), .val (.int p3), .val (.int p4), .val (.int p5), .val (.ref b1), .val (.int (4 : Int32)), .val (.ref b37_1)] [(.int p2), (.int (6 : Int32)), (.ref b37_1)])) _
    refine XS.iloadN X59.here hx rfl (hb hby at_166) rfl ?_
    show Steps p.tables e below (T59.setTop (mkF m 167 #[.val (.int p1), .val (.int p2), .val (.int p3), .val (.int p4), .val (.int p5), .val (.ref b1), .val (.int (4 : Int32)), .val (.ref b37_1)] [(.int p3), (.int p2), (.int (6 : Int32)), (.ref b37_1)])) _
    refine XS.iload X59.here hx rfl (hb hby at_167) rfl ?_
    show Steps p.tables e below (T59.setTop (mkF m 169 #[.val (.int p1), .val (.int p2), .val (.int p3), .val (.int p4), .val (.int p5), .val (.ref b1), .val (.int (4 : Int32)), .val (.ref b37_1)] [(.int (4 : Int32)), (.int p3), (.int p2), (.int (6 : Int32)), (.ref b37_1)])) _
    refine XS.iload X59.here hx rfl (hb hby at_169) rfl ?_
    show Steps p.tables e below (T59.setTop (mkF m 171 #[.val (.int p1), .val (.int p2), .val (.int p3), .val (.int p4), .val (.int p5), .val (.ref b1), .val (.int (4 : Int32)), .val (.ref b37_1)] [(.int p5), (.int (4 : Int32)), (.int p3), (.int p2), (.int (6 : Int32)), (.ref b37_1)])) _
    refine st61 _ ?_
    show Steps p.tables e below (T61.setTop (mkF m 174 #[.val (.int p1), .val (.int p2), .val (.int p3), .val (.int p4), .val (.int p5), .val (.ref b1), .val (.int (4 : Int32)), .val (.ref b37_1)] [(.int (1 : Int32))])) _
    refine XS.ifNo X61.here hx rfl (hb hby at_174) rfl ((if0 _ _).trans (feq (by decide : ¬ ((1 : Int32) = (0 : Int32)))).1) ?_
    show Steps p.tables e below (T61.setTop (mkF m 177 #[.val (.int p1), .val (.int p2), .val (.int p3), .val (.int p4), .val (.int p5), .val (.ref b1), .val (.int (4 : Int32)), .val (.ref b37_1)] [])) _
    refine XS.aload X61.here hx rfl (hb hby at_177) rfl rfl ?_
    show Steps p.tables e below (T61.setTop (mkF m 179 #[.val (.int p1), .val (.int p2), .val (.int p3), .val (.int p4), .val (.int p5), .val (.ref b1), .val (.int (4 : Int32)), .val (.ref b37_1)] [(.ref b37_1)])) _
    refine XS.bipush X61.here hx rfl (hb hby at_179) ?_
    show Steps p.tables e below (T61.setTop (mkF m 181 #[.val (.int p1), .val (.int p2), .val (.int p3), .val (.int p4), .val (.int p5), .val (.ref b1), .val (.int (4 : Int32)), .val (.ref b37_1)] [(.int (7 : Int32)), (.ref b37_1)])) _
    refine XS.iloadN X61.here hx rfl (hb hby at_181) rfl ?_
    show Steps p.tables e below (T61.setTop (mkF m 182 #[.val (.int p1), .val (.int p2), .val (.int p3), .val (.int p4), .val (.int p5), .val (.ref b1), .val (.int (4 : Int32)), .val (.ref b37_1)] [(.int p2), (.int (7 : Int32)), (.ref b37_1)])) _
    refine XS.iloadN X61.here hx rfl (hb hby at_182) rfl ?_
    show Steps p.tables e below (T61.setTop (mkF m 183 #[.val (.int p1), .val (.int p2), .val (.int p3), .val (.int p4), .val (.int p5), .val (.ref b1), .val (.int (4 : Int32)), .val (.ref b37_1)] [(.int p3), (.int p2), (.int (7 : Int32)), (.ref b37_1)])) _
    refine XS.iload X61.here hx rfl (hb hby at_183) rfl ?_
    show Steps p.tables e below (T61.setTop (mkF m 185 #[.val (.int p1), .val (.int p2), .val (.int p3), .val (.int p4), .val (.int p5), .val (.ref b1), .val (.int (4 : Int32)), .val (.ref b37_1)] [(.int (4 : Int32)), (.int p3), (.int p2), (.int (7 : Int32)), (.ref b37_1)])) _
    refine XS.iload X61.here hx rfl (hb hby at_185) rfl ?_
    show Steps p.tables e below (T61.setTop (mkF m 187 #[.val (.int p1), .val (.int p2), .val (.int p3), .val (.int p4), .val (.int p5), .val (.ref b1), .val (.int (4 : Int32)), .val (.ref b37_1)] [(.int p5), (.int (4 : Int32)), (.int p3), (.int p2), (.int (7 : Int32)), (.ref b37_1)])) _
    refine st63 _ ?_
    show Steps p.tables e below (T63.setTop (mkF m 190 #[.val (.int p1), .val (.int p2), .val (.int p3), .val (.int p4), .val (.int p5), .val (.ref b1), .val (.int (4 : Int32)), .val (.ref b37_1)] [(.int (1 : Int32))])) _
    refine XS.ifNo X63.here hx rfl (hb hby at_190) rfl ((if0 _ _).trans (feq (by decide : ¬ ((1 : Int32) = (0 : Int32)))).1) ?_
    show Steps p.tables e below (T63.setTop (mkF m 193 #[.val (.int p1), .val (.int p2), .val (.int p3), .val (.int p4), .val (.int p5), .val (.ref b1), .val (.int (4 : Int32)), .val (.ref b37_1)] [])) _
    refine XS.iconst X63.here hx rfl (hb hby at_193) ?_
    show Steps p.tables e below (T63.setTop (mkF m 194 #[.val (.int p1), .val (.int p2), .val (.int p3), .val (.int p4), .val (.int p5), .val (.ref b1), .val (.int (4 : Int32)), .val (.ref b37_1)] [(.int (1 : Int32))])) _
    refine XS.goto X63.here hx rfl (pc0 := 194) (pc' := 198) rfl (hb hby at_194) (by decide) (by decide) ?_
    show Steps p.tables e below (T63.setTop (mkF m 198 #[.val (.int p1), .val (.int p2), .val (.int p3), .val (.int p4), .val (.int p5), .val (.ref b1), .val (.int (4 : Int32)), .val (.ref b37_1)] [(.int (1 : Int32))])) _
    exact retN X63 hx (t := .boolean) Bd.returns (by simp) (hb hby at_198) hr
  · show Q_law Z p1 p2 p3 p4 p5 h0 n0 _ T63.heap _
    rw [e63]
    exact ⟨rfl, N64⟩
theorem own_byte (x : Int32) : (x.toInt8.toInt32 &&& (255 : Int32)) = (x &&& (255 : Int32)) := by
  have a := c_mask x.toInt8.toInt32 255 8 (by decide) (by decide)
  have b := c_mask x 255 8 (by decide) (by decide)
  have c := c_i2b x
  exact own_eq32 (by omega)
theorem own_b2 (x : Int32) : ((x.toInt8.toInt32).toInt8.toInt32 &&& (255 : Int32)) = (x &&& (255 : Int32)) := by rw [own_byte, own_byte]
theorem own_w24 (x : Int32) : ((((((x.toUInt32 >>> ((24 : Int32) &&& 31).toUInt32).toInt32)).toInt8.toInt32).toInt8.toInt32) &&& (255 : Int32)) = ((x >>> ((24 : Int32) &&& 31)) &&& (255 : Int32)) := by
  rw [own_b2]
  have a := c_mask ((x.toUInt32 >>> ((24 : Int32) &&& 31).toUInt32).toInt32) 255 8 (by decide) (by decide)
  have b := c_mask (x >>> ((24 : Int32) &&& 31)) 255 8 (by decide) (by decide)
  have c := c_iushr x 24 24 (by decide) (by decide)
  have d := c_ishr x 24 24 (by decide)
  exact own_eq32 (by omega)
theorem own_w16 (x : Int32) : ((((((x.toUInt32 >>> ((16 : Int32) &&& 31).toUInt32).toInt32)).toInt8.toInt32).toInt8.toInt32) &&& (255 : Int32)) = ((x >>> ((16 : Int32) &&& 31)) &&& (255 : Int32)) := by
  rw [own_b2]
  have a := c_mask ((x.toUInt32 >>> ((16 : Int32) &&& 31).toUInt32).toInt32) 255 8 (by decide) (by decide)
  have b := c_mask (x >>> ((16 : Int32) &&& 31)) 255 8 (by decide) (by decide)
  have c := c_iushr x 16 16 (by decide) (by decide)
  have d := c_ishr x 16 16 (by decide)
  exact own_eq32 (by omega)
theorem own_w8 (x : Int32) : ((((((x.toUInt32 >>> ((8 : Int32) &&& 31).toUInt32).toInt32)).toInt8.toInt32).toInt8.toInt32) &&& (255 : Int32)) = ((x >>> ((8 : Int32) &&& 31)) &&& (255 : Int32)) := by
  rw [own_b2]
  have a := c_mask ((x.toUInt32 >>> ((8 : Int32) &&& 31).toUInt32).toInt32) 255 8 (by decide) (by decide)
  have b := c_mask (x >>> ((8 : Int32) &&& 31)) 255 8 (by decide) (by decide)
  have c := c_iushr x 8 8 (by decide) (by decide)
  have d := c_ishr x 8 8 (by decide)
  exact own_eq32 (by omega)
theorem own_w0 (x : Int32) : (((x.toInt8.toInt32).toInt8.toInt32) &&& (255 : Int32)) = ((x >>> ((0 : Int32) &&& 31)) &&& (255 : Int32)) := by
  rw [own_b2]
  have b := c_mask (x >>> ((0 : Int32) &&& 31)) 255 8 (by decide) (by decide)
  have a := c_mask x 255 8 (by decide) (by decide)
  have d := c_ishr x 0 0 (by decide)
  exact own_eq32 (by omega)
theorem own_hi (v : Int32) : (((v &&& (65280 : Int32)).toUInt32 >>> ((8 : Int32) &&& 31).toUInt32).toInt32) = (((v.toUInt32 >>> ((8 : Int32) &&& 31).toUInt32).toInt32) &&& (255 : Int32)) := by
  apply Int32.toBitVec_inj.mp
  show ((v.toBitVec &&& 65280#32) >>> 8#32) = ((v.toBitVec >>> 8#32) &&& 255#32)
  rw [BitVec.ushiftRight_eq', BitVec.ushiftRight_eq', BitVec.ushiftRight_and_distrib]
  rfl
theorem own_c15 (p1 : Int32) : ¬ ((p1 &&& (15 : Int32)) < (0 : Int32)) ∧ (p1 &&& (15 : Int32)).toNatClampNeg ≤ 15 ∧ own_B (0 : Int32) (p1 &&& (15 : Int32)) (List.replicate 16 (.int (0 : Int32))) := by
  have e := c_mask p1 15 4 (by decide) (by decide)
  have z0 : (0 : Int32).toInt = 0 := by decide
  exact ⟨by rw [own_lt32]; omega, by simp only [Int32.toNatClampNeg]; omega, ⟨by decide, by omega, by omega, by simp, fun i _ => own_rep_getD _ _ _⟩⟩
theorem own_sne {vs : List Value} {i j : Nat} {v d : Value} (h : i ≠ j) : own_at (vs.set j v) i d = own_at vs i d := by unfold own_at; rw [own_set_getD vs j i v d h]
theorem own_seq {vs : List Value} {i : Nat} {x : Int32} {d : Value} (h : i < vs.length) : own_at (vs.set i (.int x)) i d = x := by
  unfold own_at
  simp only [List.getD_eq_getElem?_getD, List.getElem?_set_self h, Option.getD_some]
theorem own_and {a b c : Int32} (h : a = b) (k : (b &&& (255 : Int32)) = c) : (a &&& (255 : Int32)) = c := by rw [h]; exact k
theorem own_o0 (p2 p3 : Int32) : f_orig (0 : Int32) p2 p3 = ((p2 >>> ((24 : Int32) &&& 31)) &&& (255 : Int32)) := by
  unfold f_orig; rw [if_pos (by decide)]; rfl
theorem own_o1 (p2 p3 : Int32) : f_orig (1 : Int32) p2 p3 = ((p2 >>> ((16 : Int32) &&& 31)) &&& (255 : Int32)) := by
  unfold f_orig; rw [if_pos (by decide)]; rfl
theorem own_o2 (p2 p3 : Int32) : f_orig (2 : Int32) p2 p3 = ((p2 >>> ((8 : Int32) &&& 31)) &&& (255 : Int32)) := by
  unfold f_orig; rw [if_pos (by decide)]; rfl
theorem own_o3 (p2 p3 : Int32) : f_orig (3 : Int32) p2 p3 = ((p2 >>> ((0 : Int32) &&& 31)) &&& (255 : Int32)) := by
  unfold f_orig; rw [if_pos (by decide)]; rfl
theorem own_o4 (p2 p3 : Int32) : f_orig (4 : Int32) p2 p3 = ((p3 >>> ((24 : Int32) &&& 31)) &&& (255 : Int32)) := by
  unfold f_orig; rw [if_neg (by decide)]; rfl
theorem own_o5 (p2 p3 : Int32) : f_orig (5 : Int32) p2 p3 = ((p3 >>> ((16 : Int32) &&& 31)) &&& (255 : Int32)) := by
  unfold f_orig; rw [if_neg (by decide)]; rfl
theorem own_o6 (p2 p3 : Int32) : f_orig (6 : Int32) p2 p3 = ((p3 >>> ((8 : Int32) &&& 31)) &&& (255 : Int32)) := by
  unfold f_orig; rw [if_neg (by decide)]; rfl
theorem own_o7 (p2 p3 : Int32) : f_orig (7 : Int32) p2 p3 = ((p3 >>> ((0 : Int32) &&& 31)) &&& (255 : Int32)) := by
  unfold f_orig; rw [if_neg (by decide)]; rfl
theorem own_at5 (x : Int32) : (x &&& (2147483647 : Int32)) % (5 : Int32) = (0 : Int32) ∨ (x &&& (2147483647 : Int32)) % (5 : Int32) = (1 : Int32) ∨ (x &&& (2147483647 : Int32)) % (5 : Int32) = (2 : Int32) ∨ (x &&& (2147483647 : Int32)) % (5 : Int32) = (3 : Int32) ∨ (x &&& (2147483647 : Int32)) % (5 : Int32) = (4 : Int32) := by
  have r := own_imod_rng (x &&& 2147483647) 5 (own_mI x).1 (by decide)
  have z5 : (5 : Int32).toInt = 5 := by decide
  have g : ∀ k : Int32, ((x &&& 2147483647) % 5).toInt = k.toInt → (x &&& 2147483647) % 5 = k := fun k h => own_eq32 h
  have z0' : (0 : Int32).toInt = 0 := by decide
  have z1' : (1 : Int32).toInt = 1 := by decide
  have z2' : (2 : Int32).toInt = 2 := by decide
  have z3' : (3 : Int32).toInt = 3 := by decide
  have z4' : (4 : Int32).toInt = 4 := by decide
  by_cases c0 : ((x &&& 2147483647) % 5).toInt = 0
  · exact Or.inl (g 0 (by omega))
  by_cases c1 : ((x &&& 2147483647) % 5).toInt = 1
  · exact Or.inr (Or.inl (g 1 (by omega)))
  by_cases c2 : ((x &&& 2147483647) % 5).toInt = 2
  · exact Or.inr (Or.inr (Or.inl (g 2 (by omega))))
  by_cases c3 : ((x &&& 2147483647) % 5).toInt = 3
  · exact Or.inr (Or.inr (Or.inr (Or.inl (g 3 (by omega)))))
  exact Or.inr (Or.inr (Or.inr (Or.inr ((g 4 (by omega))))))
set_option maxHeartbeats 4000000 in
theorem own_plain (p1 p2 p3 p4 p5 : Int32) : Road_at0 p1 p2 p3 p4 p5 ∨ Road_at1 p1 p2 p3 p4 p5 ∨ Road_at2 p1 p2 p3 p4 p5 ∨ Road_at3 p1 p2 p3 p4 p5 ∨ Road_at4 p1 p2 p3 p4 p5 := by
  obtain ⟨k1, k2, k3⟩ := own_c15 p1
  rcases own_at5 p4 with h | h | h | h | h
  · exact Or.inl ⟨k1, k2, k3, h, own_and ((own_sne (by decide)).trans ((own_sne (by decide)).trans ((own_sne (by decide)).trans (own_seq (by simp only [List.length_set, List.length_replicate]; decide))))) (own_w24 p5), own_and ((own_sne (by decide)).trans ((own_sne (by decide)).trans (own_seq (by simp only [List.length_set, List.length_replicate]; decide)))) (own_w16 p5), own_and ((own_sne (by decide)).trans (own_seq (by simp only [List.length_set, List.length_replicate]; decide))) (own_w8 p5), own_and (own_seq (by simp only [List.length_set, List.length_replicate]; decide)) (own_w0 p5), own_and ((own_sne (by decide)).trans ((own_sne (by decide)).trans ((own_sne (by decide)).trans ((own_sne (by decide)).trans ((own_sne (by decide)).trans ((own_sne (by decide)).trans ((own_sne (by decide)).trans (own_seq (by simp only [List.length_set, List.length_replicate]; decide))))))))) ((own_w24 p3).trans (own_o4 p2 p3).symm), own_and ((own_sne (by decide)).trans ((own_sne (by decide)).trans ((own_sne (by decide)).trans ((own_sne (by decide)).trans ((own_sne (by decide)).trans ((own_sne (by decide)).trans (own_seq (by simp only [List.length_set, List.length_replicate]; decide)))))))) ((own_w16 p3).trans (own_o5 p2 p3).symm), own_and ((own_sne (by decide)).trans ((own_sne (by decide)).trans ((own_sne (by decide)).trans ((own_sne (by decide)).trans ((own_sne (by decide)).trans (own_seq (by simp only [List.length_set, List.length_replicate]; decide))))))) ((own_w8 p3).trans (own_o6 p2 p3).symm), own_and ((own_sne (by decide)).trans ((own_sne (by decide)).trans ((own_sne (by decide)).trans ((own_sne (by decide)).trans (own_seq (by simp only [List.length_set, List.length_replicate]; decide)))))) ((own_w0 p3).trans (own_o7 p2 p3).symm)⟩
  · exact Or.inr (Or.inl ⟨k1, k2, k3, h, own_and ((own_sne (by decide)).trans ((own_sne (by decide)).trans ((own_sne (by decide)).trans ((own_sne (by decide)).trans ((own_sne (by decide)).trans ((own_sne (by decide)).trans ((own_sne (by decide)).trans ((own_sne (by decide)).trans ((own_sne (by decide)).trans ((own_sne (by decide)).trans ((own_sne (by decide)).trans (own_seq (by simp only [List.length_set, List.length_replicate]; decide))))))))))))) ((own_w24 p2).trans (own_o0 p2 p3).symm), own_and ((own_sne (by decide)).trans ((own_sne (by decide)).trans ((own_sne (by decide)).trans (own_seq (by simp only [List.length_set, List.length_replicate]; decide))))) (own_w24 p5), own_and ((own_sne (by decide)).trans ((own_sne (by decide)).trans (own_seq (by simp only [List.length_set, List.length_replicate]; decide)))) (own_w16 p5), own_and ((own_sne (by decide)).trans (own_seq (by simp only [List.length_set, List.length_replicate]; decide))) (own_w8 p5), own_and (own_seq (by simp only [List.length_set, List.length_replicate]; decide)) (own_w0 p5), own_and ((own_sne (by decide)).trans ((own_sne (by decide)).trans ((own_sne (by decide)).trans ((own_sne (by decide)).trans ((own_sne (by decide)).trans ((own_sne (by decide)).trans (own_seq (by simp only [List.length_set, List.length_replicate]; decide)))))))) ((own_w16 p3).trans (own_o5 p2 p3).symm), own_and ((own_sne (by decide)).trans ((own_sne (by decide)).trans ((own_sne (by decide)).trans ((own_sne (by decide)).trans ((own_sne (by decide)).trans (own_seq (by simp only [List.length_set, List.length_replicate]; decide))))))) ((own_w8 p3).trans (own_o6 p2 p3).symm), own_and ((own_sne (by decide)).trans ((own_sne (by decide)).trans ((own_sne (by decide)).trans ((own_sne (by decide)).trans (own_seq (by simp only [List.length_set, List.length_replicate]; decide)))))) ((own_w0 p3).trans (own_o7 p2 p3).symm)⟩)
  · exact Or.inr (Or.inr (Or.inl ⟨k1, k2, k3, h, own_and ((own_sne (by decide)).trans ((own_sne (by decide)).trans ((own_sne (by decide)).trans ((own_sne (by decide)).trans ((own_sne (by decide)).trans ((own_sne (by decide)).trans ((own_sne (by decide)).trans ((own_sne (by decide)).trans ((own_sne (by decide)).trans ((own_sne (by decide)).trans ((own_sne (by decide)).trans (own_seq (by simp only [List.length_set, List.length_replicate]; decide))))))))))))) ((own_w24 p2).trans (own_o0 p2 p3).symm), own_and ((own_sne (by decide)).trans ((own_sne (by decide)).trans ((own_sne (by decide)).trans ((own_sne (by decide)).trans ((own_sne (by decide)).trans ((own_sne (by decide)).trans ((own_sne (by decide)).trans ((own_sne (by decide)).trans ((own_sne (by decide)).trans ((own_sne (by decide)).trans (own_seq (by simp only [List.length_set, List.length_replicate]; decide)))))))))))) ((own_w16 p2).trans (own_o1 p2 p3).symm), own_and ((own_sne (by decide)).trans ((own_sne (by decide)).trans ((own_sne (by decide)).trans (own_seq (by simp only [List.length_set, List.length_replicate]; decide))))) (own_w24 p5), own_and ((own_sne (by decide)).trans ((own_sne (by decide)).trans (own_seq (by simp only [List.length_set, List.length_replicate]; decide)))) (own_w16 p5), own_and ((own_sne (by decide)).trans (own_seq (by simp only [List.length_set, List.length_replicate]; decide))) (own_w8 p5), own_and (own_seq (by simp only [List.length_set, List.length_replicate]; decide)) (own_w0 p5), own_and ((own_sne (by decide)).trans ((own_sne (by decide)).trans ((own_sne (by decide)).trans ((own_sne (by decide)).trans ((own_sne (by decide)).trans (own_seq (by simp only [List.length_set, List.length_replicate]; decide))))))) ((own_w8 p3).trans (own_o6 p2 p3).symm), own_and ((own_sne (by decide)).trans ((own_sne (by decide)).trans ((own_sne (by decide)).trans ((own_sne (by decide)).trans (own_seq (by simp only [List.length_set, List.length_replicate]; decide)))))) ((own_w0 p3).trans (own_o7 p2 p3).symm)⟩))
  · exact Or.inr (Or.inr (Or.inr (Or.inl ⟨k1, k2, k3, h, own_and ((own_sne (by decide)).trans ((own_sne (by decide)).trans ((own_sne (by decide)).trans ((own_sne (by decide)).trans ((own_sne (by decide)).trans ((own_sne (by decide)).trans ((own_sne (by decide)).trans ((own_sne (by decide)).trans ((own_sne (by decide)).trans ((own_sne (by decide)).trans ((own_sne (by decide)).trans (own_seq (by simp only [List.length_set, List.length_replicate]; decide))))))))))))) ((own_w24 p2).trans (own_o0 p2 p3).symm), own_and ((own_sne (by decide)).trans ((own_sne (by decide)).trans ((own_sne (by decide)).trans ((own_sne (by decide)).trans ((own_sne (by decide)).trans ((own_sne (by decide)).trans ((own_sne (by decide)).trans ((own_sne (by decide)).trans ((own_sne (by decide)).trans ((own_sne (by decide)).trans (own_seq (by simp only [List.length_set, List.length_replicate]; decide)))))))))))) ((own_w16 p2).trans (own_o1 p2 p3).symm), own_and ((own_sne (by decide)).trans ((own_sne (by decide)).trans ((own_sne (by decide)).trans ((own_sne (by decide)).trans ((own_sne (by decide)).trans ((own_sne (by decide)).trans ((own_sne (by decide)).trans ((own_sne (by decide)).trans ((own_sne (by decide)).trans (own_seq (by simp only [List.length_set, List.length_replicate]; decide))))))))))) ((own_w8 p2).trans (own_o2 p2 p3).symm), own_and ((own_sne (by decide)).trans ((own_sne (by decide)).trans ((own_sne (by decide)).trans (own_seq (by simp only [List.length_set, List.length_replicate]; decide))))) (own_w24 p5), own_and ((own_sne (by decide)).trans ((own_sne (by decide)).trans (own_seq (by simp only [List.length_set, List.length_replicate]; decide)))) (own_w16 p5), own_and ((own_sne (by decide)).trans (own_seq (by simp only [List.length_set, List.length_replicate]; decide))) (own_w8 p5), own_and (own_seq (by simp only [List.length_set, List.length_replicate]; decide)) (own_w0 p5), own_and ((own_sne (by decide)).trans ((own_sne (by decide)).trans ((own_sne (by decide)).trans ((own_sne (by decide)).trans (own_seq (by simp only [List.length_set, List.length_replicate]; decide)))))) ((own_w0 p3).trans (own_o7 p2 p3).symm)⟩)))
  · exact Or.inr (Or.inr (Or.inr (Or.inr (⟨k1, k2, k3, h, own_and ((own_sne (by decide)).trans ((own_sne (by decide)).trans ((own_sne (by decide)).trans ((own_sne (by decide)).trans ((own_sne (by decide)).trans ((own_sne (by decide)).trans ((own_sne (by decide)).trans ((own_sne (by decide)).trans ((own_sne (by decide)).trans ((own_sne (by decide)).trans ((own_sne (by decide)).trans (own_seq (by simp only [List.length_set, List.length_replicate]; decide))))))))))))) ((own_w24 p2).trans (own_o0 p2 p3).symm), own_and ((own_sne (by decide)).trans ((own_sne (by decide)).trans ((own_sne (by decide)).trans ((own_sne (by decide)).trans ((own_sne (by decide)).trans ((own_sne (by decide)).trans ((own_sne (by decide)).trans ((own_sne (by decide)).trans ((own_sne (by decide)).trans ((own_sne (by decide)).trans (own_seq (by simp only [List.length_set, List.length_replicate]; decide)))))))))))) ((own_w16 p2).trans (own_o1 p2 p3).symm), own_and ((own_sne (by decide)).trans ((own_sne (by decide)).trans ((own_sne (by decide)).trans ((own_sne (by decide)).trans ((own_sne (by decide)).trans ((own_sne (by decide)).trans ((own_sne (by decide)).trans ((own_sne (by decide)).trans ((own_sne (by decide)).trans (own_seq (by simp only [List.length_set, List.length_replicate]; decide))))))))))) ((own_w8 p2).trans (own_o2 p2 p3).symm), own_and ((own_sne (by decide)).trans ((own_sne (by decide)).trans ((own_sne (by decide)).trans ((own_sne (by decide)).trans ((own_sne (by decide)).trans ((own_sne (by decide)).trans ((own_sne (by decide)).trans ((own_sne (by decide)).trans (own_seq (by simp only [List.length_set, List.length_replicate]; decide)))))))))) ((own_w0 p2).trans (own_o3 p2 p3).symm), own_and ((own_sne (by decide)).trans ((own_sne (by decide)).trans ((own_sne (by decide)).trans (own_seq (by simp only [List.length_set, List.length_replicate]; decide))))) (own_w24 p5), own_and ((own_sne (by decide)).trans ((own_sne (by decide)).trans (own_seq (by simp only [List.length_set, List.length_replicate]; decide)))) (own_w16 p5), own_and ((own_sne (by decide)).trans (own_seq (by simp only [List.length_set, List.length_replicate]; decide))) (own_w8 p5), own_and (own_seq (by simp only [List.length_set, List.length_replicate]; decide)) (own_w0 p5)⟩))))
set_option maxRecDepth 65536 in
set_option maxHeartbeats 40000000 in
theorem rm_law (l : Launch) (Z : State) (a0 : Array Value) (hw : ∀ d ∈ tables_1, d.before a0 Z = true) (ws : List Jvm.Cond) (p1 : Int32) (p2 : Int32) (p3 : Int32) (p4 : Int32) (p5 : Int32) (h0 : Heap) (n0 : Nat) (Z0 : n0 ≤ h0.size) :
    MetFree l x (head1 (Jvm.Cond.code x code maxLocals ret :: ws) room_1) (fun a U => a = #[(.int p1), (.int p2), (.int p3), (.int p4), (.int p5)] ∧ Z.Warmed39 U.vm ∧ U.heap = h0) (fun _ _ _ _ _ => True) (fun _ U o U' => ∃ v L, o = .returned v ∧ Q_law Z p1 p2 p3 p4 p5 h0 n0 v U'.heap L ∧ FrameEnd U o U' L room_1.cells room_1.slots) := by
  rcases own_plain p1 p2 p3 p4 p5 with h | h | h | h | h
  · exact rm_law_at0 l Z a0 hw ws p1 p2 p3 p4 p5 h0 n0 Z0 h
  · exact rm_law_at1 l Z a0 hw ws p1 p2 p3 p4 p5 h0 n0 Z0 h
  · exact rm_law_at2 l Z a0 hw ws p1 p2 p3 p4 p5 h0 n0 Z0 h
  · exact rm_law_at3 l Z a0 hw ws p1 p2 p3 p4 p5 h0 n0 Z0 h
  · exact rm_law_at4 l Z a0 hw ws p1 p2 p3 p4 p5 h0 n0 Z0 h
set_option maxRecDepth 65536 in
set_option maxHeartbeats 40000000 in
theorem comes_1 {Post : Tables → Env → Array Value → State → Outcome → State → Prop} (hpost : ∀ tb e args s v u, (limb_1_1.after args s (.returned v) u = true ∧ limb_1_2.after args s (.returned v) u = true ∧ True) → FrameEnd s (.returned v) u (Jvm.fieldLocs frame_1_writes args s ++ Jvm.arrayLocs frame_1_arrays args s ++ Jvm.staticLocs frame_1_statics s) 24 128 → Post tb e args s (.returned v) u) :
    ArmFor flags0 classFile x code maxLocals ret World_1 tables_1 room_1 Calls_1 rest_1 Pre_1 Post := by
  intro l hfl _ _ p e ha hc hk s m args below hf hA hF happ hP
  obtain ⟨hcalls, hrest, hpre⟩ := hP
  obtain ⟨-, -, -, hnamed, -, -, -, hat⟩ := (Spec.applies_iff hf).mp happ
  obtain ⟨hg, hn⟩ := and_e (Cond.before_iff.mp (show (Jvm.Cond.and given_1 narrow_1).before args s = true from hpre))
  obtain ⟨g1, g2⟩ := and_e hg
  obtain ⟨g3, g4⟩ := and_e g2
  obtain ⟨g5, g6⟩ := and_e g4
  obtain ⟨g7, g8⟩ := and_e g6
  obtain ⟨g9, g10⟩ := and_e g8
  obtain ⟨w0, w1, w2, w3, w4, rfl⟩ : ∃ w0 w1 w2 w3 w4 : Value, args = #[w0, w1, w2, w3, w4] := by
    have hs : args.size = 5 := by simpa [Cond.value, given_1] using g1
    obtain ⟨L⟩ := args
    match L, hs with
    | [w0, w1, w2, w3, w4], _ => exact ⟨w0, w1, w2, w3, w4, rfl⟩
  have hw := fun d (hd : d ∈ tables_1) => atoms_spec (ws := Jvm.Cond.code x code maxLocals ret :: tables_1) hat d (List.mem_cons_of_mem _ hd)
  have hfit : Fit s := fun {y c} hc i hi => by
    obtain ⟨ha, rfl⟩ := Array.getElem?_eq_some_iff.mp hc
    have q := List.all_eq_true.mp ((Array.all_eq_true_iff_forall_mem.mp hF) _ (Array.getElem_mem ha)) i (List.mem_range.mpr hi)
    simpa [Array.getElem?_eq_getElem hi] using q
  obtain ⟨i0, ei0⟩ := is_v g3
  obtain rfl : w0 = (.int i0) := Option.some.inj ei0
  obtain ⟨i1, ei1⟩ := is_v g5
  obtain rfl : w1 = (.int i1) := Option.some.inj ei1
  obtain ⟨i2, ei2⟩ := is_v g7
  obtain rfl : w2 = (.int i2) := Option.some.inj ei2
  obtain ⟨i3, ei3⟩ := is_v g9
  obtain rfl : w3 = (.int i3) := Option.some.inj ei3
  obtain ⟨i4, ei4⟩ := is_v g10
  obtain rfl : w4 = (.int i4) := Option.some.inj ei4
  obtain ⟨n, o, h1, h2, h3, _, L, rfl, ⟨rfl, N⟩, hq⟩ := rm_law l s _ hw tables_1 i0 i1 i2 i3 i4 s.heap s.heap.size (Nat.le_refl _) p e ha hc hk s m _ below hf ((Spec.applies_iff_loose hf).mp happ).1 ⟨rfl, State.Warmed39.refl s, rfl⟩ trivial
  refine ⟨n, _, h1, h2, h3, hpost _ _ _ _ _ _ ⟨Cond.after_iff.mpr rfl, Cond.after_iff.mpr (eq_i res_at (Term.int_eval (1)) rfl), trivial⟩ ⟨hq.1, hq.2.1, (hq.2.2.sift fun y hy => Or.inr (N y hy)).mono (by decide) (by decide)⟩⟩
theorem main_1_1 : Claimed_1_1 := comes_1 fun _ _ _ _ _ _ h hF => ⟨h.1, hF⟩
theorem main_1_2 : Claimed_1_2 := comes_1 fun _ _ _ _ _ _ h hF => ⟨h.2.1, hF⟩
end Jvm.Pilot.@@N@@
namespace Jvm.Pilot.@@N@@
open Jvm Jvm.ClassFile Sem Op Lib Jvm.Free Jvm.Stand Jvm.Pilot.@@N@@.Jvm.D
/-! MADE BY PROGRAM (witnessworld.py) out of the Statement's table words and the real class files: 12 classes; the members and pool entries that the words name. The judged class is class 1, her method 1. -/
namespace start1
open Jvm.ClassFile
def u (s : String) : CpInfo := .utf8 (stringToUtf16 s)
/-- a pool by its gaps: so many unusable entries, then the entry; so many at the end -/
def gap : Nat → List CpInfo → List CpInfo
  | 0, r => r
  | n + 1, r => .unusable :: gap n r
def poolList (es : List (Nat × CpInfo)) (last : Nat) : List CpInfo := es.foldr (fun e r => gap e.1 (e.2 :: r)) (gap last [])
def pool (es : List (Nat × CpInfo)) (last : Nat) : Array CpInfo := ⟨poolList es last⟩
def fileOf (pool : Array CpInfo) (this : Nat) (attrs : Array Attribute := #[]) (ms : Array MethodInfo := #[]) (fl : Nat := 33) (sup : Nat := 0) (ifs : Array Nat := #[]) (fds : Array FieldInfo := #[]) : ClassFile where
  minorVersion := 0
  majorVersion := 65
  constantPool := pool
  accessFlags := fl
  thisClass := this
  superClass := sup
  interfaces := ifs
  fields := fds
  methods := ms
  attributes := attrs
def plain (name : String) (sup : Option ClassId) : Class where
  name := name
  kind := .ordinary
  loader := none
  accessFlags := 33
  super := sup
  interfaces := #[]
  cf := none
  fields := #[]
  methods := #[]
  instanceTypes := #[]
  staticTypes := #[]
  resolved := #[]
  callSites := []
  init := .initialized
  statics := none
  mirror := none

def pool0 : Array CpInfo := pool [(5, u "<init>"), (0, u "()V"), (1, .class_ 10), (1, u "java/lang/Object"), (85, u "clone"), (0, u "()Ljava/lang/Object;")] 26

def k0c0 : Code := { maxStack := 0, maxLocals := 1, code := object_method_1_code, exceptionTable := #[], attributes := #[] }
def k0m0 : Method := { name := "<init>", desc := "()V", sig := { parameters := [], returnType := none }, accessFlags := 1, code := some k0c0 }
def k0m1 : Method := { name := "clone", desc := "()Ljava/lang/Object;", sig := { parameters := [], returnType := some (.object "java/lang/Object") }, accessFlags := 260, code := none }
/-- java/lang/Object -/
def k0 : Class := { plain "java/lang/Object" none with
  accessFlags := 33
  interfaces := #[]
  cf := some (fileOf pool0 8 #[] #[{ accessFlags := 1, nameIndex := 5, descriptorIndex := 6, attributes := #[] }, { accessFlags := 260, nameIndex := 96, descriptorIndex := 97, attributes := #[] }] 33 0 #[] #[])
  fields := #[]
  methods := #[k0m0, k0m1]
  instanceTypes := #[]
  staticTypes := #[]
  resolved := Array.replicate 124 none
  statics := none }

def pool1 : Array CpInfo := pool [(2, .class_ 4), (1, u "java/lang/Object"), (0, u "<init>"), (0, u "()V"), (0, .class_ 8), (0, u "com/example/herald/herald/bytecode/Bytes"), (0, .methodref 7 10), (0, .nameAndType 5 11), (0, u "(I)V"), (0, .methodref 7 13), (0, .nameAndType 14 11), (0, u "u4"), (0, .integer 2147483647), (0, .methodref 7 17), (0, .nameAndType 18 19), (0, u "putU4"), (0, u "(II)V"), (0, .methodref 7 21), (0, .nameAndType 22 23), (0, u "length"), (0, u "()I"), (0, .methodref 7 25), (0, .nameAndType 26 27), (0, u "toArray"), (0, u "()[B"), (0, .methodref 29 30), (0, .class_ 31), (0, .nameAndType 32 33), (0, u "com/example/herald/herald/bytecode/BytesPutU4PinLaw"), (0, u "ok"), (0, u "([BIIIII)Z"), (0, .methodref 29 35), (0, .nameAndType 36 37), (0, u "orig"), (0, u "(III)I"), (2, u "law"), (0, u "(IIIII)Z")] 5

def k1m0 : Method := { name := "<init>", desc := "()V", sig := { parameters := [], returnType := none }, accessFlags := 1, code := none }
def k1c1 : Code := { maxStack := 6, maxLocals := 8, code := code, exceptionTable := #[], attributes := #[] }
def k1m1 : Method := { name := "law", desc := "(IIIII)Z", sig := { parameters := [.int, .int, .int, .int, .int], returnType := some .boolean }, accessFlags := 9, code := some k1c1 }
def k1c2 : Code := { maxStack := 4, maxLocals := 5, code := method_3_code, exceptionTable := #[], attributes := #[] }
def k1m2 : Method := { name := "orig", desc := "(III)I", sig := { parameters := [.int, .int, .int], returnType := some .int }, accessFlags := 10, code := some k1c2 }
def k1c3 : Code := { maxStack := 5, maxLocals := 7, code := method_4_code, exceptionTable := #[], attributes := #[] }
def k1m3 : Method := { name := "ok", desc := "([BIIIII)Z", sig := { parameters := [(.array .byte), .int, .int, .int, .int, .int], returnType := some .boolean }, accessFlags := 10, code := some k1c3 }
/-- com/example/herald/herald/bytecode/BytesPutU4PinLaw -/
def k1 : Class := { plain "com/example/herald/herald/bytecode/BytesPutU4PinLaw" (some 0) with
  accessFlags := 49
  interfaces := #[]
  cf := some (fileOf pool1 29 #[] #[{ accessFlags := 1, nameIndex := 5, descriptorIndex := 6, attributes := #[] }, { accessFlags := 9, nameIndex := 40, descriptorIndex := 41, attributes := #[] }, { accessFlags := 10, nameIndex := 36, descriptorIndex := 37, attributes := #[] }, { accessFlags := 10, nameIndex := 32, descriptorIndex := 33, attributes := #[] }] 49 2 #[] #[])
  fields := #[]
  methods := #[k1m0, k1m1, k1m2, k1m3]
  instanceTypes := #[]
  staticTypes := #[]
  resolved := Array.replicate 47 none
  statics := none }

def pool2 : Array CpInfo := pool [(1, .methodref 2 3), (0, .class_ 4), (0, .nameAndType 5 6), (0, u "java/lang/Object"), (0, u "<init>"), (0, u "()V"), (0, .fieldref 8 9), (0, .class_ 10), (0, .nameAndType 11 12), (0, u "com/example/herald/herald/bytecode/Bytes"), (0, u "bytes"), (0, u "[B"), (0, .fieldref 8 14), (0, .nameAndType 15 16), (0, u "length"), (0, u "I"), (0, .methodref 8 18), (0, .nameAndType 19 20), (0, u "room"), (0, u "(I)V"), (6, .methodref 28 29), (0, .class_ 30), (0, .nameAndType 31 32), (0, u "java/util/Arrays"), (0, u "copyOf"), (0, u "([BI)[B"), (0, .methodref 34 35), (0, .class_ 36), (0, .nameAndType 37 38), (0, u "java/lang/Math"), (0, u "max"), (0, u "(II)I"), (2, u "()I"), (2, u "u4"), (4, u "(II)V"), (0, u "putU4"), (0, u "toArray"), (0, u "()[B")] 3

def k2c0 : Code := { maxStack := 2, maxLocals := 2, code := prog_1_method_1_code, exceptionTable := #[], attributes := #[] }
def k2m0 : Method := { name := "<init>", desc := "(I)V", sig := { parameters := [.int], returnType := none }, accessFlags := 0, code := some k2c0 }
def k2c1 : Code := { maxStack := 1, maxLocals := 1, code := prog_1_method_2_code, exceptionTable := #[], attributes := #[] }
def k2m1 : Method := { name := "length", desc := "()I", sig := { parameters := [], returnType := some .int }, accessFlags := 0, code := some k2c1 }
def k2c2 : Code := { maxStack := 4, maxLocals := 2, code := prog_1_method_5_code, exceptionTable := #[], attributes := #[] }
def k2m2 : Method := { name := "u4", desc := "(I)V", sig := { parameters := [.int], returnType := none }, accessFlags := 0, code := some k2c2 }
def k2c3 : Code := { maxStack := 4, maxLocals := 3, code := prog_1_method_9_code, exceptionTable := #[], attributes := #[] }
def k2m3 : Method := { name := "putU4", desc := "(II)V", sig := { parameters := [.int, .int], returnType := none }, accessFlags := 0, code := some k2c3 }
def k2c4 : Code := { maxStack := 2, maxLocals := 1, code := prog_1_method_10_code, exceptionTable := #[], attributes := #[] }
def k2m4 : Method := { name := "toArray", desc := "()[B", sig := { parameters := [], returnType := some (.array .byte) }, accessFlags := 0, code := some k2c4 }
def k2c5 : Code := { maxStack := 5, maxLocals := 2, code := prog_1_method_11_code, exceptionTable := #[], attributes := #[] }
def k2m5 : Method := { name := "room", desc := "(I)V", sig := { parameters := [.int], returnType := none }, accessFlags := 2, code := some k2c5 }
/-- com/example/herald/herald/bytecode/Bytes -/
def k2 : Class := { plain "com/example/herald/herald/bytecode/Bytes" (some 0) with
  accessFlags := 48
  interfaces := #[]
  cf := some (fileOf pool2 8 #[] #[{ accessFlags := 0, nameIndex := 5, descriptorIndex := 20, attributes := #[] }, { accessFlags := 0, nameIndex := 15, descriptorIndex := 41, attributes := #[] }, { accessFlags := 0, nameIndex := 44, descriptorIndex := 20, attributes := #[] }, { accessFlags := 0, nameIndex := 50, descriptorIndex := 49, attributes := #[] }, { accessFlags := 0, nameIndex := 51, descriptorIndex := 52, attributes := #[] }, { accessFlags := 2, nameIndex := 19, descriptorIndex := 20, attributes := #[] }] 48 2 #[] #[{ accessFlags := 2, nameIndex := 11, descriptorIndex := 12, attributes := #[] }, { accessFlags := 2, nameIndex := 15, descriptorIndex := 16, attributes := #[] }])
  fields := #[{ name := "bytes", type := (.array .byte), accessFlags := 2, slot := 0, constantValue := 0 }, { name := "length", type := .int, accessFlags := 2, slot := 1, constantValue := 0 }]
  methods := #[k2m0, k2m1, k2m2, k2m3, k2m4, k2m5]
  instanceTypes := #[(.array .byte), .int]
  staticTypes := #[]
  resolved := Array.replicate 56 none
  statics := none }

def pool3 : Array CpInfo := pool [(1, .class_ 2), (0, u "java/lang/Math"), (1, .class_ 6), (1, u "java/lang/Object"), (0, u "<init>"), (0, u "()V"), (89, .class_ 100), (1, u "java/lang/Math$RandomNumberGeneratorHolder"), (71, u "negativeZeroFloatBits"), (0, u "J"), (2, u "negativeZeroDoubleBits"), (21, u "max"), (2, u "min"), (43, u "$assertionsDisabled"), (0, u "Z"), (88, u "(II)I"), (2, u "twoToTheDoubleScaleDown"), (0, u "D"), (4, u "twoToTheDoubleScaleUp"), (9, u "E"), (3, u "PI"), (2, u "TAU"), (2, u "DEGREES_TO_RADIANS"), (0, u "RADIANS_TO_DEGREES")] 94

def k3m0 : Method := { name := "<init>", desc := "()V", sig := { parameters := [], returnType := none }, accessFlags := 2, code := none }
def k3c1 : Code := { maxStack := 2, maxLocals := 2, code := jdk_29_method_65_code, exceptionTable := #[], attributes := #[] }
def k3m1 : Method := { name := "max", desc := "(II)I", sig := { parameters := [.int, .int], returnType := some .int }, accessFlags := 9, code := some k3c1 }
def k3c2 : Code := { maxStack := 2, maxLocals := 2, code := jdk_29_method_69_code, exceptionTable := #[], attributes := #[] }
def k3m2 : Method := { name := "min", desc := "(II)I", sig := { parameters := [.int, .int], returnType := some .int }, accessFlags := 9, code := some k3c2 }
/-- java/lang/Math -/
def k3 : Class := { plain "java/lang/Math" (some 0) with
  accessFlags := 49
  interfaces := #[]
  cf := some (fileOf pool3 1 #[.nestMembers #[98]] #[{ accessFlags := 2, nameIndex := 7, descriptorIndex := 8, attributes := #[] }, { accessFlags := 9, nameIndex := 198, descriptorIndex := 335, attributes := #[] }, { accessFlags := 9, nameIndex := 201, descriptorIndex := 335, attributes := #[] }] 49 4 #[] #[{ accessFlags := 25, nameIndex := 354, descriptorIndex := 339, attributes := #[] }, { accessFlags := 25, nameIndex := 358, descriptorIndex := 339, attributes := #[] }, { accessFlags := 25, nameIndex := 361, descriptorIndex := 339, attributes := #[] }, { accessFlags := 26, nameIndex := 364, descriptorIndex := 339, attributes := #[] }, { accessFlags := 26, nameIndex := 365, descriptorIndex := 339, attributes := #[] }, { accessFlags := 26, nameIndex := 172, descriptorIndex := 173, attributes := #[] }, { accessFlags := 26, nameIndex := 176, descriptorIndex := 173, attributes := #[] }, { accessFlags := 8, nameIndex := 344, descriptorIndex := 339, attributes := #[] }, { accessFlags := 8, nameIndex := 338, descriptorIndex := 339, attributes := #[] }, { accessFlags := 4120, nameIndex := 245, descriptorIndex := 246, attributes := #[] }])
  fields := #[{ name := "E", type := .double, accessFlags := 25, slot := 0, constantValue := 0 }, { name := "PI", type := .double, accessFlags := 25, slot := 1, constantValue := 0 }, { name := "TAU", type := .double, accessFlags := 25, slot := 2, constantValue := 0 }, { name := "DEGREES_TO_RADIANS", type := .double, accessFlags := 26, slot := 3, constantValue := 0 }, { name := "RADIANS_TO_DEGREES", type := .double, accessFlags := 26, slot := 4, constantValue := 0 }, { name := "negativeZeroFloatBits", type := .long, accessFlags := 26, slot := 5, constantValue := 0 }, { name := "negativeZeroDoubleBits", type := .long, accessFlags := 26, slot := 6, constantValue := 0 }, { name := "twoToTheDoubleScaleUp", type := .double, accessFlags := 8, slot := 7, constantValue := 0 }, { name := "twoToTheDoubleScaleDown", type := .double, accessFlags := 8, slot := 8, constantValue := 0 }, { name := "$assertionsDisabled", type := .boolean, accessFlags := 4120, slot := 9, constantValue := 0 }]
  methods := #[k3m0, k3m1, k3m2]
  instanceTypes := #[]
  staticTypes := #[.double, .double, .double, .double, .double, .long, .long, .double, .double, .boolean]
  resolved := Array.replicate 460 none
  statics := none }

def pool4 : Array CpInfo := pool [(2, .class_ 4), (1, u "java/lang/Object"), (0, u "<init>"), (0, u "()V"), (7, .class_ 16), (1, u "java/util/Arrays"), (57, .class_ 76), (1, u "java/util/Arrays$NaturalOrder"), (32, u "()Ljava/lang/Object;"), (3, .class_ 115), (1, u "java/util/Arrays$LegacyMergeSort"), (1, u "Z"), (10, .nameAndType 129 109), (0, u "clone"), (20, .methodref 151 152), (0, .class_ 153), (0, .nameAndType 154 155), (0, u "java/lang/System"), (0, u "arraycopy"), (0, u "(Ljava/lang/Object;ILjava/lang/Object;II)V"), (146, u "copyOf"), (1, .methodref 305 306), (0, .class_ 307), (0, .nameAndType 308 309), (0, u "java/lang/Math"), (0, u "min"), (0, u "(II)I"), (0, .methodref 311 128), (0, .class_ 312), (0, u "[B"), (62, .class_ 376), (0, u "java/util/Arrays$ArrayList"), (68, u "$assertionsDisabled"), (269, u "MIN_ARRAY_SORT_GRAN"), (0, u "I"), (2, u "INSERTIONSORT_THRESHOLD"), (149, u "([BI)[B"), (105, .class_ 976), (0, u "java/util/Arrays$ArrayItr")] 52

def k4m0 : Method := { name := "<init>", desc := "()V", sig := { parameters := [], returnType := none }, accessFlags := 2, code := none }
def k4c1 : Code := { maxStack := 6, maxLocals := 3, code := jdk_65_method_121_code, exceptionTable := #[], attributes := #[] }
def k4m1 : Method := { name := "copyOf", desc := "([BI)[B", sig := { parameters := [(.array .byte), .int], returnType := some (.array .byte) }, accessFlags := 9, code := some k4c1 }
/-- java/util/Arrays -/
def k4 : Class := { plain "java/util/Arrays" (some 0) with
  accessFlags := 49
  interfaces := #[]
  cf := some (fileOf pool4 14 #[.nestMembers #[975, 375, 113, 74]] #[{ accessFlags := 2, nameIndex := 5, descriptorIndex := 6, attributes := #[] }, { accessFlags := 9, nameIndex := 302, descriptorIndex := 869, attributes := #[] }] 49 2 #[] #[{ accessFlags := 26, nameIndex := 715, descriptorIndex := 716, attributes := #[] }, { accessFlags := 26, nameIndex := 719, descriptorIndex := 716, attributes := #[] }, { accessFlags := 4120, nameIndex := 445, descriptorIndex := 117, attributes := #[] }])
  fields := #[{ name := "MIN_ARRAY_SORT_GRAN", type := .int, accessFlags := 26, slot := 0, constantValue := 0 }, { name := "INSERTIONSORT_THRESHOLD", type := .int, accessFlags := 26, slot := 1, constantValue := 0 }, { name := "$assertionsDisabled", type := .boolean, accessFlags := 4120, slot := 2, constantValue := 0 }]
  methods := #[k4m0, k4m1]
  instanceTypes := #[]
  staticTypes := #[.int, .int, .boolean]
  resolved := Array.replicate 1029 none
  statics := none }

def pool5 : Array CpInfo := pool [(2, .class_ 4), (1, u "java/lang/Object"), (0, u "<init>"), (0, u "()V"), (1, .class_ 10), (1, u "java/lang/System"), (0, u "allowSecurityManager"), (0, u "I"), (16, u "cons"), (0, u "Ljava/io/Console;"), (77, .class_ 110), (1, u "java/lang/System$CallersHolder"), (43, u "initialErrStream"), (0, u "Ljava/io/PrintStream;"), (19, u "security"), (0, u "Ljava/lang/SecurityManager;"), (31, .class_ 209), (0, u "java/lang/System$1"), (7, u "props"), (0, u "Ljava/util/Properties;"), (2, u "lineSeparator"), (0, u "Ljava/lang/String;"), (96, .class_ 321), (1, u "java/lang/System$LoggerFinder"), (5, .class_ 328), (0, u "java/lang/System$Logger"), (67, u "err"), (2, u "out"), (91, u "notSupportedJnuEncoding"), (15, u "in"), (17, u "initialIn"), (0, u "Ljava/io/InputStream;"), (35, u "bootLayer"), (0, u "Ljava/lang/ModuleLayer;"), (99, .class_ 664), (0, u "java/lang/System$2"), (9, u "NEVER"), (2, u "MAYBE"), (49, u "arraycopy"), (0, u "(Ljava/lang/Object;ILjava/lang/Object;II)V"), (72, .class_ 802), (0, u "java/lang/System$Logger$Level")] 31

def k5m0 : Method := { name := "<init>", desc := "()V", sig := { parameters := [], returnType := none }, accessFlags := 2, code := none }
def k5m1 : Method := { name := "arraycopy", desc := "(Ljava/lang/Object;ILjava/lang/Object;II)V", sig := { parameters := [(.object "java/lang/Object"), .int, (.object "java/lang/Object"), .int, .int], returnType := none }, accessFlags := 265, code := none }
/-- java/lang/System -/
def k5 : Class := { plain "java/lang/System" (some 0) with
  accessFlags := 49
  interfaces := #[]
  cf := some (fileOf pool5 8 #[.nestMembers #[319, 327, 801, 108, 663, 208]] #[{ accessFlags := 2, nameIndex := 5, descriptorIndex := 6, attributes := #[] }, { accessFlags := 265, nameIndex := 727, descriptorIndex := 728, attributes := #[] }] 49 2 #[] #[{ accessFlags := 25, nameIndex := 507, descriptorIndex := 526, attributes := #[] }, { accessFlags := 25, nameIndex := 399, descriptorIndex := 155, attributes := #[] }, { accessFlags := 25, nameIndex := 396, descriptorIndex := 155, attributes := #[] }, { accessFlags := 10, nameIndex := 525, descriptorIndex := 526, attributes := #[] }, { accessFlags := 26, nameIndex := 674, descriptorIndex := 12, attributes := #[] }, { accessFlags := 26, nameIndex := 677, descriptorIndex := 12, attributes := #[] }, { accessFlags := 10, nameIndex := 11, descriptorIndex := 12, attributes := #[] }, { accessFlags := 74, nameIndex := 175, descriptorIndex := 176, attributes := #[] }, { accessFlags := 10, nameIndex := 491, descriptorIndex := 222, attributes := #[] }, { accessFlags := 74, nameIndex := 29, descriptorIndex := 30, attributes := #[] }, { accessFlags := 74, nameIndex := 154, descriptorIndex := 155, attributes := #[] }, { accessFlags := 10, nameIndex := 217, descriptorIndex := 218, attributes := #[] }, { accessFlags := 10, nameIndex := 221, descriptorIndex := 222, attributes := #[] }, { accessFlags := 8, nameIndex := 562, descriptorIndex := 563, attributes := #[] }])
  fields := #[{ name := "in", type := (.object "java/io/InputStream"), accessFlags := 25, slot := 0, constantValue := 0 }, { name := "out", type := (.object "java/io/PrintStream"), accessFlags := 25, slot := 1, constantValue := 0 }, { name := "err", type := (.object "java/io/PrintStream"), accessFlags := 25, slot := 2, constantValue := 0 }, { name := "initialIn", type := (.object "java/io/InputStream"), accessFlags := 10, slot := 3, constantValue := 0 }, { name := "NEVER", type := .int, accessFlags := 26, slot := 4, constantValue := 0 }, { name := "MAYBE", type := .int, accessFlags := 26, slot := 5, constantValue := 0 }, { name := "allowSecurityManager", type := .int, accessFlags := 10, slot := 6, constantValue := 0 }, { name := "security", type := (.object "java/lang/SecurityManager"), accessFlags := 74, slot := 7, constantValue := 0 }, { name := "notSupportedJnuEncoding", type := (.object "java/lang/String"), accessFlags := 10, slot := 8, constantValue := 0 }, { name := "cons", type := (.object "java/io/Console"), accessFlags := 74, slot := 9, constantValue := 0 }, { name := "initialErrStream", type := (.object "java/io/PrintStream"), accessFlags := 74, slot := 10, constantValue := 0 }, { name := "props", type := (.object "java/util/Properties"), accessFlags := 10, slot := 11, constantValue := 0 }, { name := "lineSeparator", type := (.object "java/lang/String"), accessFlags := 10, slot := 12, constantValue := 0 }, { name := "bootLayer", type := (.object "java/lang/ModuleLayer"), accessFlags := 8, slot := 13, constantValue := 0 }]
  methods := #[k5m0, k5m1]
  instanceTypes := #[]
  staticTypes := #[(.object "java/io/InputStream"), (.object "java/io/PrintStream"), (.object "java/io/PrintStream"), (.object "java/io/InputStream"), .int, .int, .int, (.object "java/lang/SecurityManager"), (.object "java/lang/String"), (.object "java/io/Console"), (.object "java/io/PrintStream"), (.object "java/util/Properties"), (.object "java/lang/String"), (.object "java/lang/ModuleLayer")]
  resolved := Array.replicate 834 none
  statics := none }

def pool6 : Array CpInfo := pool [(1, .class_ 2), (0, u "java/lang/Cloneable"), (0, .class_ 4), (0, u "java/lang/Object")] 2

/-- java/lang/Cloneable -/
def k6 : Class := { plain "java/lang/Cloneable" (some 0) with
  accessFlags := 1537
  interfaces := #[]
  cf := some (fileOf pool6 1 #[] #[] 1537 3 #[] #[])
  fields := #[]
  methods := #[]
  instanceTypes := #[]
  staticTypes := #[]
  resolved := Array.replicate 7 none
  statics := none }

def pool7 : Array CpInfo := pool [(1, u "java/io/Serializable"), (0, .class_ 1), (0, u "java/lang/Object"), (0, .class_ 3)] 3

/-- java/io/Serializable -/
def k7 : Class := { plain "java/io/Serializable" (some 0) with
  accessFlags := 1537
  interfaces := #[]
  cf := some (fileOf pool7 2 #[] #[] 1537 4 #[] #[])
  fields := #[]
  methods := #[]
  instanceTypes := #[]
  staticTypes := #[]
  resolved := Array.replicate 8 none
  statics := none }

/-- the primitive byte -/
def k8 : Class := { plain "byte" none with kind := .primitive 'B', accessFlags := 0x411 }
/-- [B -/
def k9 : Class := { plain "[B" (some 0) with kind := .array 8 .byte, interfaces := #[6, 7], accessFlags := 1041 }

/-- the primitive int -/
def k10 : Class := { plain "int" none with kind := .primitive 'I', accessFlags := 0x411 }
/-- [I -/
def k11 : Class := { plain "[I" (some 0) with kind := .array 10 .int, interfaces := #[6, 7], accessFlags := 1041 }

def heap : Heap := #[]
def classes : Array Class := #[k0, k1, k2, k3, k4, k5, k6, k7, k8, k9, k10, k11]
def interned : List (Array UInt16 × Addr) := []
def slotsUsed : Nat := 0
def theMethod : MethodId := ⟨1, 1⟩
def args0 : Array Value := #[.int 1, .int 3, .int 7, .int 9, .int 11]
def aboutOver (below : List Frame) : State where
  vm := { classes := classes, interned := interned.toArray }
  heap := heap
  slotsUsed := slotsUsed
  threads := #[{ frames := .invoking theMethod args0 :: below }]
def below0 : List Frame := [.native { method := ⟨0, 0⟩, args := #[] }]
def about1 : State := aboutOver below0
def p0 : Program := .bare "" "" ""
def e0 : Env := launch0.env 0 0 0
theorem w_frames : about1.frames = Frame.invoking theMethod args0 :: below0 := rfl
set_option maxRecDepth 65536 in
theorem w_args : argsFit about1.vm theMethod args0 = true := by decide +kernel
set_option maxRecDepth 65536 in
theorem w_heap : heapFits about1 = true := by decide +kernel
set_option maxRecDepth 65536 in
theorem w_runnable : about1.curStatus? = some .runnable := by decide +kernel
set_option maxRecDepth 65536 in
theorem w_alone : about1.alone = true := by decide +kernel
set_option maxRecDepth 65536 in
theorem w_named : about1.methodNamed? x = some theMethod := by decide +kernel
set_option maxRecDepth 65536 in
theorem w_hears : about1.hears theMethod below0 = true := by decide +kernel
set_option maxRecDepth 65536 in
theorem w_ripe : about1.ripe theMethod args0 below0 = true := by decide +kernel
theorem w_running : about1.status = .running := rfl
set_option maxRecDepth 65536 in
theorem w_room : about1.hasRoom e0.platform room_1 = true :=
  launch0.hasRoom_least _ room_1 (by decide +kernel) (by decide +kernel) (by decide +kernel) (by decide +kernel) (by decide +kernel) (by decide +kernel)
theorem allAtoms_all (ts : List Jvm.Cond) (a : Array Jvm.Value) (st : Jvm.State) : (allAtoms ts).before a st = ts.all (fun c => c.before a st) := by
  induction ts with
  | nil => rfl
  | cons c t ih =>
    show (Jvm.Cond.and c (allAtoms t)).before a st = _
    rw [Jvm.Cond.before_and, ih, List.all_cons]
def words1 : List Jvm.Cond := Jvm.Cond.code x code maxLocals ret :: tables_1
/-- a 'code' word, met by the world's own term for the bytes: nothing is compared byte by byte -/
theorem code_word {y : MethodName} {bytes : ByteArray} {mx : Nat} {rt : Option FieldType} {a : Array Value} {s : State} {m : MethodId} {meth : Method} {c : Code} (h1 : s.methodNamed? y = some m) (h2 : s.vm.method? m = some meth) (h3 : meth.code = some c) (h4 : c.code = bytes)
    (h5 : (c.maxLocals == mx && c.exceptionTable.isEmpty && decide (c.maxStack ≤ mostOperands) && decide (meth.sig.returnType = rt) && !meth.locks && decide (parseMethodDescriptor y.desc = some meth.sig)) = true) : (Jvm.Cond.code y bytes mx rt).before a s = true := by
  simp only [Bool.and_eq_true, beq_iff_eq, Bool.not_eq_true', decide_eq_true_eq] at h5
  obtain ⟨⟨⟨⟨⟨g1, g2⟩, g3⟩, g4⟩, g5⟩, g6⟩ := h5
  simp [Cond.before, Cond.holds, Cond.value, h1, h2, h3, h4, g1, g2, g3, g4, g5, g6]
def isCode : Jvm.Cond → Bool
  | .code _ _ _ _ => true
  | _ => false
theorem all_split {L : List Jvm.Cond} {P : Jvm.Cond → Bool} (h1 : L.all (fun c => isCode c || P c) = true) (h2 : ∀ c ∈ L.filter isCode, P c = true) : L.all P = true := by
  refine List.all_eq_true.mpr fun c hc => ?_
  have h := List.all_eq_true.mp h1 c hc
  rcases Bool.eq_false_or_eq_true (isCode c) with hi | hi
  · exact h2 c (List.mem_filter.mpr ⟨hc, hi⟩)
  · simpa [hi] using h
set_option maxRecDepth 65536 in
theorem w_c0 : (Jvm.Cond.code x code maxLocals ret).before args0 about1 = true := code_word (m := ⟨1, 1⟩) (meth := k1m1) (c := k1c1) (by decide +kernel) rfl rfl rfl (by decide +kernel)
set_option maxRecDepth 65536 in
theorem w_c1 : (Jvm.Cond.code ({ cls := "com/example/herald/herald/bytecode/Bytes", name := "<init>", desc := "(I)V" } : Jvm.MethodName) prog_1_method_1_code (2 : Nat) (Option.none : Option Jvm.ClassFile.FieldType)).before args0 about1 = true := code_word (m := ⟨2, 0⟩) (meth := k2m0) (c := k2c0) (by decide +kernel) rfl rfl rfl (by decide +kernel)
set_option maxRecDepth 65536 in
theorem w_c2 : (Jvm.Cond.code ({ cls := "java/lang/Object", name := "<init>", desc := "()V" } : Jvm.MethodName) object_method_1_code (1 : Nat) (Option.none : Option Jvm.ClassFile.FieldType)).before args0 about1 = true := code_word (m := ⟨0, 0⟩) (meth := k0m0) (c := k0c0) (by decide +kernel) rfl rfl rfl (by decide +kernel)
set_option maxRecDepth 65536 in
theorem w_c3 : (Jvm.Cond.code ({ cls := "com/example/herald/herald/bytecode/Bytes", name := "u4", desc := "(I)V" } : Jvm.MethodName) prog_1_method_5_code (2 : Nat) (Option.none : Option Jvm.ClassFile.FieldType)).before args0 about1 = true := code_word (m := ⟨2, 2⟩) (meth := k2m2) (c := k2c2) (by decide +kernel) rfl rfl rfl (by decide +kernel)
set_option maxRecDepth 65536 in
theorem w_c4 : (Jvm.Cond.code ({ cls := "com/example/herald/herald/bytecode/Bytes", name := "room", desc := "(I)V" } : Jvm.MethodName) prog_1_method_11_code (2 : Nat) (Option.none : Option Jvm.ClassFile.FieldType)).before args0 about1 = true := code_word (m := ⟨2, 5⟩) (meth := k2m5) (c := k2c5) (by decide +kernel) rfl rfl rfl (by decide +kernel)
set_option maxRecDepth 65536 in
theorem w_c5 : (Jvm.Cond.code ({ cls := "java/lang/Math", name := "max", desc := "(II)I" } : Jvm.MethodName) jdk_29_method_65_code (2 : Nat) (Option.some Jvm.ClassFile.FieldType.int)).before args0 about1 = true := code_word (m := ⟨3, 1⟩) (meth := k3m1) (c := k3c1) (by decide +kernel) rfl rfl rfl (by decide +kernel)
set_option maxRecDepth 65536 in
theorem w_c6 : (Jvm.Cond.code ({ cls := "java/util/Arrays", name := "copyOf", desc := "([BI)[B" } : Jvm.MethodName) jdk_65_method_121_code (3 : Nat) (Option.some (Jvm.ClassFile.FieldType.array Jvm.ClassFile.FieldType.byte))).before args0 about1 = true := code_word (m := ⟨4, 1⟩) (meth := k4m1) (c := k4c1) (by decide +kernel) rfl rfl rfl (by decide +kernel)
set_option maxRecDepth 65536 in
theorem w_c7 : (Jvm.Cond.code ({ cls := "java/lang/Math", name := "min", desc := "(II)I" } : Jvm.MethodName) jdk_29_method_69_code (2 : Nat) (Option.some Jvm.ClassFile.FieldType.int)).before args0 about1 = true := code_word (m := ⟨3, 2⟩) (meth := k3m2) (c := k3c2) (by decide +kernel) rfl rfl rfl (by decide +kernel)
set_option maxRecDepth 65536 in
theorem w_c8 : (Jvm.Cond.code ({ cls := "com/example/herald/herald/bytecode/Bytes", name := "putU4", desc := "(II)V" } : Jvm.MethodName) prog_1_method_9_code (3 : Nat) (Option.none : Option Jvm.ClassFile.FieldType)).before args0 about1 = true := code_word (m := ⟨2, 3⟩) (meth := k2m3) (c := k2c3) (by decide +kernel) rfl rfl rfl (by decide +kernel)
set_option maxRecDepth 65536 in
theorem w_c9 : (Jvm.Cond.code ({ cls := "com/example/herald/herald/bytecode/Bytes", name := "length", desc := "()I" } : Jvm.MethodName) prog_1_method_2_code (1 : Nat) (Option.some Jvm.ClassFile.FieldType.int)).before args0 about1 = true := code_word (m := ⟨2, 1⟩) (meth := k2m1) (c := k2c1) (by decide +kernel) rfl rfl rfl (by decide +kernel)
set_option maxRecDepth 65536 in
theorem w_c10 : (Jvm.Cond.code ({ cls := "com/example/herald/herald/bytecode/Bytes", name := "toArray", desc := "()[B" } : Jvm.MethodName) prog_1_method_10_code (1 : Nat) (Option.some (Jvm.ClassFile.FieldType.array Jvm.ClassFile.FieldType.byte))).before args0 about1 = true := code_word (m := ⟨2, 4⟩) (meth := k2m4) (c := k2c4) (by decide +kernel) rfl rfl rfl (by decide +kernel)
set_option maxRecDepth 65536 in
theorem w_c11 : (Jvm.Cond.code ({ cls := "com/example/herald/herald/bytecode/BytesPutU4PinLaw", name := "ok", desc := "([BIIIII)Z" } : Jvm.MethodName) method_4_code (7 : Nat) (Option.some Jvm.ClassFile.FieldType.boolean)).before args0 about1 = true := code_word (m := ⟨1, 3⟩) (meth := k1m3) (c := k1c3) (by decide +kernel) rfl rfl rfl (by decide +kernel)
set_option maxRecDepth 65536 in
theorem w_c12 : (Jvm.Cond.code ({ cls := "com/example/herald/herald/bytecode/BytesPutU4PinLaw", name := "orig", desc := "(III)I" } : Jvm.MethodName) method_3_code (5 : Nat) (Option.some Jvm.ClassFile.FieldType.int)).before args0 about1 = true := code_word (m := ⟨1, 2⟩) (meth := k1m2) (c := k1c2) (by decide +kernel) rfl rfl rfl (by decide +kernel)
def codes1 : List Jvm.Cond := [Jvm.Cond.code x code maxLocals ret, Jvm.Cond.code ({ cls := "com/example/herald/herald/bytecode/Bytes", name := "<init>", desc := "(I)V" } : Jvm.MethodName) prog_1_method_1_code (2 : Nat) (Option.none : Option Jvm.ClassFile.FieldType), Jvm.Cond.code ({ cls := "java/lang/Object", name := "<init>", desc := "()V" } : Jvm.MethodName) object_method_1_code (1 : Nat) (Option.none : Option Jvm.ClassFile.FieldType), Jvm.Cond.code ({ cls := "com/example/herald/herald/bytecode/Bytes", name := "u4", desc := "(I)V" } : Jvm.MethodName) prog_1_method_5_code (2 : Nat) (Option.none : Option Jvm.ClassFile.FieldType), Jvm.Cond.code ({ cls := "com/example/herald/herald/bytecode/Bytes", name := "room", desc := "(I)V" } : Jvm.MethodName) prog_1_method_11_code (2 : Nat) (Option.none : Option Jvm.ClassFile.FieldType), Jvm.Cond.code ({ cls := "java/lang/Math", name := "max", desc := "(II)I" } : Jvm.MethodName) jdk_29_method_65_code (2 : Nat) (Option.some Jvm.ClassFile.FieldType.int), Jvm.Cond.code ({ cls := "java/util/Arrays", name := "copyOf", desc := "([BI)[B" } : Jvm.MethodName) jdk_65_method_121_code (3 : Nat) (Option.some (Jvm.ClassFile.FieldType.array Jvm.ClassFile.FieldType.byte)), Jvm.Cond.code ({ cls := "java/lang/Math", name := "min", desc := "(II)I" } : Jvm.MethodName) jdk_29_method_69_code (2 : Nat) (Option.some Jvm.ClassFile.FieldType.int), Jvm.Cond.code ({ cls := "com/example/herald/herald/bytecode/Bytes", name := "putU4", desc := "(II)V" } : Jvm.MethodName) prog_1_method_9_code (3 : Nat) (Option.none : Option Jvm.ClassFile.FieldType), Jvm.Cond.code ({ cls := "com/example/herald/herald/bytecode/Bytes", name := "length", desc := "()I" } : Jvm.MethodName) prog_1_method_2_code (1 : Nat) (Option.some Jvm.ClassFile.FieldType.int), Jvm.Cond.code ({ cls := "com/example/herald/herald/bytecode/Bytes", name := "toArray", desc := "()[B" } : Jvm.MethodName) prog_1_method_10_code (1 : Nat) (Option.some (Jvm.ClassFile.FieldType.array Jvm.ClassFile.FieldType.byte)), Jvm.Cond.code ({ cls := "com/example/herald/herald/bytecode/BytesPutU4PinLaw", name := "ok", desc := "([BIIIII)Z" } : Jvm.MethodName) method_4_code (7 : Nat) (Option.some Jvm.ClassFile.FieldType.boolean), Jvm.Cond.code ({ cls := "com/example/herald/herald/bytecode/BytesPutU4PinLaw", name := "orig", desc := "(III)I" } : Jvm.MethodName) method_3_code (5 : Nat) (Option.some Jvm.ClassFile.FieldType.int)]
set_option maxRecDepth 65536 in
theorem codes_eq : words1.filter isCode = codes1 := rfl
theorem w_codes : ∀ c ∈ words1.filter isCode, c.before args0 about1 = true := by
  rw [codes_eq]
  intro c hc
  simp only [codes1, List.mem_cons, List.not_mem_nil, or_false] at hc
  rcases hc with rfl | rfl | rfl | rfl | rfl | rfl | rfl | rfl | rfl | rfl | rfl | rfl | rfl
  · exact w_c0
  · exact w_c1
  · exact w_c2
  · exact w_c3
  · exact w_c4
  · exact w_c5
  · exact w_c6
  · exact w_c7
  · exact w_c8
  · exact w_c9
  · exact w_c10
  · exact w_c11
  · exact w_c12
set_option maxRecDepth 65536 in
theorem w_t1 : (words1.take 24).all (fun c => isCode c || c.before args0 about1) = true := by decide +kernel
set_option maxRecDepth 65536 in
theorem w_t2 : ((words1.drop 24).take 24).all (fun c => isCode c || c.before args0 about1) = true := by decide +kernel
set_option maxRecDepth 65536 in
theorem w_t3 : ((words1.drop 24).drop 24).all (fun c => isCode c || c.before args0 about1) = true := by decide +kernel
theorem w_tables : (allAtoms (Jvm.Cond.code x code maxLocals ret :: tables_1)).before args0 about1 = true := by
  rw [allAtoms_all]
  show words1.all (fun c => c.before args0 about1) = true
  refine all_split ?_ w_codes
  rw [← List.take_append_drop 24 words1, List.all_append, w_t1, ← List.take_append_drop 24 (words1.drop 24), List.all_append, w_t2, w_t3]
  rfl
set_option maxRecDepth 65536 in
theorem w_case : (Jvm.Cond.and given_1 narrow_1).before args0 about1 = true := by decide +kernel
theorem w_applies : (headSpec (Jvm.Cond.code x code maxLocals ret :: tables_1) room_1).applies x e0.platform about1 = true :=
  (Spec.applies_iff w_frames).mpr ⟨w_running, w_runnable, w_alone, w_named, w_hears, w_ripe, w_room, w_tables⟩
theorem atStart : AtStart classFile x code maxLocals ret World_1 tables_1 room_1 Calls_1 rest_1 Pre_1 launch0 p0 e0 about1 theMethod args0 below0 :=
  ⟨lists_1, trivial, launch0.admits_env _ _ _, launch0.least_env, fairChoices_fair.cas, fairChoices_fair.clock, w_frames, w_args, w_heap, w_applies, trivial, trivial, w_case⟩
end start1
theorem witness_1 : WitnessClaimed_1 := ⟨start1.p0, start1.e0, start1.about1, start1.theMethod, start1.args0, start1.below0, start1.atStart⟩
end Jvm.Pilot.@@N@@
